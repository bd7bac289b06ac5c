import JvmDerived
import JvmDerived.Pilot.@@N@@Statement
import JvmDerived.Pilot.@@N@@Code
set_option linter.unusedVariables false
set_option linter.unusedSimpArgs false
@@BLOCK:NumsL.lean.txt@@
namespace Jvm.RoadKit
open Sem ClassFile Op Lib Jvm.Stand Jvm.Free Jvm.LawKit
section New
variable {p : Program} {l : Launch} {e : Env} {R : Room} {s : State} {m : MethodId} {args : Array Value} {below : List Frame} {meth : Method} {c : Code} {T : State} {locs : List Loc} {cells slots : Nat}
theorem retI (X : Stand p l e R s m args below meth c T locs cells slots) (hx : p.tables.exec = Jvm.exec) {pc : Nat} {Ls : Array Slot} {z : Int32} {rest : List Value} (hret : meth.sig.returnType = some .int) (hd : decode c.code pc = .ok (.ireturn, 1)) {fs : List Frame}
    (hl : ∀ (f : JFrame) (acts : List Action), f.method = m → f.locked = none → f.entered = [] → (doReturn e (T.setTop f) acts (some (.int z))).1 = T.setFrames fs) : Steps p.tables e below (T.setTop (mkF m pc Ls (.int z :: rest))) (T.setFrames fs) := by
  have hm' : T.vm.method? m = some meth := X.method'
  have hn : narrow .int (.int z) = .int z := rfl
  show Steps p.tables e below (T.setTop { method := m, pc := pc, locals := Ls, stack := _ :: rest, locked := none }) _
  jvm_step X.here [X.here.top, hx, hd, hm', hret, hn]
  first | (intro acts; rw [hl _ acts rfl rfl rfl]) | rw [hl _ _ rfl rfl rfl]
  exact Steps.refl _
end New
end Jvm.RoadKit
namespace Jvm.Pilot.@@N@@
open Jvm Jvm.ClassFile Sem Op Lib Jvm.Free Jvm.Stand Jvm.LawKit Jvm.RoadKit Bundle Jvm.Pilot.@@N@@.Jvm.D
theorem own_go {tb : Tables} {e : Env} {below : List Frame} {A B : State} {P : State → Outcome → Prop} (st : ∀ t, Steps tb e below B t → Steps tb e below A t) (h : ∃ s₂ o, Steps tb e below B s₂ ∧ P s₂ o) : ∃ s₂ o, Steps tb e below A s₂ ∧ P s₂ o := by
  obtain ⟨s₂, o, h1, h2⟩ := h
  exact ⟨s₂, o, st _ h1, h2⟩
theorem own_gj {tb : Tables} {e : Env} {below : List Frame} {A B : State} {P : State → Heap → List Loc → Prop} {F : State → State} (st : ∀ t, Steps tb e below B t → Steps tb e below A t) (h : ∃ T' h' L', P T' h' L' ∧ ∀ t, Steps tb e below (F T') t → Steps tb e below B t) : ∃ T' h' L', P T' h' L' ∧ ∀ t, Steps tb e below (F T') t → Steps tb e below A t := by
  obtain ⟨T', h', L', h1, h2⟩ := h
  exact ⟨T', h', L', h1, fun t k => st t (h2 t k)⟩
theorem own_stak {Z : State} {h h' : Heap} {C n d : String} {v : Value} (F : Sta Z h C n d v) (K : Keep h h' []) : Sta Z h' C n d v := by
  obtain ⟨cf, i, k, f, st, cell, h1, h2, h3, h4, h5, r⟩ := F
  exact ⟨cf, i, k, f, st, cell, h1, h2, h3, h4, K.2.1 _ _ h5 nin0, r⟩
abbrev own_vs (xs : List Int32) : List Value := xs.map Value.int
theorem own_map (xs : List Int32) (j : Nat) : (own_vs xs).getD j (.int (0 : Int32)) = .int (xs.getD j 0) := by
  simp only [own_vs, List.getD_eq_getElem?_getD, List.getElem?_map]
  cases xs[j]? <;> rfl
theorem own_i (x y : Int32) : (x < y) = (x.toInt < y.toInt) := by rw [Int32.lt_iff_toInt_lt]
theorem own_eqi (x y : Int32) : (x = y) = (x.toInt = y.toInt) := propext Int32.toInt_inj.symm
theorem own_add {p q : Int32} (h1 : 0 ≤ p.toInt) (h2 : p.toInt < 1000) (h3 : 0 ≤ q.toInt) (h4 : q.toInt < 1000) : (p + q).toInt = p.toInt + q.toInt := Jvm.Kit.i32_add (by omega) (by omega)
theorem own_in (p k z : Int32) (c : Int32) (h0 : ¬ p < (0 : Int32)) (h1 : p < z) (h2 : z < (9 : Int32)) (hk : 0 ≤ k.toInt ∧ k.toInt + 8 ≤ c.toInt ∧ k.toInt < 9) : ¬ (p + k) < (0 : Int32) ∧ (p + k) < c := by
  rw [own_i] at h0 h1 h2
  have e0 : (0 : Int32).toInt = 0 := rfl
  have e9 : (9 : Int32).toInt = 9 := rfl
  have := own_add (p := p) (q := k) (by omega) (by omega) (by omega) (by omega)
  rw [own_i, own_i]; omega
theorem own_in0 (p z : Int32) (h1 : p < z) (h2 : z < (9 : Int32)) : p < (11 : Int32) := by
  rw [own_i] at h1 h2 ⊢
  have e9 : (9 : Int32).toInt = 9 := rfl
  have e11 : (11 : Int32).toInt = 11 := rfl
  omega
theorem d1_0 : decode method_3_code 0 = .ok (.lload_n 0, 1) := by decide +kernel
theorem d1_1 : decode method_3_code 1 = .ok (.bipush 8, 2) := by decide +kernel
theorem d1_3 : decode method_3_code 3 = .ok (.iload 4, 2) := by decide +kernel
theorem d1_5 : decode method_3_code 5 = .ok (.imul, 1) := by decide +kernel
theorem d1_6 : decode method_3_code 6 = .ok (.lushr, 1) := by decide +kernel
theorem d1_7 : decode method_3_code 7 = .ok (.ldc2_w 24, 3) := by decide +kernel
theorem d1_10 : decode method_3_code 10 = .ok (.land, 1) := by decide +kernel
theorem d1_11 : decode method_3_code 11 = .ok (.l2i, 1) := by decide +kernel
theorem d1_12 : decode method_3_code 12 = .ok (.istore 5, 2) := by decide +kernel
theorem d1_14 : decode method_3_code 14 = .ok (.lload_n 2, 1) := by decide +kernel
theorem d1_15 : decode method_3_code 15 = .ok (.iload 4, 2) := by decide +kernel
theorem d1_17 : decode method_3_code 17 = .ok (.lushr, 1) := by decide +kernel
theorem d1_18 : decode method_3_code 18 = .ok (.lconst 1, 1) := by decide +kernel
theorem d1_19 : decode method_3_code 19 = .ok (.land, 1) := by decide +kernel
theorem d1_20 : decode method_3_code 20 = .ok (.lconst 0, 1) := by decide +kernel
theorem d1_21 : decode method_3_code 21 = .ok (.lcmp, 1) := by decide +kernel
theorem d1_22 : decode method_3_code 22 = .ok (.ifCond .eq 14, 3) := by decide +kernel
theorem d1_25 : decode method_3_code 25 = .ok (.sipush 128, 3) := by decide +kernel
theorem d1_28 : decode method_3_code 28 = .ok (.iload 5, 2) := by decide +kernel
theorem d1_30 : decode method_3_code 30 = .ok (.bipush 63, 2) := by decide +kernel
theorem d1_32 : decode method_3_code 32 = .ok (.iand, 1) := by decide +kernel
theorem d1_33 : decode method_3_code 33 = .ok (.ior, 1) := by decide +kernel
theorem d1_34 : decode method_3_code 34 = .ok (.istore 5, 2) := by decide +kernel
theorem d1_36 : decode method_3_code 36 = .ok (.iload 5, 2) := by decide +kernel
theorem d1_38 : decode method_3_code 38 = .ok (.ireturn, 1) := by decide +kernel
theorem pn_1 : plainName "com/example/ballast/ballast/model/Utf8TextIsUtf8PinLaw" = true := by first | (simp [plainName, overriddenIn]; done) | decide +kernel
theorem ef_1 (m : MethodId) (q0 : Int64) (q1 : Int64) (p2 : Int32) : entryFrame m #[(.long q0), (.long q1), (.int p2)] 6 = mkF m 0 #[.val (.long q0), .second, .val (.long q1), .second, .val (.int p2), .unset] [] := by first | (simp [entryFrame, mkF, argsToLocals, Value.category]; done) | rfl
def own_unit (q0 : Int64) (q1 : Int64) (p2 : Int32) : Int32 := (if (lcmpW (((q1.toUInt64 >>> (p2 &&& 0x3f).toInt64.toUInt64).toInt64) &&& (1 : Int64)) (0 : Int64)) = (0 : Int32) then ((((q0.toUInt64 >>> (((8 : Int32) * p2) &&& 0x3f).toInt64.toUInt64).toInt64) &&& (255 : Int64)).toInt32) else ((128 : Int32) ||| (((((q0.toUInt64 >>> (((8 : Int32) * p2) &&& 0x3f).toInt64.toUInt64).toInt64) &&& (255 : Int64)).toInt32) &&& (63 : Int32))))
def Q1 (Z : State) (q0 : Int64) (q1 : Int64) (p2 : Int32) (h0 : Heap) (n0 : Nat) (v : Option Value) (h : Heap) (L : List Loc) : Prop := v = some (.int (own_unit q0 q1 p2)) ∧ Fr n0 L ∧ h = h0
set_option maxRecDepth 65536 in
set_option maxHeartbeats 40000000 in
theorem rm1 (l : Launch) (Z : State) (av0 : Array Value) (hw : ∀ d ∈ tables_1, d.before av0 Z = true) (ws : List Jvm.Cond) (q0 : Int64) (q1 : Int64) (p2 : Int32) (h0 : Heap) (n0 : Nat) (Z0 : n0 ≤ h0.size) :
    MetFree l (⟨"com/example/ballast/ballast/model/Utf8TextIsUtf8PinLaw", "unit", "(JJI)I"⟩ : MethodName) (head1 (Jvm.Cond.code (⟨"com/example/ballast/ballast/model/Utf8TextIsUtf8PinLaw", "unit", "(JJI)I"⟩ : MethodName) method_3_code 6 (some .int) :: ws) ({ frames := 0, cells := 0, slots := 0, locals := 0 } : Room)) (fun a U => a = #[(.long q0), (.long q1), (.int p2)] ∧ Z.Warmed39 U.vm ∧ U.heap = h0) (fun _ _ _ _ _ => True) (fun _ U o U' => ∃ v L, o = .returned v ∧ Q1 Z q0 q1 p2 h0 n0 v U'.heap L ∧ FrameEnd U o U' L ({ frames := 0, cells := 0, slots := 0, locals := 0 } : Room).cells ({ frames := 0, cells := 0, slots := 0, locals := 0 } : Room).slots) := by
  refine MetFree.of_bodySF (plainFor_of_name pn_1) hisR ?_
  intro p e s m args below meth c s₁ Bd hml0 hP hK
  obtain ⟨rfl, hZ, hh⟩ := hP
  have hx := Bd.exec
  have hby := Bd.bytes
  have hml : c.maxLocals = 6 := hml0
  have hown : s.vm.findClass "com/example/ballast/ballast/model/Utf8TextIsUtf8PinLaw" = some m.cls := findClass_of_methodNamed Bd.named
  have hnm := (name_of_methodNamed Bd.named Bd.method).1
  have X0 : Stand p l e ({ frames := 0, cells := 0, slots := 0, locals := 0 } : Room) s m #[(.long q0), (.long q1), (.int p2)] below meth c s₁ [] 0 0 := Stand.of_body Bd
  have e0 : s₁.heap = h0 := by rw [← hh, Bd.state]; rfl
  have N0 := Fr.nil n0
  have K0 : Keep h0 h0 [] := Keep.refl h0 []
  refine own_go (B := s₁.setTop (mkF m 0 #[.val (.long q0), .second, .val (.long q1), .second, .val (.int p2), .unset] [])) (fun t k => castTop (ef_1 m q0 q1 p2) k) ?_
  refine own_go (B := s₁.setTop (mkF m 22 #[.val (.long q0), .second, .val (.long q1), .second, .val (.int p2), .val (.int ((((q0.toUInt64 >>> (((8 : Int32) * p2) &&& 0x3f).toInt64.toUInt64).toInt64) &&& (255 : Int64)).toInt32))] [(.int (lcmpW (((q1.toUInt64 >>> (p2 &&& 0x3f).toInt64.toUInt64).toInt64) &&& (1 : Int64)) (0 : Int64)))])) (fun t k => ?_) ?_
  · show Steps p.tables e below (s₁.setTop (mkF m 0 #[.val (.long q0), .second, .val (.long q1), .second, .val (.int p2), .unset] [])) _
    refine XS.lloadN X0.here hx rfl (hb hby d1_0) rfl ?_
    show Steps p.tables e below (s₁.setTop (mkF m 1 #[.val (.long q0), .second, .val (.long q1), .second, .val (.int p2), .unset] [(.long q0)])) _
    refine XS.bipush X0.here hx rfl (hb hby d1_1) ?_
    show Steps p.tables e below (s₁.setTop (mkF m 3 #[.val (.long q0), .second, .val (.long q1), .second, .val (.int p2), .unset] [(.int (8 : Int32)), (.long q0)])) _
    refine XS.iload X0.here hx rfl (hb hby d1_3) rfl ?_
    show Steps p.tables e below (s₁.setTop (mkF m 5 #[.val (.long q0), .second, .val (.long q1), .second, .val (.int p2), .unset] [(.int p2), (.int (8 : Int32)), (.long q0)])) _
    refine XS.imul X0.here hx rfl (hb hby d1_5) rfl ?_
    show Steps p.tables e below (s₁.setTop (mkF m 6 #[.val (.long q0), .second, .val (.long q1), .second, .val (.int p2), .unset] [(.int ((8 : Int32) * p2)), (.long q0)])) _
    refine XS.lushr X0.here hx rfl (hb hby d1_6) rfl ?_
    show Steps p.tables e below (s₁.setTop (mkF m 7 #[.val (.long q0), .second, .val (.long q1), .second, .val (.int p2), .unset] [(.long ((q0.toUInt64 >>> (((8 : Int32) * p2) &&& 0x3f).toInt64.toUInt64).toInt64))])) _
    refine X0.ldc2Long hx hown (mvT hZ (hw _ (List.mem_of_getElem? (i := 6) rfl))) (g := (mkF m 7 #[.val (.long q0), .second, .val (.long q1), .second, .val (.int p2), .unset] [(.long ((q0.toUInt64 >>> (((8 : Int32) * p2) &&& 0x3f).toInt64.toUInt64).toInt64))])) rfl (hb hby d1_7) _ ?_
    show Steps p.tables e below (s₁.setTop (mkF m 10 #[.val (.long q0), .second, .val (.long q1), .second, .val (.int p2), .unset] [(.long (255 : Int64)), (.long ((q0.toUInt64 >>> (((8 : Int32) * p2) &&& 0x3f).toInt64.toUInt64).toInt64))])) _
    refine XS.land X0.here hx rfl (hb hby d1_10) rfl ?_
    show Steps p.tables e below (s₁.setTop (mkF m 11 #[.val (.long q0), .second, .val (.long q1), .second, .val (.int p2), .unset] [(.long (((q0.toUInt64 >>> (((8 : Int32) * p2) &&& 0x3f).toInt64.toUInt64).toInt64) &&& (255 : Int64)))])) _
    refine XS.l2i X0.here hx rfl (hb hby d1_11) rfl ?_
    show Steps p.tables e below (s₁.setTop (mkF m 12 #[.val (.long q0), .second, .val (.long q1), .second, .val (.int p2), .unset] [(.int ((((q0.toUInt64 >>> (((8 : Int32) * p2) &&& 0x3f).toInt64.toUInt64).toInt64) &&& (255 : Int64)).toInt32))])) _
    refine XS.istore X0.here hx rfl (hb hby d1_12) rfl (l' := #[.val (.long q0), .second, .val (.long q1), .second, .val (.int p2), .val (.int ((((q0.toUInt64 >>> (((8 : Int32) * p2) &&& 0x3f).toInt64.toUInt64).toInt64) &&& (255 : Int64)).toInt32))]) rfl ?_
    show Steps p.tables e below (s₁.setTop (mkF m 14 #[.val (.long q0), .second, .val (.long q1), .second, .val (.int p2), .val (.int ((((q0.toUInt64 >>> (((8 : Int32) * p2) &&& 0x3f).toInt64.toUInt64).toInt64) &&& (255 : Int64)).toInt32))] [])) _
    refine XS.lloadN X0.here hx rfl (hb hby d1_14) rfl ?_
    show Steps p.tables e below (s₁.setTop (mkF m 15 #[.val (.long q0), .second, .val (.long q1), .second, .val (.int p2), .val (.int ((((q0.toUInt64 >>> (((8 : Int32) * p2) &&& 0x3f).toInt64.toUInt64).toInt64) &&& (255 : Int64)).toInt32))] [(.long q1)])) _
    refine XS.iload X0.here hx rfl (hb hby d1_15) rfl ?_
    show Steps p.tables e below (s₁.setTop (mkF m 17 #[.val (.long q0), .second, .val (.long q1), .second, .val (.int p2), .val (.int ((((q0.toUInt64 >>> (((8 : Int32) * p2) &&& 0x3f).toInt64.toUInt64).toInt64) &&& (255 : Int64)).toInt32))] [(.int p2), (.long q1)])) _
    refine XS.lushr X0.here hx rfl (hb hby d1_17) rfl ?_
    show Steps p.tables e below (s₁.setTop (mkF m 18 #[.val (.long q0), .second, .val (.long q1), .second, .val (.int p2), .val (.int ((((q0.toUInt64 >>> (((8 : Int32) * p2) &&& 0x3f).toInt64.toUInt64).toInt64) &&& (255 : Int64)).toInt32))] [(.long ((q1.toUInt64 >>> (p2 &&& 0x3f).toInt64.toUInt64).toInt64))])) _
    refine XS.lconst X0.here hx rfl (hb hby d1_18) ?_
    show Steps p.tables e below (s₁.setTop (mkF m 19 #[.val (.long q0), .second, .val (.long q1), .second, .val (.int p2), .val (.int ((((q0.toUInt64 >>> (((8 : Int32) * p2) &&& 0x3f).toInt64.toUInt64).toInt64) &&& (255 : Int64)).toInt32))] [(.long (1 : Int64)), (.long ((q1.toUInt64 >>> (p2 &&& 0x3f).toInt64.toUInt64).toInt64))])) _
    refine XS.land X0.here hx rfl (hb hby d1_19) rfl ?_
    show Steps p.tables e below (s₁.setTop (mkF m 20 #[.val (.long q0), .second, .val (.long q1), .second, .val (.int p2), .val (.int ((((q0.toUInt64 >>> (((8 : Int32) * p2) &&& 0x3f).toInt64.toUInt64).toInt64) &&& (255 : Int64)).toInt32))] [(.long (((q1.toUInt64 >>> (p2 &&& 0x3f).toInt64.toUInt64).toInt64) &&& (1 : Int64)))])) _
    refine XS.lconst X0.here hx rfl (hb hby d1_20) ?_
    show Steps p.tables e below (s₁.setTop (mkF m 21 #[.val (.long q0), .second, .val (.long q1), .second, .val (.int p2), .val (.int ((((q0.toUInt64 >>> (((8 : Int32) * p2) &&& 0x3f).toInt64.toUInt64).toInt64) &&& (255 : Int64)).toInt32))] [(.long (0 : Int64)), (.long (((q1.toUInt64 >>> (p2 &&& 0x3f).toInt64.toUInt64).toInt64) &&& (1 : Int64)))])) _
    refine XS.lcmp X0.here hx rfl (hb hby d1_21) rfl ?_
    exact k
  by_cases hc22 : (lcmpW (((q1.toUInt64 >>> (p2 &&& 0x3f).toInt64.toUInt64).toInt64) &&& (1 : Int64)) (0 : Int64)) = (0 : Int32)
  · refine own_go (B := s₁.setTop (mkF m 36 #[.val (.long q0), .second, .val (.long q1), .second, .val (.int p2), .val (.int ((((q0.toUInt64 >>> (((8 : Int32) * p2) &&& 0x3f).toInt64.toUInt64).toInt64) &&& (255 : Int64)).toInt32))] [])) (fun t k => ?_) ?_
    · show Steps p.tables e below (s₁.setTop (mkF m 22 #[.val (.long q0), .second, .val (.long q1), .second, .val (.int p2), .val (.int ((((q0.toUInt64 >>> (((8 : Int32) * p2) &&& 0x3f).toInt64.toUInt64).toInt64) &&& (255 : Int64)).toInt32))] [(.int (lcmpW (((q1.toUInt64 >>> (p2 &&& 0x3f).toInt64.toUInt64).toInt64) &&& (1 : Int64)) (0 : Int64)))])) _
      refine XS.ifYes X0.here hx rfl (pc0 := 22) (pc' := 36) rfl (hb hby d1_22) rfl ((if0 _ _).trans (teq hc22).1) (by decide) (by decide) ?_
      exact k
    refine own_go (B := s₁.setTop (mkF m 38 #[.val (.long q0), .second, .val (.long q1), .second, .val (.int p2), .val (.int ((((q0.toUInt64 >>> (((8 : Int32) * p2) &&& 0x3f).toInt64.toUInt64).toInt64) &&& (255 : Int64)).toInt32))] [(.int ((((q0.toUInt64 >>> (((8 : Int32) * p2) &&& 0x3f).toInt64.toUInt64).toInt64) &&& (255 : Int64)).toInt32))])) (fun t k => ?_) ?_
    · show Steps p.tables e below (s₁.setTop (mkF m 36 #[.val (.long q0), .second, .val (.long q1), .second, .val (.int p2), .val (.int ((((q0.toUInt64 >>> (((8 : Int32) * p2) &&& 0x3f).toInt64.toUInt64).toInt64) &&& (255 : Int64)).toInt32))] [])) _
      refine XS.iload X0.here hx rfl (hb hby d1_36) rfl ?_
      exact k
    obtain ⟨fs, hr, hrun, hended, hW, hsame⟩ := X0.leave (v := some (.int ((((q0.toUInt64 >>> (((8 : Int32) * p2) &&& 0x3f).toInt64.toUInt64).toInt64) &&& (255 : Int64)).toInt32))) (fun h => by rw [Bd.returns] at h; cases h)
    refine ⟨_, _, ?_, hrun, hended, _, _, rfl, ?_, ⟨_, rfl⟩, hW, hsame.mono (by decide) (by decide)⟩
    · show Steps p.tables e below (s₁.setTop (mkF m 38 #[.val (.long q0), .second, .val (.long q1), .second, .val (.int p2), .val (.int ((((q0.toUInt64 >>> (((8 : Int32) * p2) &&& 0x3f).toInt64.toUInt64).toInt64) &&& (255 : Int64)).toInt32))] [(.int ((((q0.toUInt64 >>> (((8 : Int32) * p2) &&& 0x3f).toInt64.toUInt64).toInt64) &&& (255 : Int64)).toInt32))])) _
      exact retI X0 hx Bd.returns (hb hby d1_38) hr
    · show Q1 Z q0 q1 p2 h0 n0 _ s₁.heap _
      rw [e0]
      exact ⟨by simp only [own_unit, if_pos hc22], N0, rfl⟩
  · refine own_go (B := s₁.setTop (mkF m 25 #[.val (.long q0), .second, .val (.long q1), .second, .val (.int p2), .val (.int ((((q0.toUInt64 >>> (((8 : Int32) * p2) &&& 0x3f).toInt64.toUInt64).toInt64) &&& (255 : Int64)).toInt32))] [])) (fun t k => ?_) ?_
    · show Steps p.tables e below (s₁.setTop (mkF m 22 #[.val (.long q0), .second, .val (.long q1), .second, .val (.int p2), .val (.int ((((q0.toUInt64 >>> (((8 : Int32) * p2) &&& 0x3f).toInt64.toUInt64).toInt64) &&& (255 : Int64)).toInt32))] [(.int (lcmpW (((q1.toUInt64 >>> (p2 &&& 0x3f).toInt64.toUInt64).toInt64) &&& (1 : Int64)) (0 : Int64)))])) _
      refine XS.ifNo X0.here hx rfl (hb hby d1_22) rfl ((if0 _ _).trans (feq hc22).1) ?_
      exact k
    refine own_go (B := s₁.setTop (mkF m 38 #[.val (.long q0), .second, .val (.long q1), .second, .val (.int p2), .val (.int ((128 : Int32) ||| (((((q0.toUInt64 >>> (((8 : Int32) * p2) &&& 0x3f).toInt64.toUInt64).toInt64) &&& (255 : Int64)).toInt32) &&& (63 : Int32))))] [(.int ((128 : Int32) ||| (((((q0.toUInt64 >>> (((8 : Int32) * p2) &&& 0x3f).toInt64.toUInt64).toInt64) &&& (255 : Int64)).toInt32) &&& (63 : Int32))))])) (fun t k => ?_) ?_
    · show Steps p.tables e below (s₁.setTop (mkF m 25 #[.val (.long q0), .second, .val (.long q1), .second, .val (.int p2), .val (.int ((((q0.toUInt64 >>> (((8 : Int32) * p2) &&& 0x3f).toInt64.toUInt64).toInt64) &&& (255 : Int64)).toInt32))] [])) _
      refine XS.sipush X0.here hx rfl (hb hby d1_25) ?_
      show Steps p.tables e below (s₁.setTop (mkF m 28 #[.val (.long q0), .second, .val (.long q1), .second, .val (.int p2), .val (.int ((((q0.toUInt64 >>> (((8 : Int32) * p2) &&& 0x3f).toInt64.toUInt64).toInt64) &&& (255 : Int64)).toInt32))] [(.int (128 : Int32))])) _
      refine XS.iload X0.here hx rfl (hb hby d1_28) rfl ?_
      show Steps p.tables e below (s₁.setTop (mkF m 30 #[.val (.long q0), .second, .val (.long q1), .second, .val (.int p2), .val (.int ((((q0.toUInt64 >>> (((8 : Int32) * p2) &&& 0x3f).toInt64.toUInt64).toInt64) &&& (255 : Int64)).toInt32))] [(.int ((((q0.toUInt64 >>> (((8 : Int32) * p2) &&& 0x3f).toInt64.toUInt64).toInt64) &&& (255 : Int64)).toInt32)), (.int (128 : Int32))])) _
      refine XS.bipush X0.here hx rfl (hb hby d1_30) ?_
      show Steps p.tables e below (s₁.setTop (mkF m 32 #[.val (.long q0), .second, .val (.long q1), .second, .val (.int p2), .val (.int ((((q0.toUInt64 >>> (((8 : Int32) * p2) &&& 0x3f).toInt64.toUInt64).toInt64) &&& (255 : Int64)).toInt32))] [(.int (63 : Int32)), (.int ((((q0.toUInt64 >>> (((8 : Int32) * p2) &&& 0x3f).toInt64.toUInt64).toInt64) &&& (255 : Int64)).toInt32)), (.int (128 : Int32))])) _
      refine XS.iand X0.here hx rfl (hb hby d1_32) rfl ?_
      show Steps p.tables e below (s₁.setTop (mkF m 33 #[.val (.long q0), .second, .val (.long q1), .second, .val (.int p2), .val (.int ((((q0.toUInt64 >>> (((8 : Int32) * p2) &&& 0x3f).toInt64.toUInt64).toInt64) &&& (255 : Int64)).toInt32))] [(.int (((((q0.toUInt64 >>> (((8 : Int32) * p2) &&& 0x3f).toInt64.toUInt64).toInt64) &&& (255 : Int64)).toInt32) &&& (63 : Int32))), (.int (128 : Int32))])) _
      refine XS.ior X0.here hx rfl (hb hby d1_33) rfl ?_
      show Steps p.tables e below (s₁.setTop (mkF m 34 #[.val (.long q0), .second, .val (.long q1), .second, .val (.int p2), .val (.int ((((q0.toUInt64 >>> (((8 : Int32) * p2) &&& 0x3f).toInt64.toUInt64).toInt64) &&& (255 : Int64)).toInt32))] [(.int ((128 : Int32) ||| (((((q0.toUInt64 >>> (((8 : Int32) * p2) &&& 0x3f).toInt64.toUInt64).toInt64) &&& (255 : Int64)).toInt32) &&& (63 : Int32))))])) _
      refine XS.istore X0.here hx rfl (hb hby d1_34) rfl (l' := #[.val (.long q0), .second, .val (.long q1), .second, .val (.int p2), .val (.int ((128 : Int32) ||| (((((q0.toUInt64 >>> (((8 : Int32) * p2) &&& 0x3f).toInt64.toUInt64).toInt64) &&& (255 : Int64)).toInt32) &&& (63 : Int32))))]) rfl ?_
      show Steps p.tables e below (s₁.setTop (mkF m 36 #[.val (.long q0), .second, .val (.long q1), .second, .val (.int p2), .val (.int ((128 : Int32) ||| (((((q0.toUInt64 >>> (((8 : Int32) * p2) &&& 0x3f).toInt64.toUInt64).toInt64) &&& (255 : Int64)).toInt32) &&& (63 : Int32))))] [])) _
      refine XS.iload X0.here hx rfl (hb hby d1_36) rfl ?_
      exact k
    obtain ⟨fs, hr, hrun, hended, hW, hsame⟩ := X0.leave (v := some (.int ((128 : Int32) ||| (((((q0.toUInt64 >>> (((8 : Int32) * p2) &&& 0x3f).toInt64.toUInt64).toInt64) &&& (255 : Int64)).toInt32) &&& (63 : Int32))))) (fun h => by rw [Bd.returns] at h; cases h)
    refine ⟨_, _, ?_, hrun, hended, _, _, rfl, ?_, ⟨_, rfl⟩, hW, hsame.mono (by decide) (by decide)⟩
    · show Steps p.tables e below (s₁.setTop (mkF m 38 #[.val (.long q0), .second, .val (.long q1), .second, .val (.int p2), .val (.int ((128 : Int32) ||| (((((q0.toUInt64 >>> (((8 : Int32) * p2) &&& 0x3f).toInt64.toUInt64).toInt64) &&& (255 : Int64)).toInt32) &&& (63 : Int32))))] [(.int ((128 : Int32) ||| (((((q0.toUInt64 >>> (((8 : Int32) * p2) &&& 0x3f).toInt64.toUInt64).toInt64) &&& (255 : Int64)).toInt32) &&& (63 : Int32))))])) _
      exact retI X0 hx Bd.returns (hb hby d1_38) hr
    · show Q1 Z q0 q1 p2 h0 n0 _ s₁.heap _
      rw [e0]
      exact ⟨by simp only [own_unit, if_neg hc22], N0, rfl⟩
theorem d6_0 : decode method_4_code 0 = .ok (.iload_n 0, 1) := by decide +kernel
theorem d6_1 : decode method_4_code 1 = .ok (.sipush 128, 3) := by decide +kernel
theorem d6_4 : decode method_4_code 4 = .ok (.if_icmp .lt 14, 3) := by decide +kernel
theorem d6_7 : decode method_4_code 7 = .ok (.iload_n 0, 1) := by decide +kernel
theorem d6_8 : decode method_4_code 8 = .ok (.sipush 191, 3) := by decide +kernel
theorem d6_11 : decode method_4_code 11 = .ok (.if_icmp .gt 7, 3) := by decide +kernel
theorem d6_14 : decode method_4_code 14 = .ok (.iconst 1, 1) := by decide +kernel
theorem d6_15 : decode method_4_code 15 = .ok (.goto 4, 3) := by decide +kernel
theorem d6_18 : decode method_4_code 18 = .ok (.iconst 0, 1) := by decide +kernel
theorem d6_19 : decode method_4_code 19 = .ok (.ireturn, 1) := by decide +kernel
theorem pn_6 : plainName "com/example/ballast/ballast/model/Utf8TextIsUtf8PinLaw" = true := by first | (simp [plainName, overriddenIn]; done) | decide +kernel
theorem ef_6 (m : MethodId) (p0 : Int32) : entryFrame m #[(.int p0)] 1 = mkF m 0 #[.val (.int p0)] [] := by first | (simp [entryFrame, mkF, argsToLocals, Value.category]; done) | rfl
def own_cont (p0 : Int32) : Int32 := (if p0 < (128 : Int32) then (0 : Int32) else (if (191 : Int32) < p0 then (0 : Int32) else (1 : Int32)))
def Q6 (Z : State) (p0 : Int32) (h0 : Heap) (n0 : Nat) (v : Option Value) (h : Heap) (L : List Loc) : Prop := v = some (.int (own_cont p0)) ∧ Fr n0 L ∧ h = h0
set_option maxRecDepth 65536 in
set_option maxHeartbeats 40000000 in
theorem rm6 (l : Launch) (Z : State) (av0 : Array Value) (hw : ∀ d ∈ tables_1, d.before av0 Z = true) (ws : List Jvm.Cond) (p0 : Int32) (h0 : Heap) (n0 : Nat) (Z0 : n0 ≤ h0.size) :
    MetFree l (⟨"com/example/ballast/ballast/model/Utf8TextIsUtf8PinLaw", "cont", "(I)Z"⟩ : MethodName) (head1 (Jvm.Cond.code (⟨"com/example/ballast/ballast/model/Utf8TextIsUtf8PinLaw", "cont", "(I)Z"⟩ : MethodName) method_4_code 1 (some .boolean) :: ws) ({ frames := 0, cells := 0, slots := 0, locals := 0 } : Room)) (fun a U => a = #[(.int p0)] ∧ Z.Warmed39 U.vm ∧ U.heap = h0) (fun _ _ _ _ _ => True) (fun _ U o U' => ∃ v L, o = .returned v ∧ Q6 Z p0 h0 n0 v U'.heap L ∧ FrameEnd U o U' L ({ frames := 0, cells := 0, slots := 0, locals := 0 } : Room).cells ({ frames := 0, cells := 0, slots := 0, locals := 0 } : Room).slots) := by
  refine MetFree.of_bodySF (plainFor_of_name pn_6) hisR ?_
  intro p e s m args below meth c s₁ Bd hml0 hP hK
  obtain ⟨rfl, hZ, hh⟩ := hP
  have hx := Bd.exec
  have hby := Bd.bytes
  have hml : c.maxLocals = 1 := hml0
  have hown : s.vm.findClass "com/example/ballast/ballast/model/Utf8TextIsUtf8PinLaw" = some m.cls := findClass_of_methodNamed Bd.named
  have hnm := (name_of_methodNamed Bd.named Bd.method).1
  have X0 : Stand p l e ({ frames := 0, cells := 0, slots := 0, locals := 0 } : Room) s m #[(.int p0)] below meth c s₁ [] 0 0 := Stand.of_body Bd
  have e0 : s₁.heap = h0 := by rw [← hh, Bd.state]; rfl
  have N0 := Fr.nil n0
  have K0 : Keep h0 h0 [] := Keep.refl h0 []
  refine own_go (B := s₁.setTop (mkF m 0 #[.val (.int p0)] [])) (fun t k => castTop (ef_6 m p0) k) ?_
  refine own_go (B := s₁.setTop (mkF m 4 #[.val (.int p0)] [(.int (128 : Int32)), (.int p0)])) (fun t k => ?_) ?_
  · show Steps p.tables e below (s₁.setTop (mkF m 0 #[.val (.int p0)] [])) _
    refine XS.iloadN X0.here hx rfl (hb hby d6_0) rfl ?_
    show Steps p.tables e below (s₁.setTop (mkF m 1 #[.val (.int p0)] [(.int p0)])) _
    refine XS.sipush X0.here hx rfl (hb hby d6_1) ?_
    exact k
  by_cases hc4 : p0 < (128 : Int32)
  · refine own_go (B := s₁.setTop (mkF m 18 #[.val (.int p0)] [])) (fun t k => ?_) ?_
    · show Steps p.tables e below (s₁.setTop (mkF m 4 #[.val (.int p0)] [(.int (128 : Int32)), (.int p0)])) _
      refine XS.icmpYes X0.here hx rfl (pc0 := 4) (pc' := 18) rfl (hb hby d6_4) rfl (tlt hc4).1 (by decide) (by decide) ?_
      exact k
    refine own_go (B := s₁.setTop (mkF m 19 #[.val (.int p0)] [(.int (0 : Int32))])) (fun t k => ?_) ?_
    · show Steps p.tables e below (s₁.setTop (mkF m 18 #[.val (.int p0)] [])) _
      refine XS.iconst X0.here hx rfl (hb hby d6_18) ?_
      exact k
    obtain ⟨fs, hr, hrun, hended, hW, hsame⟩ := X0.leave (v := some (.int (0 : Int32))) (fun h => by rw [Bd.returns] at h; cases h)
    refine ⟨_, _, ?_, hrun, hended, _, _, rfl, ?_, ⟨_, rfl⟩, hW, hsame.mono (by decide) (by decide)⟩
    · show Steps p.tables e below (s₁.setTop (mkF m 19 #[.val (.int p0)] [(.int (0 : Int32))])) _
      exact retN X0 hx (t := .boolean) Bd.returns (by simp) (hb hby d6_19) hr
    · show Q6 Z p0 h0 n0 _ s₁.heap _
      rw [e0]
      exact ⟨by simp only [own_cont, if_pos hc4], N0, rfl⟩
  · refine own_go (B := s₁.setTop (mkF m 7 #[.val (.int p0)] [])) (fun t k => ?_) ?_
    · show Steps p.tables e below (s₁.setTop (mkF m 4 #[.val (.int p0)] [(.int (128 : Int32)), (.int p0)])) _
      refine XS.icmpNo X0.here hx rfl (hb hby d6_4) rfl (flt hc4).1 ?_
      exact k
    refine own_go (B := s₁.setTop (mkF m 11 #[.val (.int p0)] [(.int (191 : Int32)), (.int p0)])) (fun t k => ?_) ?_
    · show Steps p.tables e below (s₁.setTop (mkF m 7 #[.val (.int p0)] [])) _
      refine XS.iloadN X0.here hx rfl (hb hby d6_7) rfl ?_
      show Steps p.tables e below (s₁.setTop (mkF m 8 #[.val (.int p0)] [(.int p0)])) _
      refine XS.sipush X0.here hx rfl (hb hby d6_8) ?_
      exact k
    by_cases hc11 : (191 : Int32) < p0
    · refine own_go (B := s₁.setTop (mkF m 18 #[.val (.int p0)] [])) (fun t k => ?_) ?_
      · show Steps p.tables e below (s₁.setTop (mkF m 11 #[.val (.int p0)] [(.int (191 : Int32)), (.int p0)])) _
        refine XS.icmpYes X0.here hx rfl (pc0 := 11) (pc' := 18) rfl (hb hby d6_11) rfl (tlt hc11).2.2.1 (by decide) (by decide) ?_
        exact k
      refine own_go (B := s₁.setTop (mkF m 19 #[.val (.int p0)] [(.int (0 : Int32))])) (fun t k => ?_) ?_
      · show Steps p.tables e below (s₁.setTop (mkF m 18 #[.val (.int p0)] [])) _
        refine XS.iconst X0.here hx rfl (hb hby d6_18) ?_
        exact k
      obtain ⟨fs, hr, hrun, hended, hW, hsame⟩ := X0.leave (v := some (.int (0 : Int32))) (fun h => by rw [Bd.returns] at h; cases h)
      refine ⟨_, _, ?_, hrun, hended, _, _, rfl, ?_, ⟨_, rfl⟩, hW, hsame.mono (by decide) (by decide)⟩
      · show Steps p.tables e below (s₁.setTop (mkF m 19 #[.val (.int p0)] [(.int (0 : Int32))])) _
        exact retN X0 hx (t := .boolean) Bd.returns (by simp) (hb hby d6_19) hr
      · show Q6 Z p0 h0 n0 _ s₁.heap _
        rw [e0]
        exact ⟨by simp only [own_cont, if_neg hc4, if_pos hc11], N0, rfl⟩
    · refine own_go (B := s₁.setTop (mkF m 14 #[.val (.int p0)] [])) (fun t k => ?_) ?_
      · show Steps p.tables e below (s₁.setTop (mkF m 11 #[.val (.int p0)] [(.int (191 : Int32)), (.int p0)])) _
        refine XS.icmpNo X0.here hx rfl (hb hby d6_11) rfl (flt hc11).2.2.1 ?_
        exact k
      refine own_go (B := s₁.setTop (mkF m 19 #[.val (.int p0)] [(.int (1 : Int32))])) (fun t k => ?_) ?_
      · show Steps p.tables e below (s₁.setTop (mkF m 14 #[.val (.int p0)] [])) _
        refine XS.iconst X0.here hx rfl (hb hby d6_14) ?_
        show Steps p.tables e below (s₁.setTop (mkF m 15 #[.val (.int p0)] [(.int (1 : Int32))])) _
        refine XS.goto X0.here hx rfl (pc0 := 15) (pc' := 19) rfl (hb hby d6_15) (by decide) (by decide) ?_
        exact k
      obtain ⟨fs, hr, hrun, hended, hW, hsame⟩ := X0.leave (v := some (.int (1 : Int32))) (fun h => by rw [Bd.returns] at h; cases h)
      refine ⟨_, _, ?_, hrun, hended, _, _, rfl, ?_, ⟨_, rfl⟩, hW, hsame.mono (by decide) (by decide)⟩
      · show Steps p.tables e below (s₁.setTop (mkF m 19 #[.val (.int p0)] [(.int (1 : Int32))])) _
        exact retN X0 hx (t := .boolean) Bd.returns (by simp) (hb hby d6_19) hr
      · show Q6 Z p0 h0 n0 _ s₁.heap _
        rw [e0]
        exact ⟨by simp only [own_cont, if_neg hc4, if_neg hc11], N0, rfl⟩
theorem d4_0 : decode method_5_code 0 = .ok (.iload_n 0, 1) := by decide +kernel
theorem d4_1 : decode method_5_code 1 = .ok (.bipush 127, 2) := by decide +kernel
theorem d4_3 : decode method_5_code 3 = .ok (.if_icmp .gt 5, 3) := by decide +kernel
theorem d4_6 : decode method_5_code 6 = .ok (.iconst 1, 1) := by decide +kernel
theorem d4_7 : decode method_5_code 7 = .ok (.ireturn, 1) := by decide +kernel
theorem d4_8 : decode method_5_code 8 = .ok (.iload_n 0, 1) := by decide +kernel
theorem d4_9 : decode method_5_code 9 = .ok (.sipush 192, 3) := by decide +kernel
theorem d4_12 : decode method_5_code 12 = .ok (.if_icmp .lt 55, 3) := by decide +kernel
theorem d4_15 : decode method_5_code 15 = .ok (.iload_n 0, 1) := by decide +kernel
theorem d4_16 : decode method_5_code 16 = .ok (.sipush 223, 3) := by decide +kernel
theorem d4_19 : decode method_5_code 19 = .ok (.if_icmp .gt 48, 3) := by decide +kernel
theorem d4_22 : decode method_5_code 22 = .ok (.iload 4, 2) := by decide +kernel
theorem d4_24 : decode method_5_code 24 = .ok (.iconst 2, 1) := by decide +kernel
theorem d4_25 : decode method_5_code 25 = .ok (.if_icmp .lt 10, 3) := by decide +kernel
theorem d4_28 : decode method_5_code 28 = .ok (.iload_n 1, 1) := by decide +kernel
theorem d4_29 : decode method_5_code 29 = .ok (.invokestatic 26, 3) := by decide +kernel
theorem d4_32 : decode method_5_code 32 = .ok (.ifCond .ne 5, 3) := by decide +kernel
theorem d4_35 : decode method_5_code 35 = .ok (.iconst 0, 1) := by decide +kernel
theorem d4_36 : decode method_5_code 36 = .ok (.ireturn, 1) := by decide +kernel
theorem d4_37 : decode method_5_code 37 = .ok (.iload_n 0, 1) := by decide +kernel
theorem d4_38 : decode method_5_code 38 = .ok (.sipush 192, 3) := by decide +kernel
theorem d4_41 : decode method_5_code 41 = .ok (.isub, 1) := by decide +kernel
theorem d4_42 : decode method_5_code 42 = .ok (.bipush 64, 2) := by decide +kernel
theorem d4_44 : decode method_5_code 44 = .ok (.imul, 1) := by decide +kernel
theorem d4_45 : decode method_5_code 45 = .ok (.iload_n 1, 1) := by decide +kernel
theorem d4_46 : decode method_5_code 46 = .ok (.sipush 128, 3) := by decide +kernel
theorem d4_49 : decode method_5_code 49 = .ok (.isub, 1) := by decide +kernel
theorem d4_50 : decode method_5_code 50 = .ok (.iadd, 1) := by decide +kernel
theorem d4_51 : decode method_5_code 51 = .ok (.istore 5, 2) := by decide +kernel
theorem d4_53 : decode method_5_code 53 = .ok (.iload 5, 2) := by decide +kernel
theorem d4_55 : decode method_5_code 55 = .ok (.sipush 128, 3) := by decide +kernel
theorem d4_58 : decode method_5_code 58 = .ok (.if_icmp .lt 7, 3) := by decide +kernel
theorem d4_61 : decode method_5_code 61 = .ok (.iconst 2, 1) := by decide +kernel
theorem d4_62 : decode method_5_code 62 = .ok (.goto 4, 3) := by decide +kernel
theorem d4_65 : decode method_5_code 65 = .ok (.iconst 0, 1) := by decide +kernel
theorem d4_66 : decode method_5_code 66 = .ok (.ireturn, 1) := by decide +kernel
theorem d4_67 : decode method_5_code 67 = .ok (.iload_n 0, 1) := by decide +kernel
theorem d4_68 : decode method_5_code 68 = .ok (.sipush 224, 3) := by decide +kernel
theorem d4_71 : decode method_5_code 71 = .ok (.if_icmp .lt 86, 3) := by decide +kernel
theorem d4_74 : decode method_5_code 74 = .ok (.iload_n 0, 1) := by decide +kernel
theorem d4_75 : decode method_5_code 75 = .ok (.sipush 239, 3) := by decide +kernel
theorem d4_78 : decode method_5_code 78 = .ok (.if_icmp .gt 79, 3) := by decide +kernel
theorem d4_81 : decode method_5_code 81 = .ok (.iload 4, 2) := by decide +kernel
theorem d4_83 : decode method_5_code 83 = .ok (.iconst 3, 1) := by decide +kernel
theorem d4_84 : decode method_5_code 84 = .ok (.if_icmp .lt 17, 3) := by decide +kernel
theorem d4_87 : decode method_5_code 87 = .ok (.iload_n 1, 1) := by decide +kernel
theorem d4_88 : decode method_5_code 88 = .ok (.invokestatic 26, 3) := by decide +kernel
theorem d4_91 : decode method_5_code 91 = .ok (.ifCond .eq 10, 3) := by decide +kernel
theorem d4_94 : decode method_5_code 94 = .ok (.iload_n 2, 1) := by decide +kernel
theorem d4_95 : decode method_5_code 95 = .ok (.invokestatic 26, 3) := by decide +kernel
theorem d4_98 : decode method_5_code 98 = .ok (.ifCond .ne 5, 3) := by decide +kernel
theorem d4_101 : decode method_5_code 101 = .ok (.iconst 0, 1) := by decide +kernel
theorem d4_102 : decode method_5_code 102 = .ok (.ireturn, 1) := by decide +kernel
theorem d4_103 : decode method_5_code 103 = .ok (.iload_n 0, 1) := by decide +kernel
theorem d4_104 : decode method_5_code 104 = .ok (.sipush 224, 3) := by decide +kernel
theorem d4_107 : decode method_5_code 107 = .ok (.isub, 1) := by decide +kernel
theorem d4_108 : decode method_5_code 108 = .ok (.sipush 4096, 3) := by decide +kernel
theorem d4_111 : decode method_5_code 111 = .ok (.imul, 1) := by decide +kernel
theorem d4_112 : decode method_5_code 112 = .ok (.iload_n 1, 1) := by decide +kernel
theorem d4_113 : decode method_5_code 113 = .ok (.sipush 128, 3) := by decide +kernel
theorem d4_116 : decode method_5_code 116 = .ok (.isub, 1) := by decide +kernel
theorem d4_117 : decode method_5_code 117 = .ok (.bipush 64, 2) := by decide +kernel
theorem d4_119 : decode method_5_code 119 = .ok (.imul, 1) := by decide +kernel
theorem d4_120 : decode method_5_code 120 = .ok (.iadd, 1) := by decide +kernel
theorem d4_121 : decode method_5_code 121 = .ok (.iload_n 2, 1) := by decide +kernel
theorem d4_122 : decode method_5_code 122 = .ok (.sipush 128, 3) := by decide +kernel
theorem d4_125 : decode method_5_code 125 = .ok (.isub, 1) := by decide +kernel
theorem d4_126 : decode method_5_code 126 = .ok (.iadd, 1) := by decide +kernel
theorem d4_127 : decode method_5_code 127 = .ok (.istore 5, 2) := by decide +kernel
theorem d4_129 : decode method_5_code 129 = .ok (.iload 5, 2) := by decide +kernel
theorem d4_131 : decode method_5_code 131 = .ok (.sipush 2048, 3) := by decide +kernel
theorem d4_134 : decode method_5_code 134 = .ok (.if_icmp .ge 5, 3) := by decide +kernel
theorem d4_137 : decode method_5_code 137 = .ok (.iconst 0, 1) := by decide +kernel
theorem d4_138 : decode method_5_code 138 = .ok (.ireturn, 1) := by decide +kernel
theorem d4_139 : decode method_5_code 139 = .ok (.iload 5, 2) := by decide +kernel
theorem d4_141 : decode method_5_code 141 = .ok (.ldc 30, 2) := by decide +kernel
theorem d4_143 : decode method_5_code 143 = .ok (.if_icmp .lt 12, 3) := by decide +kernel
theorem d4_146 : decode method_5_code 146 = .ok (.iload 5, 2) := by decide +kernel
theorem d4_148 : decode method_5_code 148 = .ok (.ldc 31, 2) := by decide +kernel
theorem d4_150 : decode method_5_code 150 = .ok (.if_icmp .gt 5, 3) := by decide +kernel
theorem d4_153 : decode method_5_code 153 = .ok (.iconst 0, 1) := by decide +kernel
theorem d4_154 : decode method_5_code 154 = .ok (.ireturn, 1) := by decide +kernel
theorem d4_155 : decode method_5_code 155 = .ok (.iconst 3, 1) := by decide +kernel
theorem d4_156 : decode method_5_code 156 = .ok (.ireturn, 1) := by decide +kernel
theorem d4_157 : decode method_5_code 157 = .ok (.iload_n 0, 1) := by decide +kernel
theorem d4_158 : decode method_5_code 158 = .ok (.sipush 240, 3) := by decide +kernel
theorem d4_161 : decode method_5_code 161 = .ok (.if_icmp .lt 92, 3) := by decide +kernel
theorem d4_164 : decode method_5_code 164 = .ok (.iload_n 0, 1) := by decide +kernel
theorem d4_165 : decode method_5_code 165 = .ok (.sipush 247, 3) := by decide +kernel
theorem d4_168 : decode method_5_code 168 = .ok (.if_icmp .gt 85, 3) := by decide +kernel
theorem d4_171 : decode method_5_code 171 = .ok (.iload 4, 2) := by decide +kernel
theorem d4_173 : decode method_5_code 173 = .ok (.iconst 4, 1) := by decide +kernel
theorem d4_174 : decode method_5_code 174 = .ok (.if_icmp .lt 24, 3) := by decide +kernel
theorem d4_177 : decode method_5_code 177 = .ok (.iload_n 1, 1) := by decide +kernel
theorem d4_178 : decode method_5_code 178 = .ok (.invokestatic 26, 3) := by decide +kernel
theorem d4_181 : decode method_5_code 181 = .ok (.ifCond .eq 17, 3) := by decide +kernel
theorem d4_184 : decode method_5_code 184 = .ok (.iload_n 2, 1) := by decide +kernel
theorem d4_185 : decode method_5_code 185 = .ok (.invokestatic 26, 3) := by decide +kernel
theorem d4_188 : decode method_5_code 188 = .ok (.ifCond .eq 10, 3) := by decide +kernel
theorem d4_191 : decode method_5_code 191 = .ok (.iload_n 3, 1) := by decide +kernel
theorem d4_192 : decode method_5_code 192 = .ok (.invokestatic 26, 3) := by decide +kernel
theorem d4_195 : decode method_5_code 195 = .ok (.ifCond .ne 5, 3) := by decide +kernel
theorem d4_198 : decode method_5_code 198 = .ok (.iconst 0, 1) := by decide +kernel
theorem d4_199 : decode method_5_code 199 = .ok (.ireturn, 1) := by decide +kernel
theorem d4_200 : decode method_5_code 200 = .ok (.iload_n 0, 1) := by decide +kernel
theorem d4_201 : decode method_5_code 201 = .ok (.sipush 240, 3) := by decide +kernel
theorem d4_204 : decode method_5_code 204 = .ok (.isub, 1) := by decide +kernel
theorem d4_205 : decode method_5_code 205 = .ok (.ldc 32, 2) := by decide +kernel
theorem d4_207 : decode method_5_code 207 = .ok (.imul, 1) := by decide +kernel
theorem d4_208 : decode method_5_code 208 = .ok (.iload_n 1, 1) := by decide +kernel
theorem d4_209 : decode method_5_code 209 = .ok (.sipush 128, 3) := by decide +kernel
theorem d4_212 : decode method_5_code 212 = .ok (.isub, 1) := by decide +kernel
theorem d4_213 : decode method_5_code 213 = .ok (.sipush 4096, 3) := by decide +kernel
theorem d4_216 : decode method_5_code 216 = .ok (.imul, 1) := by decide +kernel
theorem d4_217 : decode method_5_code 217 = .ok (.iadd, 1) := by decide +kernel
theorem d4_218 : decode method_5_code 218 = .ok (.iload_n 2, 1) := by decide +kernel
theorem d4_219 : decode method_5_code 219 = .ok (.sipush 128, 3) := by decide +kernel
theorem d4_222 : decode method_5_code 222 = .ok (.isub, 1) := by decide +kernel
theorem d4_223 : decode method_5_code 223 = .ok (.bipush 64, 2) := by decide +kernel
theorem d4_225 : decode method_5_code 225 = .ok (.imul, 1) := by decide +kernel
theorem d4_226 : decode method_5_code 226 = .ok (.iadd, 1) := by decide +kernel
theorem d4_227 : decode method_5_code 227 = .ok (.iload_n 3, 1) := by decide +kernel
theorem d4_228 : decode method_5_code 228 = .ok (.sipush 128, 3) := by decide +kernel
theorem d4_231 : decode method_5_code 231 = .ok (.isub, 1) := by decide +kernel
theorem d4_232 : decode method_5_code 232 = .ok (.iadd, 1) := by decide +kernel
theorem d4_233 : decode method_5_code 233 = .ok (.istore 5, 2) := by decide +kernel
theorem d4_235 : decode method_5_code 235 = .ok (.iload 5, 2) := by decide +kernel
theorem d4_237 : decode method_5_code 237 = .ok (.ldc 33, 2) := by decide +kernel
theorem d4_239 : decode method_5_code 239 = .ok (.if_icmp .lt 10, 3) := by decide +kernel
theorem d4_242 : decode method_5_code 242 = .ok (.iload 5, 2) := by decide +kernel
theorem d4_244 : decode method_5_code 244 = .ok (.ldc 34, 2) := by decide +kernel
theorem d4_246 : decode method_5_code 246 = .ok (.if_icmp .le 5, 3) := by decide +kernel
theorem d4_249 : decode method_5_code 249 = .ok (.iconst 0, 1) := by decide +kernel
theorem d4_250 : decode method_5_code 250 = .ok (.ireturn, 1) := by decide +kernel
theorem d4_251 : decode method_5_code 251 = .ok (.iconst 4, 1) := by decide +kernel
theorem d4_252 : decode method_5_code 252 = .ok (.ireturn, 1) := by decide +kernel
theorem d4_253 : decode method_5_code 253 = .ok (.iconst 0, 1) := by decide +kernel
theorem d4_254 : decode method_5_code 254 = .ok (.ireturn, 1) := by decide +kernel
theorem pn_4 : plainName "com/example/ballast/ballast/model/Utf8TextIsUtf8PinLaw" = true := by first | (simp [plainName, overriddenIn]; done) | decide +kernel
theorem ef_4 (m : MethodId) (p0 : Int32) (p1 : Int32) (p2 : Int32) (p3 : Int32) (p4 : Int32) : entryFrame m #[(.int p0), (.int p1), (.int p2), (.int p3), (.int p4)] 6 = mkF m 0 #[.val (.int p0), .val (.int p1), .val (.int p2), .val (.int p3), .val (.int p4), .unset] [] := by first | (simp [entryFrame, mkF, argsToLocals, Value.category]; done) | rfl
theorem pd_0 : parseMethodDescriptor "(I)Z" = some ⟨[.int], some .boolean⟩ := by decide +kernel
def own_lenf (p0 : Int32) (p1 : Int32) (p2 : Int32) (p3 : Int32) (p4 : Int32) : Int32 := (if (127 : Int32) < p0 then (if p0 < (192 : Int32) then (0 : Int32) else (if (223 : Int32) < p0 then (if (239 : Int32) < p0 then (if (247 : Int32) < p0 then (0 : Int32) else (if p4 < (4 : Int32) then (0 : Int32) else (if (own_cont p1) = (0 : Int32) then (0 : Int32) else (if (own_cont p2) = (0 : Int32) then (0 : Int32) else (if (own_cont p3) = (0 : Int32) then (0 : Int32) else (if (((((p0 - (240 : Int32)) * (262144 : Int32)) + ((p1 - (128 : Int32)) * (4096 : Int32))) + ((p2 - (128 : Int32)) * (64 : Int32))) + (p3 - (128 : Int32))) < (65536 : Int32) then (0 : Int32) else (if (1114111 : Int32) < (((((p0 - (240 : Int32)) * (262144 : Int32)) + ((p1 - (128 : Int32)) * (4096 : Int32))) + ((p2 - (128 : Int32)) * (64 : Int32))) + (p3 - (128 : Int32))) then (0 : Int32) else (4 : Int32)))))))) else (if p4 < (3 : Int32) then (0 : Int32) else (if (own_cont p1) = (0 : Int32) then (0 : Int32) else (if (own_cont p2) = (0 : Int32) then (0 : Int32) else (if ((((p0 - (224 : Int32)) * (4096 : Int32)) + ((p1 - (128 : Int32)) * (64 : Int32))) + (p2 - (128 : Int32))) < (2048 : Int32) then (0 : Int32) else (if ((((p0 - (224 : Int32)) * (4096 : Int32)) + ((p1 - (128 : Int32)) * (64 : Int32))) + (p2 - (128 : Int32))) < (55296 : Int32) then (3 : Int32) else (if (57343 : Int32) < ((((p0 - (224 : Int32)) * (4096 : Int32)) + ((p1 - (128 : Int32)) * (64 : Int32))) + (p2 - (128 : Int32))) then (3 : Int32) else (0 : Int32)))))))) else (if p4 < (2 : Int32) then (0 : Int32) else (if (own_cont p1) = (0 : Int32) then (0 : Int32) else (if (((p0 - (192 : Int32)) * (64 : Int32)) + (p1 - (128 : Int32))) < (128 : Int32) then (0 : Int32) else (2 : Int32)))))) else (1 : Int32))
def Q4 (Z : State) (p0 : Int32) (p1 : Int32) (p2 : Int32) (p3 : Int32) (p4 : Int32) (h0 : Heap) (n0 : Nat) (v : Option Value) (h : Heap) (L : List Loc) : Prop := v = some (.int (own_lenf p0 p1 p2 p3 p4)) ∧ Fr n0 L ∧ h = h0
set_option maxRecDepth 65536 in
set_option maxHeartbeats 40000000 in
theorem rm4 (l : Launch) (Z : State) (av0 : Array Value) (hw : ∀ d ∈ tables_1, d.before av0 Z = true) (ws : List Jvm.Cond) (p0 : Int32) (p1 : Int32) (p2 : Int32) (p3 : Int32) (p4 : Int32) (h0 : Heap) (n0 : Nat) (Z0 : n0 ≤ h0.size) :
    MetFree l (⟨"com/example/ballast/ballast/model/Utf8TextIsUtf8PinLaw", "len", "(IIIII)I"⟩ : MethodName) (head1 (Jvm.Cond.code (⟨"com/example/ballast/ballast/model/Utf8TextIsUtf8PinLaw", "len", "(IIIII)I"⟩ : MethodName) method_5_code 6 (some .int) :: ws) ({ frames := 1, cells := 0, slots := 0, locals := 12 } : Room)) (fun a U => a = #[(.int p0), (.int p1), (.int p2), (.int p3), (.int p4)] ∧ Z.Warmed39 U.vm ∧ U.heap = h0) (fun _ _ _ _ _ => True) (fun _ U o U' => ∃ v L, o = .returned v ∧ Q4 Z p0 p1 p2 p3 p4 h0 n0 v U'.heap L ∧ FrameEnd U o U' L ({ frames := 1, cells := 0, slots := 0, locals := 12 } : Room).cells ({ frames := 1, cells := 0, slots := 0, locals := 12 } : Room).slots) := by
  refine MetFree.of_bodySF (plainFor_of_name pn_4) hisR ?_
  intro p e s m args below meth c s₁ Bd hml0 hP hK
  obtain ⟨rfl, hZ, hh⟩ := hP
  have hx := Bd.exec
  have hby := Bd.bytes
  have hml : c.maxLocals = 6 := hml0
  have hown : s.vm.findClass "com/example/ballast/ballast/model/Utf8TextIsUtf8PinLaw" = some m.cls := findClass_of_methodNamed Bd.named
  have hnm := (name_of_methodNamed Bd.named Bd.method).1
  have X0 : Stand p l e ({ frames := 1, cells := 0, slots := 0, locals := 12 } : Room) s m #[(.int p0), (.int p1), (.int p2), (.int p3), (.int p4)] below meth c s₁ [] 0 0 := Stand.of_body Bd
  have e0 : s₁.heap = h0 := by rw [← hh, Bd.state]; rfl
  have N0 := Fr.nil n0
  have K0 : Keep h0 h0 [] := Keep.refl h0 []
  refine own_go (B := s₁.setTop (mkF m 0 #[.val (.int p0), .val (.int p1), .val (.int p2), .val (.int p3), .val (.int p4), .unset] [])) (fun t k => castTop (ef_4 m p0 p1 p2 p3 p4) k) ?_
  refine own_go (B := s₁.setTop (mkF m 3 #[.val (.int p0), .val (.int p1), .val (.int p2), .val (.int p3), .val (.int p4), .unset] [(.int (127 : Int32)), (.int p0)])) (fun t k => ?_) ?_
  · show Steps p.tables e below (s₁.setTop (mkF m 0 #[.val (.int p0), .val (.int p1), .val (.int p2), .val (.int p3), .val (.int p4), .unset] [])) _
    refine XS.iloadN X0.here hx rfl (hb hby d4_0) rfl ?_
    show Steps p.tables e below (s₁.setTop (mkF m 1 #[.val (.int p0), .val (.int p1), .val (.int p2), .val (.int p3), .val (.int p4), .unset] [(.int p0)])) _
    refine XS.bipush X0.here hx rfl (hb hby d4_1) ?_
    exact k
  by_cases hc3 : (127 : Int32) < p0
  · refine own_go (B := s₁.setTop (mkF m 8 #[.val (.int p0), .val (.int p1), .val (.int p2), .val (.int p3), .val (.int p4), .unset] [])) (fun t k => ?_) ?_
    · show Steps p.tables e below (s₁.setTop (mkF m 3 #[.val (.int p0), .val (.int p1), .val (.int p2), .val (.int p3), .val (.int p4), .unset] [(.int (127 : Int32)), (.int p0)])) _
      refine XS.icmpYes X0.here hx rfl (pc0 := 3) (pc' := 8) rfl (hb hby d4_3) rfl (tlt hc3).2.2.1 (by decide) (by decide) ?_
      exact k
    refine own_go (B := s₁.setTop (mkF m 12 #[.val (.int p0), .val (.int p1), .val (.int p2), .val (.int p3), .val (.int p4), .unset] [(.int (192 : Int32)), (.int p0)])) (fun t k => ?_) ?_
    · show Steps p.tables e below (s₁.setTop (mkF m 8 #[.val (.int p0), .val (.int p1), .val (.int p2), .val (.int p3), .val (.int p4), .unset] [])) _
      refine XS.iloadN X0.here hx rfl (hb hby d4_8) rfl ?_
      show Steps p.tables e below (s₁.setTop (mkF m 9 #[.val (.int p0), .val (.int p1), .val (.int p2), .val (.int p3), .val (.int p4), .unset] [(.int p0)])) _
      refine XS.sipush X0.here hx rfl (hb hby d4_9) ?_
      exact k
    by_cases hc12 : p0 < (192 : Int32)
    · refine own_go (B := s₁.setTop (mkF m 67 #[.val (.int p0), .val (.int p1), .val (.int p2), .val (.int p3), .val (.int p4), .unset] [])) (fun t k => ?_) ?_
      · show Steps p.tables e below (s₁.setTop (mkF m 12 #[.val (.int p0), .val (.int p1), .val (.int p2), .val (.int p3), .val (.int p4), .unset] [(.int (192 : Int32)), (.int p0)])) _
        refine XS.icmpYes X0.here hx rfl (pc0 := 12) (pc' := 67) rfl (hb hby d4_12) rfl (tlt hc12).1 (by decide) (by decide) ?_
        exact k
      refine own_go (B := s₁.setTop (mkF m 71 #[.val (.int p0), .val (.int p1), .val (.int p2), .val (.int p3), .val (.int p4), .unset] [(.int (224 : Int32)), (.int p0)])) (fun t k => ?_) ?_
      · show Steps p.tables e below (s₁.setTop (mkF m 67 #[.val (.int p0), .val (.int p1), .val (.int p2), .val (.int p3), .val (.int p4), .unset] [])) _
        refine XS.iloadN X0.here hx rfl (hb hby d4_67) rfl ?_
        show Steps p.tables e below (s₁.setTop (mkF m 68 #[.val (.int p0), .val (.int p1), .val (.int p2), .val (.int p3), .val (.int p4), .unset] [(.int p0)])) _
        refine XS.sipush X0.here hx rfl (hb hby d4_68) ?_
        exact k
      refine own_go (B := s₁.setTop (mkF m 157 #[.val (.int p0), .val (.int p1), .val (.int p2), .val (.int p3), .val (.int p4), .unset] [])) (fun t k => ?_) ?_
      · show Steps p.tables e below (s₁.setTop (mkF m 71 #[.val (.int p0), .val (.int p1), .val (.int p2), .val (.int p3), .val (.int p4), .unset] [(.int (224 : Int32)), (.int p0)])) _
        refine XS.icmpYes X0.here hx rfl (pc0 := 71) (pc' := 157) rfl (hb hby d4_71) rfl (tlt (by have q0 := hc3; have q1 := hc12; simp only [own_i, own_eqi] at q0 q1 ⊢; have c0 : (127 : Int32).toInt = 127 := rfl; have c1 : (192 : Int32).toInt = 192 := rfl; have c2 : (224 : Int32).toInt = 224 := rfl; omega : p0 < (224 : Int32))).1 (by decide) (by decide) ?_
        exact k
      refine own_go (B := s₁.setTop (mkF m 161 #[.val (.int p0), .val (.int p1), .val (.int p2), .val (.int p3), .val (.int p4), .unset] [(.int (240 : Int32)), (.int p0)])) (fun t k => ?_) ?_
      · show Steps p.tables e below (s₁.setTop (mkF m 157 #[.val (.int p0), .val (.int p1), .val (.int p2), .val (.int p3), .val (.int p4), .unset] [])) _
        refine XS.iloadN X0.here hx rfl (hb hby d4_157) rfl ?_
        show Steps p.tables e below (s₁.setTop (mkF m 158 #[.val (.int p0), .val (.int p1), .val (.int p2), .val (.int p3), .val (.int p4), .unset] [(.int p0)])) _
        refine XS.sipush X0.here hx rfl (hb hby d4_158) ?_
        exact k
      refine own_go (B := s₁.setTop (mkF m 253 #[.val (.int p0), .val (.int p1), .val (.int p2), .val (.int p3), .val (.int p4), .unset] [])) (fun t k => ?_) ?_
      · show Steps p.tables e below (s₁.setTop (mkF m 161 #[.val (.int p0), .val (.int p1), .val (.int p2), .val (.int p3), .val (.int p4), .unset] [(.int (240 : Int32)), (.int p0)])) _
        refine XS.icmpYes X0.here hx rfl (pc0 := 161) (pc' := 253) rfl (hb hby d4_161) rfl (tlt (by have q0 := hc3; have q1 := hc12; simp only [own_i, own_eqi] at q0 q1 ⊢; have c0 : (127 : Int32).toInt = 127 := rfl; have c1 : (192 : Int32).toInt = 192 := rfl; have c2 : (240 : Int32).toInt = 240 := rfl; omega : p0 < (240 : Int32))).1 (by decide) (by decide) ?_
        exact k
      refine own_go (B := s₁.setTop (mkF m 254 #[.val (.int p0), .val (.int p1), .val (.int p2), .val (.int p3), .val (.int p4), .unset] [(.int (0 : Int32))])) (fun t k => ?_) ?_
      · show Steps p.tables e below (s₁.setTop (mkF m 253 #[.val (.int p0), .val (.int p1), .val (.int p2), .val (.int p3), .val (.int p4), .unset] [])) _
        refine XS.iconst X0.here hx rfl (hb hby d4_253) ?_
        exact k
      obtain ⟨fs, hr, hrun, hended, hW, hsame⟩ := X0.leave (v := some (.int (0 : Int32))) (fun h => by rw [Bd.returns] at h; cases h)
      refine ⟨_, _, ?_, hrun, hended, _, _, rfl, ?_, ⟨_, rfl⟩, hW, hsame.mono (by decide) (by decide)⟩
      · show Steps p.tables e below (s₁.setTop (mkF m 254 #[.val (.int p0), .val (.int p1), .val (.int p2), .val (.int p3), .val (.int p4), .unset] [(.int (0 : Int32))])) _
        exact retI X0 hx Bd.returns (hb hby d4_254) hr
      · show Q4 Z p0 p1 p2 p3 p4 h0 n0 _ s₁.heap _
        rw [e0]
        exact ⟨by simp only [own_lenf, if_pos hc3, if_pos hc12], N0, rfl⟩
    · refine own_go (B := s₁.setTop (mkF m 15 #[.val (.int p0), .val (.int p1), .val (.int p2), .val (.int p3), .val (.int p4), .unset] [])) (fun t k => ?_) ?_
      · show Steps p.tables e below (s₁.setTop (mkF m 12 #[.val (.int p0), .val (.int p1), .val (.int p2), .val (.int p3), .val (.int p4), .unset] [(.int (192 : Int32)), (.int p0)])) _
        refine XS.icmpNo X0.here hx rfl (hb hby d4_12) rfl (flt hc12).1 ?_
        exact k
      refine own_go (B := s₁.setTop (mkF m 19 #[.val (.int p0), .val (.int p1), .val (.int p2), .val (.int p3), .val (.int p4), .unset] [(.int (223 : Int32)), (.int p0)])) (fun t k => ?_) ?_
      · show Steps p.tables e below (s₁.setTop (mkF m 15 #[.val (.int p0), .val (.int p1), .val (.int p2), .val (.int p3), .val (.int p4), .unset] [])) _
        refine XS.iloadN X0.here hx rfl (hb hby d4_15) rfl ?_
        show Steps p.tables e below (s₁.setTop (mkF m 16 #[.val (.int p0), .val (.int p1), .val (.int p2), .val (.int p3), .val (.int p4), .unset] [(.int p0)])) _
        refine XS.sipush X0.here hx rfl (hb hby d4_16) ?_
        exact k
      by_cases hc19 : (223 : Int32) < p0
      · refine own_go (B := s₁.setTop (mkF m 67 #[.val (.int p0), .val (.int p1), .val (.int p2), .val (.int p3), .val (.int p4), .unset] [])) (fun t k => ?_) ?_
        · show Steps p.tables e below (s₁.setTop (mkF m 19 #[.val (.int p0), .val (.int p1), .val (.int p2), .val (.int p3), .val (.int p4), .unset] [(.int (223 : Int32)), (.int p0)])) _
          refine XS.icmpYes X0.here hx rfl (pc0 := 19) (pc' := 67) rfl (hb hby d4_19) rfl (tlt hc19).2.2.1 (by decide) (by decide) ?_
          exact k
        refine own_go (B := s₁.setTop (mkF m 71 #[.val (.int p0), .val (.int p1), .val (.int p2), .val (.int p3), .val (.int p4), .unset] [(.int (224 : Int32)), (.int p0)])) (fun t k => ?_) ?_
        · show Steps p.tables e below (s₁.setTop (mkF m 67 #[.val (.int p0), .val (.int p1), .val (.int p2), .val (.int p3), .val (.int p4), .unset] [])) _
          refine XS.iloadN X0.here hx rfl (hb hby d4_67) rfl ?_
          show Steps p.tables e below (s₁.setTop (mkF m 68 #[.val (.int p0), .val (.int p1), .val (.int p2), .val (.int p3), .val (.int p4), .unset] [(.int p0)])) _
          refine XS.sipush X0.here hx rfl (hb hby d4_68) ?_
          exact k
        refine own_go (B := s₁.setTop (mkF m 74 #[.val (.int p0), .val (.int p1), .val (.int p2), .val (.int p3), .val (.int p4), .unset] [])) (fun t k => ?_) ?_
        · show Steps p.tables e below (s₁.setTop (mkF m 71 #[.val (.int p0), .val (.int p1), .val (.int p2), .val (.int p3), .val (.int p4), .unset] [(.int (224 : Int32)), (.int p0)])) _
          refine XS.icmpNo X0.here hx rfl (hb hby d4_71) rfl (flt (by have q0 := hc3; have q1 := hc12; have q2 := hc19; simp only [own_i, own_eqi] at q0 q1 q2 ⊢; have c0 : (127 : Int32).toInt = 127 := rfl; have c1 : (192 : Int32).toInt = 192 := rfl; have c2 : (223 : Int32).toInt = 223 := rfl; have c3 : (224 : Int32).toInt = 224 := rfl; omega : ¬ (p0 < (224 : Int32)))).1 ?_
          exact k
        refine own_go (B := s₁.setTop (mkF m 78 #[.val (.int p0), .val (.int p1), .val (.int p2), .val (.int p3), .val (.int p4), .unset] [(.int (239 : Int32)), (.int p0)])) (fun t k => ?_) ?_
        · show Steps p.tables e below (s₁.setTop (mkF m 74 #[.val (.int p0), .val (.int p1), .val (.int p2), .val (.int p3), .val (.int p4), .unset] [])) _
          refine XS.iloadN X0.here hx rfl (hb hby d4_74) rfl ?_
          show Steps p.tables e below (s₁.setTop (mkF m 75 #[.val (.int p0), .val (.int p1), .val (.int p2), .val (.int p3), .val (.int p4), .unset] [(.int p0)])) _
          refine XS.sipush X0.here hx rfl (hb hby d4_75) ?_
          exact k
        by_cases hc78 : (239 : Int32) < p0
        · refine own_go (B := s₁.setTop (mkF m 157 #[.val (.int p0), .val (.int p1), .val (.int p2), .val (.int p3), .val (.int p4), .unset] [])) (fun t k => ?_) ?_
          · show Steps p.tables e below (s₁.setTop (mkF m 78 #[.val (.int p0), .val (.int p1), .val (.int p2), .val (.int p3), .val (.int p4), .unset] [(.int (239 : Int32)), (.int p0)])) _
            refine XS.icmpYes X0.here hx rfl (pc0 := 78) (pc' := 157) rfl (hb hby d4_78) rfl (tlt hc78).2.2.1 (by decide) (by decide) ?_
            exact k
          refine own_go (B := s₁.setTop (mkF m 161 #[.val (.int p0), .val (.int p1), .val (.int p2), .val (.int p3), .val (.int p4), .unset] [(.int (240 : Int32)), (.int p0)])) (fun t k => ?_) ?_
          · show Steps p.tables e below (s₁.setTop (mkF m 157 #[.val (.int p0), .val (.int p1), .val (.int p2), .val (.int p3), .val (.int p4), .unset] [])) _
            refine XS.iloadN X0.here hx rfl (hb hby d4_157) rfl ?_
            show Steps p.tables e below (s₁.setTop (mkF m 158 #[.val (.int p0), .val (.int p1), .val (.int p2), .val (.int p3), .val (.int p4), .unset] [(.int p0)])) _
            refine XS.sipush X0.here hx rfl (hb hby d4_158) ?_
            exact k
          refine own_go (B := s₁.setTop (mkF m 164 #[.val (.int p0), .val (.int p1), .val (.int p2), .val (.int p3), .val (.int p4), .unset] [])) (fun t k => ?_) ?_
          · show Steps p.tables e below (s₁.setTop (mkF m 161 #[.val (.int p0), .val (.int p1), .val (.int p2), .val (.int p3), .val (.int p4), .unset] [(.int (240 : Int32)), (.int p0)])) _
            refine XS.icmpNo X0.here hx rfl (hb hby d4_161) rfl (flt (by have q0 := hc3; have q1 := hc12; have q2 := hc19; have q3 := hc78; simp only [own_i, own_eqi] at q0 q1 q2 q3 ⊢; have c0 : (127 : Int32).toInt = 127 := rfl; have c1 : (192 : Int32).toInt = 192 := rfl; have c2 : (223 : Int32).toInt = 223 := rfl; have c3 : (239 : Int32).toInt = 239 := rfl; have c4 : (240 : Int32).toInt = 240 := rfl; omega : ¬ (p0 < (240 : Int32)))).1 ?_
            exact k
          refine own_go (B := s₁.setTop (mkF m 168 #[.val (.int p0), .val (.int p1), .val (.int p2), .val (.int p3), .val (.int p4), .unset] [(.int (247 : Int32)), (.int p0)])) (fun t k => ?_) ?_
          · show Steps p.tables e below (s₁.setTop (mkF m 164 #[.val (.int p0), .val (.int p1), .val (.int p2), .val (.int p3), .val (.int p4), .unset] [])) _
            refine XS.iloadN X0.here hx rfl (hb hby d4_164) rfl ?_
            show Steps p.tables e below (s₁.setTop (mkF m 165 #[.val (.int p0), .val (.int p1), .val (.int p2), .val (.int p3), .val (.int p4), .unset] [(.int p0)])) _
            refine XS.sipush X0.here hx rfl (hb hby d4_165) ?_
            exact k
          by_cases hc168 : (247 : Int32) < p0
          · refine own_go (B := s₁.setTop (mkF m 253 #[.val (.int p0), .val (.int p1), .val (.int p2), .val (.int p3), .val (.int p4), .unset] [])) (fun t k => ?_) ?_
            · show Steps p.tables e below (s₁.setTop (mkF m 168 #[.val (.int p0), .val (.int p1), .val (.int p2), .val (.int p3), .val (.int p4), .unset] [(.int (247 : Int32)), (.int p0)])) _
              refine XS.icmpYes X0.here hx rfl (pc0 := 168) (pc' := 253) rfl (hb hby d4_168) rfl (tlt hc168).2.2.1 (by decide) (by decide) ?_
              exact k
            refine own_go (B := s₁.setTop (mkF m 254 #[.val (.int p0), .val (.int p1), .val (.int p2), .val (.int p3), .val (.int p4), .unset] [(.int (0 : Int32))])) (fun t k => ?_) ?_
            · show Steps p.tables e below (s₁.setTop (mkF m 253 #[.val (.int p0), .val (.int p1), .val (.int p2), .val (.int p3), .val (.int p4), .unset] [])) _
              refine XS.iconst X0.here hx rfl (hb hby d4_253) ?_
              exact k
            obtain ⟨fs, hr, hrun, hended, hW, hsame⟩ := X0.leave (v := some (.int (0 : Int32))) (fun h => by rw [Bd.returns] at h; cases h)
            refine ⟨_, _, ?_, hrun, hended, _, _, rfl, ?_, ⟨_, rfl⟩, hW, hsame.mono (by decide) (by decide)⟩
            · show Steps p.tables e below (s₁.setTop (mkF m 254 #[.val (.int p0), .val (.int p1), .val (.int p2), .val (.int p3), .val (.int p4), .unset] [(.int (0 : Int32))])) _
              exact retI X0 hx Bd.returns (hb hby d4_254) hr
            · show Q4 Z p0 p1 p2 p3 p4 h0 n0 _ s₁.heap _
              rw [e0]
              exact ⟨by simp only [own_lenf, if_pos hc3, if_neg hc12, if_pos hc19, if_pos hc78, if_pos hc168], N0, rfl⟩
          · refine own_go (B := s₁.setTop (mkF m 171 #[.val (.int p0), .val (.int p1), .val (.int p2), .val (.int p3), .val (.int p4), .unset] [])) (fun t k => ?_) ?_
            · show Steps p.tables e below (s₁.setTop (mkF m 168 #[.val (.int p0), .val (.int p1), .val (.int p2), .val (.int p3), .val (.int p4), .unset] [(.int (247 : Int32)), (.int p0)])) _
              refine XS.icmpNo X0.here hx rfl (hb hby d4_168) rfl (flt hc168).2.2.1 ?_
              exact k
            refine own_go (B := s₁.setTop (mkF m 174 #[.val (.int p0), .val (.int p1), .val (.int p2), .val (.int p3), .val (.int p4), .unset] [(.int (4 : Int32)), (.int p4)])) (fun t k => ?_) ?_
            · show Steps p.tables e below (s₁.setTop (mkF m 171 #[.val (.int p0), .val (.int p1), .val (.int p2), .val (.int p3), .val (.int p4), .unset] [])) _
              refine XS.iload X0.here hx rfl (hb hby d4_171) rfl ?_
              show Steps p.tables e below (s₁.setTop (mkF m 173 #[.val (.int p0), .val (.int p1), .val (.int p2), .val (.int p3), .val (.int p4), .unset] [(.int p4)])) _
              refine XS.iconst X0.here hx rfl (hb hby d4_173) ?_
              exact k
            by_cases hc174 : p4 < (4 : Int32)
            · refine own_go (B := s₁.setTop (mkF m 198 #[.val (.int p0), .val (.int p1), .val (.int p2), .val (.int p3), .val (.int p4), .unset] [])) (fun t k => ?_) ?_
              · show Steps p.tables e below (s₁.setTop (mkF m 174 #[.val (.int p0), .val (.int p1), .val (.int p2), .val (.int p3), .val (.int p4), .unset] [(.int (4 : Int32)), (.int p4)])) _
                refine XS.icmpYes X0.here hx rfl (pc0 := 174) (pc' := 198) rfl (hb hby d4_174) rfl (tlt hc174).1 (by decide) (by decide) ?_
                exact k
              refine own_go (B := s₁.setTop (mkF m 199 #[.val (.int p0), .val (.int p1), .val (.int p2), .val (.int p3), .val (.int p4), .unset] [(.int (0 : Int32))])) (fun t k => ?_) ?_
              · show Steps p.tables e below (s₁.setTop (mkF m 198 #[.val (.int p0), .val (.int p1), .val (.int p2), .val (.int p3), .val (.int p4), .unset] [])) _
                refine XS.iconst X0.here hx rfl (hb hby d4_198) ?_
                exact k
              obtain ⟨fs, hr, hrun, hended, hW, hsame⟩ := X0.leave (v := some (.int (0 : Int32))) (fun h => by rw [Bd.returns] at h; cases h)
              refine ⟨_, _, ?_, hrun, hended, _, _, rfl, ?_, ⟨_, rfl⟩, hW, hsame.mono (by decide) (by decide)⟩
              · show Steps p.tables e below (s₁.setTop (mkF m 199 #[.val (.int p0), .val (.int p1), .val (.int p2), .val (.int p3), .val (.int p4), .unset] [(.int (0 : Int32))])) _
                exact retI X0 hx Bd.returns (hb hby d4_199) hr
              · show Q4 Z p0 p1 p2 p3 p4 h0 n0 _ s₁.heap _
                rw [e0]
                exact ⟨by simp only [own_lenf, if_pos hc3, if_neg hc12, if_pos hc19, if_pos hc78, if_neg hc168, if_pos hc174], N0, rfl⟩
            · refine own_go (B := s₁.setTop (mkF m 177 #[.val (.int p0), .val (.int p1), .val (.int p2), .val (.int p3), .val (.int p4), .unset] [])) (fun t k => ?_) ?_
              · show Steps p.tables e below (s₁.setTop (mkF m 174 #[.val (.int p0), .val (.int p1), .val (.int p2), .val (.int p3), .val (.int p4), .unset] [(.int (4 : Int32)), (.int p4)])) _
                refine XS.icmpNo X0.here hx rfl (hb hby d4_174) rfl (flt hc174).1 ?_
                exact k
              refine own_go (B := s₁.setTop (mkF m 178 #[.val (.int p0), .val (.int p1), .val (.int p2), .val (.int p3), .val (.int p4), .unset] [(.int p1)])) (fun t k => ?_) ?_
              · show Steps p.tables e below (s₁.setTop (mkF m 177 #[.val (.int p0), .val (.int p1), .val (.int p2), .val (.int p3), .val (.int p4), .unset] [])) _
                refine XS.iloadN X0.here hx rfl (hb hby d4_177) rfl ?_
                exact k
              obtain ⟨_, _, ⟨T_1, L_1, k_1, n_1⟩, -, X_1, ⟨Lc_1, hQ_1, l_1, y_1, z_1⟩, st_1⟩ := Jvm.LawKit.callS X0 hx (y := (⟨"com/example/ballast/ballast/model/Utf8TextIsUtf8PinLaw", "cont", "(I)Z"⟩ : MethodName)) hown (mvT hZ (hw _ (List.mem_of_getElem? (i := 21) rfl))) (mvT hZ (hw _ (List.mem_of_getElem? (i := 22) rfl))) (mvT hZ (hw _ (List.mem_of_getElem? (i := 4) rfl))) (mvT hZ (hw _ (List.mem_of_getElem? (i := 23) rfl))) (by decide) (backOf (W := 0) (rm6 l Z av0 hw [] p1  h0 n0 Z0 ) hZ (hw _ (List.mem_of_getElem? (i := 23) rfl)) (hw _ (List.mem_of_getElem? (i := 4) rfl)) (by decide) (by decide)) (g := (mkF m 178 #[.val (.int p0), .val (.int p1), .val (.int p2), .val (.int p3), .val (.int p4), .unset] [(.int p1)])) rfl (by rw [hml]; rfl) (argsL := [(.int p1)]) (rest := []) (lenOf pd_0 rfl) rfl (by show 2 * 0 + _ ≤ _; exact Nat.le_of_eq rfl) (hb hby d4_178) (fun _ _ => ⟨rfl, e0, (by decide : 0 + 0 ≤ _), (by decide : 0 + 0 ≤ _)⟩)
              dsimp only [Pt.U, Pt.locs, Pt.cells, Pt.slots] at X_1 l_1 y_1 z_1 st_1 hQ_1
              subst l_1 y_1 z_1
              obtain ⟨rfl, N_1q, e_1⟩ := hQ_1
              have N_1 := Fr.app N0 N_1q
              refine own_go (B := T_1.setTop (mkF m 181 #[.val (.int p0), .val (.int p1), .val (.int p2), .val (.int p3), .val (.int p4), .unset] [(.int (own_cont p1))])) (fun t k => st_1 t k) ?_
              by_cases hc181 : (own_cont p1) = (0 : Int32)
              · refine own_go (B := T_1.setTop (mkF m 198 #[.val (.int p0), .val (.int p1), .val (.int p2), .val (.int p3), .val (.int p4), .unset] [])) (fun t k => ?_) ?_
                · show Steps p.tables e below (T_1.setTop (mkF m 181 #[.val (.int p0), .val (.int p1), .val (.int p2), .val (.int p3), .val (.int p4), .unset] [(.int (own_cont p1))])) _
                  refine XS.ifYes X_1.here hx rfl (pc0 := 181) (pc' := 198) rfl (hb hby d4_181) rfl ((if0 _ _).trans (teq hc181).1) (by decide) (by decide) ?_
                  exact k
                refine own_go (B := T_1.setTop (mkF m 199 #[.val (.int p0), .val (.int p1), .val (.int p2), .val (.int p3), .val (.int p4), .unset] [(.int (0 : Int32))])) (fun t k => ?_) ?_
                · show Steps p.tables e below (T_1.setTop (mkF m 198 #[.val (.int p0), .val (.int p1), .val (.int p2), .val (.int p3), .val (.int p4), .unset] [])) _
                  refine XS.iconst X_1.here hx rfl (hb hby d4_198) ?_
                  exact k
                obtain ⟨fs, hr, hrun, hended, hW, hsame⟩ := X_1.leave (v := some (.int (0 : Int32))) (fun h => by rw [Bd.returns] at h; cases h)
                refine ⟨_, _, ?_, hrun, hended, _, _, rfl, ?_, ⟨_, rfl⟩, hW, hsame.mono (by decide) (by decide)⟩
                · show Steps p.tables e below (T_1.setTop (mkF m 199 #[.val (.int p0), .val (.int p1), .val (.int p2), .val (.int p3), .val (.int p4), .unset] [(.int (0 : Int32))])) _
                  exact retI X_1 hx Bd.returns (hb hby d4_199) hr
                · show Q4 Z p0 p1 p2 p3 p4 h0 n0 _ T_1.heap _
                  rw [e_1]
                  exact ⟨by simp only [own_lenf, if_pos hc3, if_neg hc12, if_pos hc19, if_pos hc78, if_neg hc168, if_neg hc174, if_pos hc181], N_1, rfl⟩
              · refine own_go (B := T_1.setTop (mkF m 184 #[.val (.int p0), .val (.int p1), .val (.int p2), .val (.int p3), .val (.int p4), .unset] [])) (fun t k => ?_) ?_
                · show Steps p.tables e below (T_1.setTop (mkF m 181 #[.val (.int p0), .val (.int p1), .val (.int p2), .val (.int p3), .val (.int p4), .unset] [(.int (own_cont p1))])) _
                  refine XS.ifNo X_1.here hx rfl (hb hby d4_181) rfl ((if0 _ _).trans (feq hc181).1) ?_
                  exact k
                refine own_go (B := T_1.setTop (mkF m 185 #[.val (.int p0), .val (.int p1), .val (.int p2), .val (.int p3), .val (.int p4), .unset] [(.int p2)])) (fun t k => ?_) ?_
                · show Steps p.tables e below (T_1.setTop (mkF m 184 #[.val (.int p0), .val (.int p1), .val (.int p2), .val (.int p3), .val (.int p4), .unset] [])) _
                  refine XS.iloadN X_1.here hx rfl (hb hby d4_184) rfl ?_
                  exact k
                obtain ⟨_, _, ⟨T_2, L_2, k_2, n_2⟩, -, X_2, ⟨Lc_2, hQ_2, l_2, y_2, z_2⟩, st_2⟩ := Jvm.LawKit.callS X_1 hx (y := (⟨"com/example/ballast/ballast/model/Utf8TextIsUtf8PinLaw", "cont", "(I)Z"⟩ : MethodName)) hown (mvT hZ (hw _ (List.mem_of_getElem? (i := 21) rfl))) (mvT hZ (hw _ (List.mem_of_getElem? (i := 22) rfl))) (mvT hZ (hw _ (List.mem_of_getElem? (i := 4) rfl))) (mvT hZ (hw _ (List.mem_of_getElem? (i := 23) rfl))) (by decide) (backOf (W := 0) (rm6 l Z av0 hw [] p2  h0 n0 Z0 ) hZ (hw _ (List.mem_of_getElem? (i := 23) rfl)) (hw _ (List.mem_of_getElem? (i := 4) rfl)) (by decide) (by decide)) (g := (mkF m 185 #[.val (.int p0), .val (.int p1), .val (.int p2), .val (.int p3), .val (.int p4), .unset] [(.int p2)])) rfl (by rw [hml]; rfl) (argsL := [(.int p2)]) (rest := []) (lenOf pd_0 rfl) rfl (by show 2 * 0 + _ ≤ _; exact Nat.le_of_eq rfl) (hb hby d4_185) (fun _ _ => ⟨rfl, e_1, (by decide : 0 + 0 ≤ _), (by decide : 0 + 0 ≤ _)⟩)
                dsimp only [Pt.U, Pt.locs, Pt.cells, Pt.slots] at X_2 l_2 y_2 z_2 st_2 hQ_2
                subst l_2 y_2 z_2
                obtain ⟨rfl, N_2q, e_2⟩ := hQ_2
                have N_2 := Fr.app N_1 N_2q
                refine own_go (B := T_2.setTop (mkF m 188 #[.val (.int p0), .val (.int p1), .val (.int p2), .val (.int p3), .val (.int p4), .unset] [(.int (own_cont p2))])) (fun t k => st_2 t k) ?_
                by_cases hc188 : (own_cont p2) = (0 : Int32)
                · refine own_go (B := T_2.setTop (mkF m 198 #[.val (.int p0), .val (.int p1), .val (.int p2), .val (.int p3), .val (.int p4), .unset] [])) (fun t k => ?_) ?_
                  · show Steps p.tables e below (T_2.setTop (mkF m 188 #[.val (.int p0), .val (.int p1), .val (.int p2), .val (.int p3), .val (.int p4), .unset] [(.int (own_cont p2))])) _
                    refine XS.ifYes X_2.here hx rfl (pc0 := 188) (pc' := 198) rfl (hb hby d4_188) rfl ((if0 _ _).trans (teq hc188).1) (by decide) (by decide) ?_
                    exact k
                  refine own_go (B := T_2.setTop (mkF m 199 #[.val (.int p0), .val (.int p1), .val (.int p2), .val (.int p3), .val (.int p4), .unset] [(.int (0 : Int32))])) (fun t k => ?_) ?_
                  · show Steps p.tables e below (T_2.setTop (mkF m 198 #[.val (.int p0), .val (.int p1), .val (.int p2), .val (.int p3), .val (.int p4), .unset] [])) _
                    refine XS.iconst X_2.here hx rfl (hb hby d4_198) ?_
                    exact k
                  obtain ⟨fs, hr, hrun, hended, hW, hsame⟩ := X_2.leave (v := some (.int (0 : Int32))) (fun h => by rw [Bd.returns] at h; cases h)
                  refine ⟨_, _, ?_, hrun, hended, _, _, rfl, ?_, ⟨_, rfl⟩, hW, hsame.mono (by decide) (by decide)⟩
                  · show Steps p.tables e below (T_2.setTop (mkF m 199 #[.val (.int p0), .val (.int p1), .val (.int p2), .val (.int p3), .val (.int p4), .unset] [(.int (0 : Int32))])) _
                    exact retI X_2 hx Bd.returns (hb hby d4_199) hr
                  · show Q4 Z p0 p1 p2 p3 p4 h0 n0 _ T_2.heap _
                    rw [e_2]
                    exact ⟨by simp only [own_lenf, if_pos hc3, if_neg hc12, if_pos hc19, if_pos hc78, if_neg hc168, if_neg hc174, if_neg hc181, if_pos hc188], N_2, rfl⟩
                · refine own_go (B := T_2.setTop (mkF m 191 #[.val (.int p0), .val (.int p1), .val (.int p2), .val (.int p3), .val (.int p4), .unset] [])) (fun t k => ?_) ?_
                  · show Steps p.tables e below (T_2.setTop (mkF m 188 #[.val (.int p0), .val (.int p1), .val (.int p2), .val (.int p3), .val (.int p4), .unset] [(.int (own_cont p2))])) _
                    refine XS.ifNo X_2.here hx rfl (hb hby d4_188) rfl ((if0 _ _).trans (feq hc188).1) ?_
                    exact k
                  refine own_go (B := T_2.setTop (mkF m 192 #[.val (.int p0), .val (.int p1), .val (.int p2), .val (.int p3), .val (.int p4), .unset] [(.int p3)])) (fun t k => ?_) ?_
                  · show Steps p.tables e below (T_2.setTop (mkF m 191 #[.val (.int p0), .val (.int p1), .val (.int p2), .val (.int p3), .val (.int p4), .unset] [])) _
                    refine XS.iloadN X_2.here hx rfl (hb hby d4_191) rfl ?_
                    exact k
                  obtain ⟨_, _, ⟨T_3, L_3, k_3, n_3⟩, -, X_3, ⟨Lc_3, hQ_3, l_3, y_3, z_3⟩, st_3⟩ := Jvm.LawKit.callS X_2 hx (y := (⟨"com/example/ballast/ballast/model/Utf8TextIsUtf8PinLaw", "cont", "(I)Z"⟩ : MethodName)) hown (mvT hZ (hw _ (List.mem_of_getElem? (i := 21) rfl))) (mvT hZ (hw _ (List.mem_of_getElem? (i := 22) rfl))) (mvT hZ (hw _ (List.mem_of_getElem? (i := 4) rfl))) (mvT hZ (hw _ (List.mem_of_getElem? (i := 23) rfl))) (by decide) (backOf (W := 0) (rm6 l Z av0 hw [] p3  h0 n0 Z0 ) hZ (hw _ (List.mem_of_getElem? (i := 23) rfl)) (hw _ (List.mem_of_getElem? (i := 4) rfl)) (by decide) (by decide)) (g := (mkF m 192 #[.val (.int p0), .val (.int p1), .val (.int p2), .val (.int p3), .val (.int p4), .unset] [(.int p3)])) rfl (by rw [hml]; rfl) (argsL := [(.int p3)]) (rest := []) (lenOf pd_0 rfl) rfl (by show 2 * 0 + _ ≤ _; exact Nat.le_of_eq rfl) (hb hby d4_192) (fun _ _ => ⟨rfl, e_2, (by decide : 0 + 0 ≤ _), (by decide : 0 + 0 ≤ _)⟩)
                  dsimp only [Pt.U, Pt.locs, Pt.cells, Pt.slots] at X_3 l_3 y_3 z_3 st_3 hQ_3
                  subst l_3 y_3 z_3
                  obtain ⟨rfl, N_3q, e_3⟩ := hQ_3
                  have N_3 := Fr.app N_2 N_3q
                  refine own_go (B := T_3.setTop (mkF m 195 #[.val (.int p0), .val (.int p1), .val (.int p2), .val (.int p3), .val (.int p4), .unset] [(.int (own_cont p3))])) (fun t k => st_3 t k) ?_
                  by_cases hc195 : (own_cont p3) = (0 : Int32)
                  · refine own_go (B := T_3.setTop (mkF m 198 #[.val (.int p0), .val (.int p1), .val (.int p2), .val (.int p3), .val (.int p4), .unset] [])) (fun t k => ?_) ?_
                    · show Steps p.tables e below (T_3.setTop (mkF m 195 #[.val (.int p0), .val (.int p1), .val (.int p2), .val (.int p3), .val (.int p4), .unset] [(.int (own_cont p3))])) _
                      refine XS.ifNo X_3.here hx rfl (hb hby d4_195) rfl ((if0 _ _).trans (teq hc195).2) ?_
                      exact k
                    refine own_go (B := T_3.setTop (mkF m 199 #[.val (.int p0), .val (.int p1), .val (.int p2), .val (.int p3), .val (.int p4), .unset] [(.int (0 : Int32))])) (fun t k => ?_) ?_
                    · show Steps p.tables e below (T_3.setTop (mkF m 198 #[.val (.int p0), .val (.int p1), .val (.int p2), .val (.int p3), .val (.int p4), .unset] [])) _
                      refine XS.iconst X_3.here hx rfl (hb hby d4_198) ?_
                      exact k
                    obtain ⟨fs, hr, hrun, hended, hW, hsame⟩ := X_3.leave (v := some (.int (0 : Int32))) (fun h => by rw [Bd.returns] at h; cases h)
                    refine ⟨_, _, ?_, hrun, hended, _, _, rfl, ?_, ⟨_, rfl⟩, hW, hsame.mono (by decide) (by decide)⟩
                    · show Steps p.tables e below (T_3.setTop (mkF m 199 #[.val (.int p0), .val (.int p1), .val (.int p2), .val (.int p3), .val (.int p4), .unset] [(.int (0 : Int32))])) _
                      exact retI X_3 hx Bd.returns (hb hby d4_199) hr
                    · show Q4 Z p0 p1 p2 p3 p4 h0 n0 _ T_3.heap _
                      rw [e_3]
                      exact ⟨by simp only [own_lenf, if_pos hc3, if_neg hc12, if_pos hc19, if_pos hc78, if_neg hc168, if_neg hc174, if_neg hc181, if_neg hc188, if_pos hc195], N_3, rfl⟩
                  · refine own_go (B := T_3.setTop (mkF m 200 #[.val (.int p0), .val (.int p1), .val (.int p2), .val (.int p3), .val (.int p4), .unset] [])) (fun t k => ?_) ?_
                    · show Steps p.tables e below (T_3.setTop (mkF m 195 #[.val (.int p0), .val (.int p1), .val (.int p2), .val (.int p3), .val (.int p4), .unset] [(.int (own_cont p3))])) _
                      refine XS.ifYes X_3.here hx rfl (pc0 := 195) (pc' := 200) rfl (hb hby d4_195) rfl ((if0 _ _).trans (feq hc195).2) (by decide) (by decide) ?_
                      exact k
                    refine own_go (B := T_3.setTop (mkF m 239 #[.val (.int p0), .val (.int p1), .val (.int p2), .val (.int p3), .val (.int p4), .val (.int (((((p0 - (240 : Int32)) * (262144 : Int32)) + ((p1 - (128 : Int32)) * (4096 : Int32))) + ((p2 - (128 : Int32)) * (64 : Int32))) + (p3 - (128 : Int32))))] [(.int (65536 : Int32)), (.int (((((p0 - (240 : Int32)) * (262144 : Int32)) + ((p1 - (128 : Int32)) * (4096 : Int32))) + ((p2 - (128 : Int32)) * (64 : Int32))) + (p3 - (128 : Int32))))])) (fun t k => ?_) ?_
                    · show Steps p.tables e below (T_3.setTop (mkF m 200 #[.val (.int p0), .val (.int p1), .val (.int p2), .val (.int p3), .val (.int p4), .unset] [])) _
                      refine XS.iloadN X_3.here hx rfl (hb hby d4_200) rfl ?_
                      show Steps p.tables e below (T_3.setTop (mkF m 201 #[.val (.int p0), .val (.int p1), .val (.int p2), .val (.int p3), .val (.int p4), .unset] [(.int p0)])) _
                      refine XS.sipush X_3.here hx rfl (hb hby d4_201) ?_
                      show Steps p.tables e below (T_3.setTop (mkF m 204 #[.val (.int p0), .val (.int p1), .val (.int p2), .val (.int p3), .val (.int p4), .unset] [(.int (240 : Int32)), (.int p0)])) _
                      refine XS.isub X_3.here hx rfl (hb hby d4_204) rfl ?_
                      show Steps p.tables e below (T_3.setTop (mkF m 205 #[.val (.int p0), .val (.int p1), .val (.int p2), .val (.int p3), .val (.int p4), .unset] [(.int (p0 - (240 : Int32)))])) _
                      refine X_3.ldcInt hx hown (mvT hZ (hw _ (List.mem_of_getElem? (i := 26) rfl))) (g := (mkF m 205 #[.val (.int p0), .val (.int p1), .val (.int p2), .val (.int p3), .val (.int p4), .unset] [(.int (p0 - (240 : Int32)))])) rfl (hb hby d4_205) _ ?_
                      show Steps p.tables e below (T_3.setTop (mkF m 207 #[.val (.int p0), .val (.int p1), .val (.int p2), .val (.int p3), .val (.int p4), .unset] [(.int (262144 : Int32)), (.int (p0 - (240 : Int32)))])) _
                      refine XS.imul X_3.here hx rfl (hb hby d4_207) rfl ?_
                      show Steps p.tables e below (T_3.setTop (mkF m 208 #[.val (.int p0), .val (.int p1), .val (.int p2), .val (.int p3), .val (.int p4), .unset] [(.int ((p0 - (240 : Int32)) * (262144 : Int32)))])) _
                      refine XS.iloadN X_3.here hx rfl (hb hby d4_208) rfl ?_
                      show Steps p.tables e below (T_3.setTop (mkF m 209 #[.val (.int p0), .val (.int p1), .val (.int p2), .val (.int p3), .val (.int p4), .unset] [(.int p1), (.int ((p0 - (240 : Int32)) * (262144 : Int32)))])) _
                      refine XS.sipush X_3.here hx rfl (hb hby d4_209) ?_
                      show Steps p.tables e below (T_3.setTop (mkF m 212 #[.val (.int p0), .val (.int p1), .val (.int p2), .val (.int p3), .val (.int p4), .unset] [(.int (128 : Int32)), (.int p1), (.int ((p0 - (240 : Int32)) * (262144 : Int32)))])) _
                      refine XS.isub X_3.here hx rfl (hb hby d4_212) rfl ?_
                      show Steps p.tables e below (T_3.setTop (mkF m 213 #[.val (.int p0), .val (.int p1), .val (.int p2), .val (.int p3), .val (.int p4), .unset] [(.int (p1 - (128 : Int32))), (.int ((p0 - (240 : Int32)) * (262144 : Int32)))])) _
                      refine XS.sipush X_3.here hx rfl (hb hby d4_213) ?_
                      show Steps p.tables e below (T_3.setTop (mkF m 216 #[.val (.int p0), .val (.int p1), .val (.int p2), .val (.int p3), .val (.int p4), .unset] [(.int (4096 : Int32)), (.int (p1 - (128 : Int32))), (.int ((p0 - (240 : Int32)) * (262144 : Int32)))])) _
                      refine XS.imul X_3.here hx rfl (hb hby d4_216) rfl ?_
                      show Steps p.tables e below (T_3.setTop (mkF m 217 #[.val (.int p0), .val (.int p1), .val (.int p2), .val (.int p3), .val (.int p4), .unset] [(.int ((p1 - (128 : Int32)) * (4096 : Int32))), (.int ((p0 - (240 : Int32)) * (262144 : Int32)))])) _
                      refine XS.iadd X_3.here hx rfl (hb hby d4_217) rfl ?_
                      show Steps p.tables e below (T_3.setTop (mkF m 218 #[.val (.int p0), .val (.int p1), .val (.int p2), .val (.int p3), .val (.int p4), .unset] [(.int (((p0 - (240 : Int32)) * (262144 : Int32)) + ((p1 - (128 : Int32)) * (4096 : Int32))))])) _
                      refine XS.iloadN X_3.here hx rfl (hb hby d4_218) rfl ?_
                      show Steps p.tables e below (T_3.setTop (mkF m 219 #[.val (.int p0), .val (.int p1), .val (.int p2), .val (.int p3), .val (.int p4), .unset] [(.int p2), (.int (((p0 - (240 : Int32)) * (262144 : Int32)) + ((p1 - (128 : Int32)) * (4096 : Int32))))])) _
                      refine XS.sipush X_3.here hx rfl (hb hby d4_219) ?_
                      show Steps p.tables e below (T_3.setTop (mkF m 222 #[.val (.int p0), .val (.int p1), .val (.int p2), .val (.int p3), .val (.int p4), .unset] [(.int (128 : Int32)), (.int p2), (.int (((p0 - (240 : Int32)) * (262144 : Int32)) + ((p1 - (128 : Int32)) * (4096 : Int32))))])) _
                      refine XS.isub X_3.here hx rfl (hb hby d4_222) rfl ?_
                      show Steps p.tables e below (T_3.setTop (mkF m 223 #[.val (.int p0), .val (.int p1), .val (.int p2), .val (.int p3), .val (.int p4), .unset] [(.int (p2 - (128 : Int32))), (.int (((p0 - (240 : Int32)) * (262144 : Int32)) + ((p1 - (128 : Int32)) * (4096 : Int32))))])) _
                      refine XS.bipush X_3.here hx rfl (hb hby d4_223) ?_
                      show Steps p.tables e below (T_3.setTop (mkF m 225 #[.val (.int p0), .val (.int p1), .val (.int p2), .val (.int p3), .val (.int p4), .unset] [(.int (64 : Int32)), (.int (p2 - (128 : Int32))), (.int (((p0 - (240 : Int32)) * (262144 : Int32)) + ((p1 - (128 : Int32)) * (4096 : Int32))))])) _
                      refine XS.imul X_3.here hx rfl (hb hby d4_225) rfl ?_
                      show Steps p.tables e below (T_3.setTop (mkF m 226 #[.val (.int p0), .val (.int p1), .val (.int p2), .val (.int p3), .val (.int p4), .unset] [(.int ((p2 - (128 : Int32)) * (64 : Int32))), (.int (((p0 - (240 : Int32)) * (262144 : Int32)) + ((p1 - (128 : Int32)) * (4096 : Int32))))])) _
                      refine XS.iadd X_3.here hx rfl (hb hby d4_226) rfl ?_
                      show Steps p.tables e below (T_3.setTop (mkF m 227 #[.val (.int p0), .val (.int p1), .val (.int p2), .val (.int p3), .val (.int p4), .unset] [(.int ((((p0 - (240 : Int32)) * (262144 : Int32)) + ((p1 - (128 : Int32)) * (4096 : Int32))) + ((p2 - (128 : Int32)) * (64 : Int32))))])) _
                      refine XS.iloadN X_3.here hx rfl (hb hby d4_227) rfl ?_
                      show Steps p.tables e below (T_3.setTop (mkF m 228 #[.val (.int p0), .val (.int p1), .val (.int p2), .val (.int p3), .val (.int p4), .unset] [(.int p3), (.int ((((p0 - (240 : Int32)) * (262144 : Int32)) + ((p1 - (128 : Int32)) * (4096 : Int32))) + ((p2 - (128 : Int32)) * (64 : Int32))))])) _
                      refine XS.sipush X_3.here hx rfl (hb hby d4_228) ?_
                      show Steps p.tables e below (T_3.setTop (mkF m 231 #[.val (.int p0), .val (.int p1), .val (.int p2), .val (.int p3), .val (.int p4), .unset] [(.int (128 : Int32)), (.int p3), (.int ((((p0 - (240 : Int32)) * (262144 : Int32)) + ((p1 - (128 : Int32)) * (4096 : Int32))) + ((p2 - (128 : Int32)) * (64 : Int32))))])) _
                      refine XS.isub X_3.here hx rfl (hb hby d4_231) rfl ?_
                      show Steps p.tables e below (T_3.setTop (mkF m 232 #[.val (.int p0), .val (.int p1), .val (.int p2), .val (.int p3), .val (.int p4), .unset] [(.int (p3 - (128 : Int32))), (.int ((((p0 - (240 : Int32)) * (262144 : Int32)) + ((p1 - (128 : Int32)) * (4096 : Int32))) + ((p2 - (128 : Int32)) * (64 : Int32))))])) _
                      refine XS.iadd X_3.here hx rfl (hb hby d4_232) rfl ?_
                      show Steps p.tables e below (T_3.setTop (mkF m 233 #[.val (.int p0), .val (.int p1), .val (.int p2), .val (.int p3), .val (.int p4), .unset] [(.int (((((p0 - (240 : Int32)) * (262144 : Int32)) + ((p1 - (128 : Int32)) * (4096 : Int32))) + ((p2 - (128 : Int32)) * (64 : Int32))) + (p3 - (128 : Int32))))])) _
                      refine XS.istore X_3.here hx rfl (hb hby d4_233) rfl (l' := #[.val (.int p0), .val (.int p1), .val (.int p2), .val (.int p3), .val (.int p4), .val (.int (((((p0 - (240 : Int32)) * (262144 : Int32)) + ((p1 - (128 : Int32)) * (4096 : Int32))) + ((p2 - (128 : Int32)) * (64 : Int32))) + (p3 - (128 : Int32))))]) rfl ?_
                      show Steps p.tables e below (T_3.setTop (mkF m 235 #[.val (.int p0), .val (.int p1), .val (.int p2), .val (.int p3), .val (.int p4), .val (.int (((((p0 - (240 : Int32)) * (262144 : Int32)) + ((p1 - (128 : Int32)) * (4096 : Int32))) + ((p2 - (128 : Int32)) * (64 : Int32))) + (p3 - (128 : Int32))))] [])) _
                      refine XS.iload X_3.here hx rfl (hb hby d4_235) rfl ?_
                      show Steps p.tables e below (T_3.setTop (mkF m 237 #[.val (.int p0), .val (.int p1), .val (.int p2), .val (.int p3), .val (.int p4), .val (.int (((((p0 - (240 : Int32)) * (262144 : Int32)) + ((p1 - (128 : Int32)) * (4096 : Int32))) + ((p2 - (128 : Int32)) * (64 : Int32))) + (p3 - (128 : Int32))))] [(.int (((((p0 - (240 : Int32)) * (262144 : Int32)) + ((p1 - (128 : Int32)) * (4096 : Int32))) + ((p2 - (128 : Int32)) * (64 : Int32))) + (p3 - (128 : Int32))))])) _
                      refine X_3.ldcInt hx hown (mvT hZ (hw _ (List.mem_of_getElem? (i := 27) rfl))) (g := (mkF m 237 #[.val (.int p0), .val (.int p1), .val (.int p2), .val (.int p3), .val (.int p4), .val (.int (((((p0 - (240 : Int32)) * (262144 : Int32)) + ((p1 - (128 : Int32)) * (4096 : Int32))) + ((p2 - (128 : Int32)) * (64 : Int32))) + (p3 - (128 : Int32))))] [(.int (((((p0 - (240 : Int32)) * (262144 : Int32)) + ((p1 - (128 : Int32)) * (4096 : Int32))) + ((p2 - (128 : Int32)) * (64 : Int32))) + (p3 - (128 : Int32))))])) rfl (hb hby d4_237) _ ?_
                      exact k
                    by_cases hc239 : (((((p0 - (240 : Int32)) * (262144 : Int32)) + ((p1 - (128 : Int32)) * (4096 : Int32))) + ((p2 - (128 : Int32)) * (64 : Int32))) + (p3 - (128 : Int32))) < (65536 : Int32)
                    · refine own_go (B := T_3.setTop (mkF m 249 #[.val (.int p0), .val (.int p1), .val (.int p2), .val (.int p3), .val (.int p4), .val (.int (((((p0 - (240 : Int32)) * (262144 : Int32)) + ((p1 - (128 : Int32)) * (4096 : Int32))) + ((p2 - (128 : Int32)) * (64 : Int32))) + (p3 - (128 : Int32))))] [])) (fun t k => ?_) ?_
                      · show Steps p.tables e below (T_3.setTop (mkF m 239 #[.val (.int p0), .val (.int p1), .val (.int p2), .val (.int p3), .val (.int p4), .val (.int (((((p0 - (240 : Int32)) * (262144 : Int32)) + ((p1 - (128 : Int32)) * (4096 : Int32))) + ((p2 - (128 : Int32)) * (64 : Int32))) + (p3 - (128 : Int32))))] [(.int (65536 : Int32)), (.int (((((p0 - (240 : Int32)) * (262144 : Int32)) + ((p1 - (128 : Int32)) * (4096 : Int32))) + ((p2 - (128 : Int32)) * (64 : Int32))) + (p3 - (128 : Int32))))])) _
                        refine XS.icmpYes X_3.here hx rfl (pc0 := 239) (pc' := 249) rfl (hb hby d4_239) rfl (tlt hc239).1 (by decide) (by decide) ?_
                        exact k
                      refine own_go (B := T_3.setTop (mkF m 250 #[.val (.int p0), .val (.int p1), .val (.int p2), .val (.int p3), .val (.int p4), .val (.int (((((p0 - (240 : Int32)) * (262144 : Int32)) + ((p1 - (128 : Int32)) * (4096 : Int32))) + ((p2 - (128 : Int32)) * (64 : Int32))) + (p3 - (128 : Int32))))] [(.int (0 : Int32))])) (fun t k => ?_) ?_
                      · show Steps p.tables e below (T_3.setTop (mkF m 249 #[.val (.int p0), .val (.int p1), .val (.int p2), .val (.int p3), .val (.int p4), .val (.int (((((p0 - (240 : Int32)) * (262144 : Int32)) + ((p1 - (128 : Int32)) * (4096 : Int32))) + ((p2 - (128 : Int32)) * (64 : Int32))) + (p3 - (128 : Int32))))] [])) _
                        refine XS.iconst X_3.here hx rfl (hb hby d4_249) ?_
                        exact k
                      obtain ⟨fs, hr, hrun, hended, hW, hsame⟩ := X_3.leave (v := some (.int (0 : Int32))) (fun h => by rw [Bd.returns] at h; cases h)
                      refine ⟨_, _, ?_, hrun, hended, _, _, rfl, ?_, ⟨_, rfl⟩, hW, hsame.mono (by decide) (by decide)⟩
                      · show Steps p.tables e below (T_3.setTop (mkF m 250 #[.val (.int p0), .val (.int p1), .val (.int p2), .val (.int p3), .val (.int p4), .val (.int (((((p0 - (240 : Int32)) * (262144 : Int32)) + ((p1 - (128 : Int32)) * (4096 : Int32))) + ((p2 - (128 : Int32)) * (64 : Int32))) + (p3 - (128 : Int32))))] [(.int (0 : Int32))])) _
                        exact retI X_3 hx Bd.returns (hb hby d4_250) hr
                      · show Q4 Z p0 p1 p2 p3 p4 h0 n0 _ T_3.heap _
                        rw [e_3]
                        exact ⟨by simp only [own_lenf, if_pos hc3, if_neg hc12, if_pos hc19, if_pos hc78, if_neg hc168, if_neg hc174, if_neg hc181, if_neg hc188, if_neg hc195, if_pos hc239], N_3, rfl⟩
                    · refine own_go (B := T_3.setTop (mkF m 242 #[.val (.int p0), .val (.int p1), .val (.int p2), .val (.int p3), .val (.int p4), .val (.int (((((p0 - (240 : Int32)) * (262144 : Int32)) + ((p1 - (128 : Int32)) * (4096 : Int32))) + ((p2 - (128 : Int32)) * (64 : Int32))) + (p3 - (128 : Int32))))] [])) (fun t k => ?_) ?_
                      · show Steps p.tables e below (T_3.setTop (mkF m 239 #[.val (.int p0), .val (.int p1), .val (.int p2), .val (.int p3), .val (.int p4), .val (.int (((((p0 - (240 : Int32)) * (262144 : Int32)) + ((p1 - (128 : Int32)) * (4096 : Int32))) + ((p2 - (128 : Int32)) * (64 : Int32))) + (p3 - (128 : Int32))))] [(.int (65536 : Int32)), (.int (((((p0 - (240 : Int32)) * (262144 : Int32)) + ((p1 - (128 : Int32)) * (4096 : Int32))) + ((p2 - (128 : Int32)) * (64 : Int32))) + (p3 - (128 : Int32))))])) _
                        refine XS.icmpNo X_3.here hx rfl (hb hby d4_239) rfl (flt hc239).1 ?_
                        exact k
                      refine own_go (B := T_3.setTop (mkF m 246 #[.val (.int p0), .val (.int p1), .val (.int p2), .val (.int p3), .val (.int p4), .val (.int (((((p0 - (240 : Int32)) * (262144 : Int32)) + ((p1 - (128 : Int32)) * (4096 : Int32))) + ((p2 - (128 : Int32)) * (64 : Int32))) + (p3 - (128 : Int32))))] [(.int (1114111 : Int32)), (.int (((((p0 - (240 : Int32)) * (262144 : Int32)) + ((p1 - (128 : Int32)) * (4096 : Int32))) + ((p2 - (128 : Int32)) * (64 : Int32))) + (p3 - (128 : Int32))))])) (fun t k => ?_) ?_
                      · show Steps p.tables e below (T_3.setTop (mkF m 242 #[.val (.int p0), .val (.int p1), .val (.int p2), .val (.int p3), .val (.int p4), .val (.int (((((p0 - (240 : Int32)) * (262144 : Int32)) + ((p1 - (128 : Int32)) * (4096 : Int32))) + ((p2 - (128 : Int32)) * (64 : Int32))) + (p3 - (128 : Int32))))] [])) _
                        refine XS.iload X_3.here hx rfl (hb hby d4_242) rfl ?_
                        show Steps p.tables e below (T_3.setTop (mkF m 244 #[.val (.int p0), .val (.int p1), .val (.int p2), .val (.int p3), .val (.int p4), .val (.int (((((p0 - (240 : Int32)) * (262144 : Int32)) + ((p1 - (128 : Int32)) * (4096 : Int32))) + ((p2 - (128 : Int32)) * (64 : Int32))) + (p3 - (128 : Int32))))] [(.int (((((p0 - (240 : Int32)) * (262144 : Int32)) + ((p1 - (128 : Int32)) * (4096 : Int32))) + ((p2 - (128 : Int32)) * (64 : Int32))) + (p3 - (128 : Int32))))])) _
                        refine X_3.ldcInt hx hown (mvT hZ (hw _ (List.mem_of_getElem? (i := 28) rfl))) (g := (mkF m 244 #[.val (.int p0), .val (.int p1), .val (.int p2), .val (.int p3), .val (.int p4), .val (.int (((((p0 - (240 : Int32)) * (262144 : Int32)) + ((p1 - (128 : Int32)) * (4096 : Int32))) + ((p2 - (128 : Int32)) * (64 : Int32))) + (p3 - (128 : Int32))))] [(.int (((((p0 - (240 : Int32)) * (262144 : Int32)) + ((p1 - (128 : Int32)) * (4096 : Int32))) + ((p2 - (128 : Int32)) * (64 : Int32))) + (p3 - (128 : Int32))))])) rfl (hb hby d4_244) _ ?_
                        exact k
                      by_cases hc246 : (1114111 : Int32) < (((((p0 - (240 : Int32)) * (262144 : Int32)) + ((p1 - (128 : Int32)) * (4096 : Int32))) + ((p2 - (128 : Int32)) * (64 : Int32))) + (p3 - (128 : Int32)))
                      · refine own_go (B := T_3.setTop (mkF m 249 #[.val (.int p0), .val (.int p1), .val (.int p2), .val (.int p3), .val (.int p4), .val (.int (((((p0 - (240 : Int32)) * (262144 : Int32)) + ((p1 - (128 : Int32)) * (4096 : Int32))) + ((p2 - (128 : Int32)) * (64 : Int32))) + (p3 - (128 : Int32))))] [])) (fun t k => ?_) ?_
                        · show Steps p.tables e below (T_3.setTop (mkF m 246 #[.val (.int p0), .val (.int p1), .val (.int p2), .val (.int p3), .val (.int p4), .val (.int (((((p0 - (240 : Int32)) * (262144 : Int32)) + ((p1 - (128 : Int32)) * (4096 : Int32))) + ((p2 - (128 : Int32)) * (64 : Int32))) + (p3 - (128 : Int32))))] [(.int (1114111 : Int32)), (.int (((((p0 - (240 : Int32)) * (262144 : Int32)) + ((p1 - (128 : Int32)) * (4096 : Int32))) + ((p2 - (128 : Int32)) * (64 : Int32))) + (p3 - (128 : Int32))))])) _
                          refine XS.icmpNo X_3.here hx rfl (hb hby d4_246) rfl (tlt hc246).2.2.2 ?_
                          exact k
                        refine own_go (B := T_3.setTop (mkF m 250 #[.val (.int p0), .val (.int p1), .val (.int p2), .val (.int p3), .val (.int p4), .val (.int (((((p0 - (240 : Int32)) * (262144 : Int32)) + ((p1 - (128 : Int32)) * (4096 : Int32))) + ((p2 - (128 : Int32)) * (64 : Int32))) + (p3 - (128 : Int32))))] [(.int (0 : Int32))])) (fun t k => ?_) ?_
                        · show Steps p.tables e below (T_3.setTop (mkF m 249 #[.val (.int p0), .val (.int p1), .val (.int p2), .val (.int p3), .val (.int p4), .val (.int (((((p0 - (240 : Int32)) * (262144 : Int32)) + ((p1 - (128 : Int32)) * (4096 : Int32))) + ((p2 - (128 : Int32)) * (64 : Int32))) + (p3 - (128 : Int32))))] [])) _
                          refine XS.iconst X_3.here hx rfl (hb hby d4_249) ?_
                          exact k
                        obtain ⟨fs, hr, hrun, hended, hW, hsame⟩ := X_3.leave (v := some (.int (0 : Int32))) (fun h => by rw [Bd.returns] at h; cases h)
                        refine ⟨_, _, ?_, hrun, hended, _, _, rfl, ?_, ⟨_, rfl⟩, hW, hsame.mono (by decide) (by decide)⟩
                        · show Steps p.tables e below (T_3.setTop (mkF m 250 #[.val (.int p0), .val (.int p1), .val (.int p2), .val (.int p3), .val (.int p4), .val (.int (((((p0 - (240 : Int32)) * (262144 : Int32)) + ((p1 - (128 : Int32)) * (4096 : Int32))) + ((p2 - (128 : Int32)) * (64 : Int32))) + (p3 - (128 : Int32))))] [(.int (0 : Int32))])) _
                          exact retI X_3 hx Bd.returns (hb hby d4_250) hr
                        · show Q4 Z p0 p1 p2 p3 p4 h0 n0 _ T_3.heap _
                          rw [e_3]
                          exact ⟨by simp only [own_lenf, if_pos hc3, if_neg hc12, if_pos hc19, if_pos hc78, if_neg hc168, if_neg hc174, if_neg hc181, if_neg hc188, if_neg hc195, if_neg hc239, if_pos hc246], N_3, rfl⟩
                      · refine own_go (B := T_3.setTop (mkF m 251 #[.val (.int p0), .val (.int p1), .val (.int p2), .val (.int p3), .val (.int p4), .val (.int (((((p0 - (240 : Int32)) * (262144 : Int32)) + ((p1 - (128 : Int32)) * (4096 : Int32))) + ((p2 - (128 : Int32)) * (64 : Int32))) + (p3 - (128 : Int32))))] [])) (fun t k => ?_) ?_
                        · show Steps p.tables e below (T_3.setTop (mkF m 246 #[.val (.int p0), .val (.int p1), .val (.int p2), .val (.int p3), .val (.int p4), .val (.int (((((p0 - (240 : Int32)) * (262144 : Int32)) + ((p1 - (128 : Int32)) * (4096 : Int32))) + ((p2 - (128 : Int32)) * (64 : Int32))) + (p3 - (128 : Int32))))] [(.int (1114111 : Int32)), (.int (((((p0 - (240 : Int32)) * (262144 : Int32)) + ((p1 - (128 : Int32)) * (4096 : Int32))) + ((p2 - (128 : Int32)) * (64 : Int32))) + (p3 - (128 : Int32))))])) _
                          refine XS.icmpYes X_3.here hx rfl (pc0 := 246) (pc' := 251) rfl (hb hby d4_246) rfl (flt hc246).2.2.2 (by decide) (by decide) ?_
                          exact k
                        refine own_go (B := T_3.setTop (mkF m 252 #[.val (.int p0), .val (.int p1), .val (.int p2), .val (.int p3), .val (.int p4), .val (.int (((((p0 - (240 : Int32)) * (262144 : Int32)) + ((p1 - (128 : Int32)) * (4096 : Int32))) + ((p2 - (128 : Int32)) * (64 : Int32))) + (p3 - (128 : Int32))))] [(.int (4 : Int32))])) (fun t k => ?_) ?_
                        · show Steps p.tables e below (T_3.setTop (mkF m 251 #[.val (.int p0), .val (.int p1), .val (.int p2), .val (.int p3), .val (.int p4), .val (.int (((((p0 - (240 : Int32)) * (262144 : Int32)) + ((p1 - (128 : Int32)) * (4096 : Int32))) + ((p2 - (128 : Int32)) * (64 : Int32))) + (p3 - (128 : Int32))))] [])) _
                          refine XS.iconst X_3.here hx rfl (hb hby d4_251) ?_
                          exact k
                        obtain ⟨fs, hr, hrun, hended, hW, hsame⟩ := X_3.leave (v := some (.int (4 : Int32))) (fun h => by rw [Bd.returns] at h; cases h)
                        refine ⟨_, _, ?_, hrun, hended, _, _, rfl, ?_, ⟨_, rfl⟩, hW, hsame.mono (by decide) (by decide)⟩
                        · show Steps p.tables e below (T_3.setTop (mkF m 252 #[.val (.int p0), .val (.int p1), .val (.int p2), .val (.int p3), .val (.int p4), .val (.int (((((p0 - (240 : Int32)) * (262144 : Int32)) + ((p1 - (128 : Int32)) * (4096 : Int32))) + ((p2 - (128 : Int32)) * (64 : Int32))) + (p3 - (128 : Int32))))] [(.int (4 : Int32))])) _
                          exact retI X_3 hx Bd.returns (hb hby d4_252) hr
                        · show Q4 Z p0 p1 p2 p3 p4 h0 n0 _ T_3.heap _
                          rw [e_3]
                          exact ⟨by simp only [own_lenf, if_pos hc3, if_neg hc12, if_pos hc19, if_pos hc78, if_neg hc168, if_neg hc174, if_neg hc181, if_neg hc188, if_neg hc195, if_neg hc239, if_neg hc246], N_3, rfl⟩
        · refine own_go (B := s₁.setTop (mkF m 81 #[.val (.int p0), .val (.int p1), .val (.int p2), .val (.int p3), .val (.int p4), .unset] [])) (fun t k => ?_) ?_
          · show Steps p.tables e below (s₁.setTop (mkF m 78 #[.val (.int p0), .val (.int p1), .val (.int p2), .val (.int p3), .val (.int p4), .unset] [(.int (239 : Int32)), (.int p0)])) _
            refine XS.icmpNo X0.here hx rfl (hb hby d4_78) rfl (flt hc78).2.2.1 ?_
            exact k
          refine own_go (B := s₁.setTop (mkF m 84 #[.val (.int p0), .val (.int p1), .val (.int p2), .val (.int p3), .val (.int p4), .unset] [(.int (3 : Int32)), (.int p4)])) (fun t k => ?_) ?_
          · show Steps p.tables e below (s₁.setTop (mkF m 81 #[.val (.int p0), .val (.int p1), .val (.int p2), .val (.int p3), .val (.int p4), .unset] [])) _
            refine XS.iload X0.here hx rfl (hb hby d4_81) rfl ?_
            show Steps p.tables e below (s₁.setTop (mkF m 83 #[.val (.int p0), .val (.int p1), .val (.int p2), .val (.int p3), .val (.int p4), .unset] [(.int p4)])) _
            refine XS.iconst X0.here hx rfl (hb hby d4_83) ?_
            exact k
          by_cases hc84 : p4 < (3 : Int32)
          · refine own_go (B := s₁.setTop (mkF m 101 #[.val (.int p0), .val (.int p1), .val (.int p2), .val (.int p3), .val (.int p4), .unset] [])) (fun t k => ?_) ?_
            · show Steps p.tables e below (s₁.setTop (mkF m 84 #[.val (.int p0), .val (.int p1), .val (.int p2), .val (.int p3), .val (.int p4), .unset] [(.int (3 : Int32)), (.int p4)])) _
              refine XS.icmpYes X0.here hx rfl (pc0 := 84) (pc' := 101) rfl (hb hby d4_84) rfl (tlt hc84).1 (by decide) (by decide) ?_
              exact k
            refine own_go (B := s₁.setTop (mkF m 102 #[.val (.int p0), .val (.int p1), .val (.int p2), .val (.int p3), .val (.int p4), .unset] [(.int (0 : Int32))])) (fun t k => ?_) ?_
            · show Steps p.tables e below (s₁.setTop (mkF m 101 #[.val (.int p0), .val (.int p1), .val (.int p2), .val (.int p3), .val (.int p4), .unset] [])) _
              refine XS.iconst X0.here hx rfl (hb hby d4_101) ?_
              exact k
            obtain ⟨fs, hr, hrun, hended, hW, hsame⟩ := X0.leave (v := some (.int (0 : Int32))) (fun h => by rw [Bd.returns] at h; cases h)
            refine ⟨_, _, ?_, hrun, hended, _, _, rfl, ?_, ⟨_, rfl⟩, hW, hsame.mono (by decide) (by decide)⟩
            · show Steps p.tables e below (s₁.setTop (mkF m 102 #[.val (.int p0), .val (.int p1), .val (.int p2), .val (.int p3), .val (.int p4), .unset] [(.int (0 : Int32))])) _
              exact retI X0 hx Bd.returns (hb hby d4_102) hr
            · show Q4 Z p0 p1 p2 p3 p4 h0 n0 _ s₁.heap _
              rw [e0]
              exact ⟨by simp only [own_lenf, if_pos hc3, if_neg hc12, if_pos hc19, if_neg hc78, if_pos hc84], N0, rfl⟩
          · refine own_go (B := s₁.setTop (mkF m 87 #[.val (.int p0), .val (.int p1), .val (.int p2), .val (.int p3), .val (.int p4), .unset] [])) (fun t k => ?_) ?_
            · show Steps p.tables e below (s₁.setTop (mkF m 84 #[.val (.int p0), .val (.int p1), .val (.int p2), .val (.int p3), .val (.int p4), .unset] [(.int (3 : Int32)), (.int p4)])) _
              refine XS.icmpNo X0.here hx rfl (hb hby d4_84) rfl (flt hc84).1 ?_
              exact k
            refine own_go (B := s₁.setTop (mkF m 88 #[.val (.int p0), .val (.int p1), .val (.int p2), .val (.int p3), .val (.int p4), .unset] [(.int p1)])) (fun t k => ?_) ?_
            · show Steps p.tables e below (s₁.setTop (mkF m 87 #[.val (.int p0), .val (.int p1), .val (.int p2), .val (.int p3), .val (.int p4), .unset] [])) _
              refine XS.iloadN X0.here hx rfl (hb hby d4_87) rfl ?_
              exact k
            obtain ⟨_, _, ⟨T_4, L_4, k_4, n_4⟩, -, X_4, ⟨Lc_4, hQ_4, l_4, y_4, z_4⟩, st_4⟩ := Jvm.LawKit.callS X0 hx (y := (⟨"com/example/ballast/ballast/model/Utf8TextIsUtf8PinLaw", "cont", "(I)Z"⟩ : MethodName)) hown (mvT hZ (hw _ (List.mem_of_getElem? (i := 21) rfl))) (mvT hZ (hw _ (List.mem_of_getElem? (i := 22) rfl))) (mvT hZ (hw _ (List.mem_of_getElem? (i := 4) rfl))) (mvT hZ (hw _ (List.mem_of_getElem? (i := 23) rfl))) (by decide) (backOf (W := 0) (rm6 l Z av0 hw [] p1  h0 n0 Z0 ) hZ (hw _ (List.mem_of_getElem? (i := 23) rfl)) (hw _ (List.mem_of_getElem? (i := 4) rfl)) (by decide) (by decide)) (g := (mkF m 88 #[.val (.int p0), .val (.int p1), .val (.int p2), .val (.int p3), .val (.int p4), .unset] [(.int p1)])) rfl (by rw [hml]; rfl) (argsL := [(.int p1)]) (rest := []) (lenOf pd_0 rfl) rfl (by show 2 * 0 + _ ≤ _; exact Nat.le_of_eq rfl) (hb hby d4_88) (fun _ _ => ⟨rfl, e0, (by decide : 0 + 0 ≤ _), (by decide : 0 + 0 ≤ _)⟩)
            dsimp only [Pt.U, Pt.locs, Pt.cells, Pt.slots] at X_4 l_4 y_4 z_4 st_4 hQ_4
            subst l_4 y_4 z_4
            obtain ⟨rfl, N_4q, e_4⟩ := hQ_4
            have N_4 := Fr.app N0 N_4q
            refine own_go (B := T_4.setTop (mkF m 91 #[.val (.int p0), .val (.int p1), .val (.int p2), .val (.int p3), .val (.int p4), .unset] [(.int (own_cont p1))])) (fun t k => st_4 t k) ?_
            by_cases hc91 : (own_cont p1) = (0 : Int32)
            · refine own_go (B := T_4.setTop (mkF m 101 #[.val (.int p0), .val (.int p1), .val (.int p2), .val (.int p3), .val (.int p4), .unset] [])) (fun t k => ?_) ?_
              · show Steps p.tables e below (T_4.setTop (mkF m 91 #[.val (.int p0), .val (.int p1), .val (.int p2), .val (.int p3), .val (.int p4), .unset] [(.int (own_cont p1))])) _
                refine XS.ifYes X_4.here hx rfl (pc0 := 91) (pc' := 101) rfl (hb hby d4_91) rfl ((if0 _ _).trans (teq hc91).1) (by decide) (by decide) ?_
                exact k
              refine own_go (B := T_4.setTop (mkF m 102 #[.val (.int p0), .val (.int p1), .val (.int p2), .val (.int p3), .val (.int p4), .unset] [(.int (0 : Int32))])) (fun t k => ?_) ?_
              · show Steps p.tables e below (T_4.setTop (mkF m 101 #[.val (.int p0), .val (.int p1), .val (.int p2), .val (.int p3), .val (.int p4), .unset] [])) _
                refine XS.iconst X_4.here hx rfl (hb hby d4_101) ?_
                exact k
              obtain ⟨fs, hr, hrun, hended, hW, hsame⟩ := X_4.leave (v := some (.int (0 : Int32))) (fun h => by rw [Bd.returns] at h; cases h)
              refine ⟨_, _, ?_, hrun, hended, _, _, rfl, ?_, ⟨_, rfl⟩, hW, hsame.mono (by decide) (by decide)⟩
              · show Steps p.tables e below (T_4.setTop (mkF m 102 #[.val (.int p0), .val (.int p1), .val (.int p2), .val (.int p3), .val (.int p4), .unset] [(.int (0 : Int32))])) _
                exact retI X_4 hx Bd.returns (hb hby d4_102) hr
              · show Q4 Z p0 p1 p2 p3 p4 h0 n0 _ T_4.heap _
                rw [e_4]
                exact ⟨by simp only [own_lenf, if_pos hc3, if_neg hc12, if_pos hc19, if_neg hc78, if_neg hc84, if_pos hc91], N_4, rfl⟩
            · refine own_go (B := T_4.setTop (mkF m 94 #[.val (.int p0), .val (.int p1), .val (.int p2), .val (.int p3), .val (.int p4), .unset] [])) (fun t k => ?_) ?_
              · show Steps p.tables e below (T_4.setTop (mkF m 91 #[.val (.int p0), .val (.int p1), .val (.int p2), .val (.int p3), .val (.int p4), .unset] [(.int (own_cont p1))])) _
                refine XS.ifNo X_4.here hx rfl (hb hby d4_91) rfl ((if0 _ _).trans (feq hc91).1) ?_
                exact k
              refine own_go (B := T_4.setTop (mkF m 95 #[.val (.int p0), .val (.int p1), .val (.int p2), .val (.int p3), .val (.int p4), .unset] [(.int p2)])) (fun t k => ?_) ?_
              · show Steps p.tables e below (T_4.setTop (mkF m 94 #[.val (.int p0), .val (.int p1), .val (.int p2), .val (.int p3), .val (.int p4), .unset] [])) _
                refine XS.iloadN X_4.here hx rfl (hb hby d4_94) rfl ?_
                exact k
              obtain ⟨_, _, ⟨T_5, L_5, k_5, n_5⟩, -, X_5, ⟨Lc_5, hQ_5, l_5, y_5, z_5⟩, st_5⟩ := Jvm.LawKit.callS X_4 hx (y := (⟨"com/example/ballast/ballast/model/Utf8TextIsUtf8PinLaw", "cont", "(I)Z"⟩ : MethodName)) hown (mvT hZ (hw _ (List.mem_of_getElem? (i := 21) rfl))) (mvT hZ (hw _ (List.mem_of_getElem? (i := 22) rfl))) (mvT hZ (hw _ (List.mem_of_getElem? (i := 4) rfl))) (mvT hZ (hw _ (List.mem_of_getElem? (i := 23) rfl))) (by decide) (backOf (W := 0) (rm6 l Z av0 hw [] p2  h0 n0 Z0 ) hZ (hw _ (List.mem_of_getElem? (i := 23) rfl)) (hw _ (List.mem_of_getElem? (i := 4) rfl)) (by decide) (by decide)) (g := (mkF m 95 #[.val (.int p0), .val (.int p1), .val (.int p2), .val (.int p3), .val (.int p4), .unset] [(.int p2)])) rfl (by rw [hml]; rfl) (argsL := [(.int p2)]) (rest := []) (lenOf pd_0 rfl) rfl (by show 2 * 0 + _ ≤ _; exact Nat.le_of_eq rfl) (hb hby d4_95) (fun _ _ => ⟨rfl, e_4, (by decide : 0 + 0 ≤ _), (by decide : 0 + 0 ≤ _)⟩)
              dsimp only [Pt.U, Pt.locs, Pt.cells, Pt.slots] at X_5 l_5 y_5 z_5 st_5 hQ_5
              subst l_5 y_5 z_5
              obtain ⟨rfl, N_5q, e_5⟩ := hQ_5
              have N_5 := Fr.app N_4 N_5q
              refine own_go (B := T_5.setTop (mkF m 98 #[.val (.int p0), .val (.int p1), .val (.int p2), .val (.int p3), .val (.int p4), .unset] [(.int (own_cont p2))])) (fun t k => st_5 t k) ?_
              by_cases hc98 : (own_cont p2) = (0 : Int32)
              · refine own_go (B := T_5.setTop (mkF m 101 #[.val (.int p0), .val (.int p1), .val (.int p2), .val (.int p3), .val (.int p4), .unset] [])) (fun t k => ?_) ?_
                · show Steps p.tables e below (T_5.setTop (mkF m 98 #[.val (.int p0), .val (.int p1), .val (.int p2), .val (.int p3), .val (.int p4), .unset] [(.int (own_cont p2))])) _
                  refine XS.ifNo X_5.here hx rfl (hb hby d4_98) rfl ((if0 _ _).trans (teq hc98).2) ?_
                  exact k
                refine own_go (B := T_5.setTop (mkF m 102 #[.val (.int p0), .val (.int p1), .val (.int p2), .val (.int p3), .val (.int p4), .unset] [(.int (0 : Int32))])) (fun t k => ?_) ?_
                · show Steps p.tables e below (T_5.setTop (mkF m 101 #[.val (.int p0), .val (.int p1), .val (.int p2), .val (.int p3), .val (.int p4), .unset] [])) _
                  refine XS.iconst X_5.here hx rfl (hb hby d4_101) ?_
                  exact k
                obtain ⟨fs, hr, hrun, hended, hW, hsame⟩ := X_5.leave (v := some (.int (0 : Int32))) (fun h => by rw [Bd.returns] at h; cases h)
                refine ⟨_, _, ?_, hrun, hended, _, _, rfl, ?_, ⟨_, rfl⟩, hW, hsame.mono (by decide) (by decide)⟩
                · show Steps p.tables e below (T_5.setTop (mkF m 102 #[.val (.int p0), .val (.int p1), .val (.int p2), .val (.int p3), .val (.int p4), .unset] [(.int (0 : Int32))])) _
                  exact retI X_5 hx Bd.returns (hb hby d4_102) hr
                · show Q4 Z p0 p1 p2 p3 p4 h0 n0 _ T_5.heap _
                  rw [e_5]
                  exact ⟨by simp only [own_lenf, if_pos hc3, if_neg hc12, if_pos hc19, if_neg hc78, if_neg hc84, if_neg hc91, if_pos hc98], N_5, rfl⟩
              · refine own_go (B := T_5.setTop (mkF m 103 #[.val (.int p0), .val (.int p1), .val (.int p2), .val (.int p3), .val (.int p4), .unset] [])) (fun t k => ?_) ?_
                · show Steps p.tables e below (T_5.setTop (mkF m 98 #[.val (.int p0), .val (.int p1), .val (.int p2), .val (.int p3), .val (.int p4), .unset] [(.int (own_cont p2))])) _
                  refine XS.ifYes X_5.here hx rfl (pc0 := 98) (pc' := 103) rfl (hb hby d4_98) rfl ((if0 _ _).trans (feq hc98).2) (by decide) (by decide) ?_
                  exact k
                refine own_go (B := T_5.setTop (mkF m 134 #[.val (.int p0), .val (.int p1), .val (.int p2), .val (.int p3), .val (.int p4), .val (.int ((((p0 - (224 : Int32)) * (4096 : Int32)) + ((p1 - (128 : Int32)) * (64 : Int32))) + (p2 - (128 : Int32))))] [(.int (2048 : Int32)), (.int ((((p0 - (224 : Int32)) * (4096 : Int32)) + ((p1 - (128 : Int32)) * (64 : Int32))) + (p2 - (128 : Int32))))])) (fun t k => ?_) ?_
                · show Steps p.tables e below (T_5.setTop (mkF m 103 #[.val (.int p0), .val (.int p1), .val (.int p2), .val (.int p3), .val (.int p4), .unset] [])) _
                  refine XS.iloadN X_5.here hx rfl (hb hby d4_103) rfl ?_
                  show Steps p.tables e below (T_5.setTop (mkF m 104 #[.val (.int p0), .val (.int p1), .val (.int p2), .val (.int p3), .val (.int p4), .unset] [(.int p0)])) _
                  refine XS.sipush X_5.here hx rfl (hb hby d4_104) ?_
                  show Steps p.tables e below (T_5.setTop (mkF m 107 #[.val (.int p0), .val (.int p1), .val (.int p2), .val (.int p3), .val (.int p4), .unset] [(.int (224 : Int32)), (.int p0)])) _
                  refine XS.isub X_5.here hx rfl (hb hby d4_107) rfl ?_
                  show Steps p.tables e below (T_5.setTop (mkF m 108 #[.val (.int p0), .val (.int p1), .val (.int p2), .val (.int p3), .val (.int p4), .unset] [(.int (p0 - (224 : Int32)))])) _
                  refine XS.sipush X_5.here hx rfl (hb hby d4_108) ?_
                  show Steps p.tables e below (T_5.setTop (mkF m 111 #[.val (.int p0), .val (.int p1), .val (.int p2), .val (.int p3), .val (.int p4), .unset] [(.int (4096 : Int32)), (.int (p0 - (224 : Int32)))])) _
                  refine XS.imul X_5.here hx rfl (hb hby d4_111) rfl ?_
                  show Steps p.tables e below (T_5.setTop (mkF m 112 #[.val (.int p0), .val (.int p1), .val (.int p2), .val (.int p3), .val (.int p4), .unset] [(.int ((p0 - (224 : Int32)) * (4096 : Int32)))])) _
                  refine XS.iloadN X_5.here hx rfl (hb hby d4_112) rfl ?_
                  show Steps p.tables e below (T_5.setTop (mkF m 113 #[.val (.int p0), .val (.int p1), .val (.int p2), .val (.int p3), .val (.int p4), .unset] [(.int p1), (.int ((p0 - (224 : Int32)) * (4096 : Int32)))])) _
                  refine XS.sipush X_5.here hx rfl (hb hby d4_113) ?_
                  show Steps p.tables e below (T_5.setTop (mkF m 116 #[.val (.int p0), .val (.int p1), .val (.int p2), .val (.int p3), .val (.int p4), .unset] [(.int (128 : Int32)), (.int p1), (.int ((p0 - (224 : Int32)) * (4096 : Int32)))])) _
                  refine XS.isub X_5.here hx rfl (hb hby d4_116) rfl ?_
                  show Steps p.tables e below (T_5.setTop (mkF m 117 #[.val (.int p0), .val (.int p1), .val (.int p2), .val (.int p3), .val (.int p4), .unset] [(.int (p1 - (128 : Int32))), (.int ((p0 - (224 : Int32)) * (4096 : Int32)))])) _
                  refine XS.bipush X_5.here hx rfl (hb hby d4_117) ?_
                  show Steps p.tables e below (T_5.setTop (mkF m 119 #[.val (.int p0), .val (.int p1), .val (.int p2), .val (.int p3), .val (.int p4), .unset] [(.int (64 : Int32)), (.int (p1 - (128 : Int32))), (.int ((p0 - (224 : Int32)) * (4096 : Int32)))])) _
                  refine XS.imul X_5.here hx rfl (hb hby d4_119) rfl ?_
                  show Steps p.tables e below (T_5.setTop (mkF m 120 #[.val (.int p0), .val (.int p1), .val (.int p2), .val (.int p3), .val (.int p4), .unset] [(.int ((p1 - (128 : Int32)) * (64 : Int32))), (.int ((p0 - (224 : Int32)) * (4096 : Int32)))])) _
                  refine XS.iadd X_5.here hx rfl (hb hby d4_120) rfl ?_
                  show Steps p.tables e below (T_5.setTop (mkF m 121 #[.val (.int p0), .val (.int p1), .val (.int p2), .val (.int p3), .val (.int p4), .unset] [(.int (((p0 - (224 : Int32)) * (4096 : Int32)) + ((p1 - (128 : Int32)) * (64 : Int32))))])) _
                  refine XS.iloadN X_5.here hx rfl (hb hby d4_121) rfl ?_
                  show Steps p.tables e below (T_5.setTop (mkF m 122 #[.val (.int p0), .val (.int p1), .val (.int p2), .val (.int p3), .val (.int p4), .unset] [(.int p2), (.int (((p0 - (224 : Int32)) * (4096 : Int32)) + ((p1 - (128 : Int32)) * (64 : Int32))))])) _
                  refine XS.sipush X_5.here hx rfl (hb hby d4_122) ?_
                  show Steps p.tables e below (T_5.setTop (mkF m 125 #[.val (.int p0), .val (.int p1), .val (.int p2), .val (.int p3), .val (.int p4), .unset] [(.int (128 : Int32)), (.int p2), (.int (((p0 - (224 : Int32)) * (4096 : Int32)) + ((p1 - (128 : Int32)) * (64 : Int32))))])) _
                  refine XS.isub X_5.here hx rfl (hb hby d4_125) rfl ?_
                  show Steps p.tables e below (T_5.setTop (mkF m 126 #[.val (.int p0), .val (.int p1), .val (.int p2), .val (.int p3), .val (.int p4), .unset] [(.int (p2 - (128 : Int32))), (.int (((p0 - (224 : Int32)) * (4096 : Int32)) + ((p1 - (128 : Int32)) * (64 : Int32))))])) _
                  refine XS.iadd X_5.here hx rfl (hb hby d4_126) rfl ?_
                  show Steps p.tables e below (T_5.setTop (mkF m 127 #[.val (.int p0), .val (.int p1), .val (.int p2), .val (.int p3), .val (.int p4), .unset] [(.int ((((p0 - (224 : Int32)) * (4096 : Int32)) + ((p1 - (128 : Int32)) * (64 : Int32))) + (p2 - (128 : Int32))))])) _
                  refine XS.istore X_5.here hx rfl (hb hby d4_127) rfl (l' := #[.val (.int p0), .val (.int p1), .val (.int p2), .val (.int p3), .val (.int p4), .val (.int ((((p0 - (224 : Int32)) * (4096 : Int32)) + ((p1 - (128 : Int32)) * (64 : Int32))) + (p2 - (128 : Int32))))]) rfl ?_
                  show Steps p.tables e below (T_5.setTop (mkF m 129 #[.val (.int p0), .val (.int p1), .val (.int p2), .val (.int p3), .val (.int p4), .val (.int ((((p0 - (224 : Int32)) * (4096 : Int32)) + ((p1 - (128 : Int32)) * (64 : Int32))) + (p2 - (128 : Int32))))] [])) _
                  refine XS.iload X_5.here hx rfl (hb hby d4_129) rfl ?_
                  show Steps p.tables e below (T_5.setTop (mkF m 131 #[.val (.int p0), .val (.int p1), .val (.int p2), .val (.int p3), .val (.int p4), .val (.int ((((p0 - (224 : Int32)) * (4096 : Int32)) + ((p1 - (128 : Int32)) * (64 : Int32))) + (p2 - (128 : Int32))))] [(.int ((((p0 - (224 : Int32)) * (4096 : Int32)) + ((p1 - (128 : Int32)) * (64 : Int32))) + (p2 - (128 : Int32))))])) _
                  refine XS.sipush X_5.here hx rfl (hb hby d4_131) ?_
                  exact k
                by_cases hc134 : ((((p0 - (224 : Int32)) * (4096 : Int32)) + ((p1 - (128 : Int32)) * (64 : Int32))) + (p2 - (128 : Int32))) < (2048 : Int32)
                · refine own_go (B := T_5.setTop (mkF m 137 #[.val (.int p0), .val (.int p1), .val (.int p2), .val (.int p3), .val (.int p4), .val (.int ((((p0 - (224 : Int32)) * (4096 : Int32)) + ((p1 - (128 : Int32)) * (64 : Int32))) + (p2 - (128 : Int32))))] [])) (fun t k => ?_) ?_
                  · show Steps p.tables e below (T_5.setTop (mkF m 134 #[.val (.int p0), .val (.int p1), .val (.int p2), .val (.int p3), .val (.int p4), .val (.int ((((p0 - (224 : Int32)) * (4096 : Int32)) + ((p1 - (128 : Int32)) * (64 : Int32))) + (p2 - (128 : Int32))))] [(.int (2048 : Int32)), (.int ((((p0 - (224 : Int32)) * (4096 : Int32)) + ((p1 - (128 : Int32)) * (64 : Int32))) + (p2 - (128 : Int32))))])) _
                    refine XS.icmpNo X_5.here hx rfl (hb hby d4_134) rfl (tlt hc134).2.1 ?_
                    exact k
                  refine own_go (B := T_5.setTop (mkF m 138 #[.val (.int p0), .val (.int p1), .val (.int p2), .val (.int p3), .val (.int p4), .val (.int ((((p0 - (224 : Int32)) * (4096 : Int32)) + ((p1 - (128 : Int32)) * (64 : Int32))) + (p2 - (128 : Int32))))] [(.int (0 : Int32))])) (fun t k => ?_) ?_
                  · show Steps p.tables e below (T_5.setTop (mkF m 137 #[.val (.int p0), .val (.int p1), .val (.int p2), .val (.int p3), .val (.int p4), .val (.int ((((p0 - (224 : Int32)) * (4096 : Int32)) + ((p1 - (128 : Int32)) * (64 : Int32))) + (p2 - (128 : Int32))))] [])) _
                    refine XS.iconst X_5.here hx rfl (hb hby d4_137) ?_
                    exact k
                  obtain ⟨fs, hr, hrun, hended, hW, hsame⟩ := X_5.leave (v := some (.int (0 : Int32))) (fun h => by rw [Bd.returns] at h; cases h)
                  refine ⟨_, _, ?_, hrun, hended, _, _, rfl, ?_, ⟨_, rfl⟩, hW, hsame.mono (by decide) (by decide)⟩
                  · show Steps p.tables e below (T_5.setTop (mkF m 138 #[.val (.int p0), .val (.int p1), .val (.int p2), .val (.int p3), .val (.int p4), .val (.int ((((p0 - (224 : Int32)) * (4096 : Int32)) + ((p1 - (128 : Int32)) * (64 : Int32))) + (p2 - (128 : Int32))))] [(.int (0 : Int32))])) _
                    exact retI X_5 hx Bd.returns (hb hby d4_138) hr
                  · show Q4 Z p0 p1 p2 p3 p4 h0 n0 _ T_5.heap _
                    rw [e_5]
                    exact ⟨by simp only [own_lenf, if_pos hc3, if_neg hc12, if_pos hc19, if_neg hc78, if_neg hc84, if_neg hc91, if_neg hc98, if_pos hc134], N_5, rfl⟩
                · refine own_go (B := T_5.setTop (mkF m 139 #[.val (.int p0), .val (.int p1), .val (.int p2), .val (.int p3), .val (.int p4), .val (.int ((((p0 - (224 : Int32)) * (4096 : Int32)) + ((p1 - (128 : Int32)) * (64 : Int32))) + (p2 - (128 : Int32))))] [])) (fun t k => ?_) ?_
                  · show Steps p.tables e below (T_5.setTop (mkF m 134 #[.val (.int p0), .val (.int p1), .val (.int p2), .val (.int p3), .val (.int p4), .val (.int ((((p0 - (224 : Int32)) * (4096 : Int32)) + ((p1 - (128 : Int32)) * (64 : Int32))) + (p2 - (128 : Int32))))] [(.int (2048 : Int32)), (.int ((((p0 - (224 : Int32)) * (4096 : Int32)) + ((p1 - (128 : Int32)) * (64 : Int32))) + (p2 - (128 : Int32))))])) _
                    refine XS.icmpYes X_5.here hx rfl (pc0 := 134) (pc' := 139) rfl (hb hby d4_134) rfl (flt hc134).2.1 (by decide) (by decide) ?_
                    exact k
                  refine own_go (B := T_5.setTop (mkF m 143 #[.val (.int p0), .val (.int p1), .val (.int p2), .val (.int p3), .val (.int p4), .val (.int ((((p0 - (224 : Int32)) * (4096 : Int32)) + ((p1 - (128 : Int32)) * (64 : Int32))) + (p2 - (128 : Int32))))] [(.int (55296 : Int32)), (.int ((((p0 - (224 : Int32)) * (4096 : Int32)) + ((p1 - (128 : Int32)) * (64 : Int32))) + (p2 - (128 : Int32))))])) (fun t k => ?_) ?_
                  · show Steps p.tables e below (T_5.setTop (mkF m 139 #[.val (.int p0), .val (.int p1), .val (.int p2), .val (.int p3), .val (.int p4), .val (.int ((((p0 - (224 : Int32)) * (4096 : Int32)) + ((p1 - (128 : Int32)) * (64 : Int32))) + (p2 - (128 : Int32))))] [])) _
                    refine XS.iload X_5.here hx rfl (hb hby d4_139) rfl ?_
                    show Steps p.tables e below (T_5.setTop (mkF m 141 #[.val (.int p0), .val (.int p1), .val (.int p2), .val (.int p3), .val (.int p4), .val (.int ((((p0 - (224 : Int32)) * (4096 : Int32)) + ((p1 - (128 : Int32)) * (64 : Int32))) + (p2 - (128 : Int32))))] [(.int ((((p0 - (224 : Int32)) * (4096 : Int32)) + ((p1 - (128 : Int32)) * (64 : Int32))) + (p2 - (128 : Int32))))])) _
                    refine X_5.ldcInt hx hown (mvT hZ (hw _ (List.mem_of_getElem? (i := 24) rfl))) (g := (mkF m 141 #[.val (.int p0), .val (.int p1), .val (.int p2), .val (.int p3), .val (.int p4), .val (.int ((((p0 - (224 : Int32)) * (4096 : Int32)) + ((p1 - (128 : Int32)) * (64 : Int32))) + (p2 - (128 : Int32))))] [(.int ((((p0 - (224 : Int32)) * (4096 : Int32)) + ((p1 - (128 : Int32)) * (64 : Int32))) + (p2 - (128 : Int32))))])) rfl (hb hby d4_141) _ ?_
                    exact k
                  by_cases hc143 : ((((p0 - (224 : Int32)) * (4096 : Int32)) + ((p1 - (128 : Int32)) * (64 : Int32))) + (p2 - (128 : Int32))) < (55296 : Int32)
                  · refine own_go (B := T_5.setTop (mkF m 155 #[.val (.int p0), .val (.int p1), .val (.int p2), .val (.int p3), .val (.int p4), .val (.int ((((p0 - (224 : Int32)) * (4096 : Int32)) + ((p1 - (128 : Int32)) * (64 : Int32))) + (p2 - (128 : Int32))))] [])) (fun t k => ?_) ?_
                    · show Steps p.tables e below (T_5.setTop (mkF m 143 #[.val (.int p0), .val (.int p1), .val (.int p2), .val (.int p3), .val (.int p4), .val (.int ((((p0 - (224 : Int32)) * (4096 : Int32)) + ((p1 - (128 : Int32)) * (64 : Int32))) + (p2 - (128 : Int32))))] [(.int (55296 : Int32)), (.int ((((p0 - (224 : Int32)) * (4096 : Int32)) + ((p1 - (128 : Int32)) * (64 : Int32))) + (p2 - (128 : Int32))))])) _
                      refine XS.icmpYes X_5.here hx rfl (pc0 := 143) (pc' := 155) rfl (hb hby d4_143) rfl (tlt hc143).1 (by decide) (by decide) ?_
                      exact k
                    refine own_go (B := T_5.setTop (mkF m 156 #[.val (.int p0), .val (.int p1), .val (.int p2), .val (.int p3), .val (.int p4), .val (.int ((((p0 - (224 : Int32)) * (4096 : Int32)) + ((p1 - (128 : Int32)) * (64 : Int32))) + (p2 - (128 : Int32))))] [(.int (3 : Int32))])) (fun t k => ?_) ?_
                    · show Steps p.tables e below (T_5.setTop (mkF m 155 #[.val (.int p0), .val (.int p1), .val (.int p2), .val (.int p3), .val (.int p4), .val (.int ((((p0 - (224 : Int32)) * (4096 : Int32)) + ((p1 - (128 : Int32)) * (64 : Int32))) + (p2 - (128 : Int32))))] [])) _
                      refine XS.iconst X_5.here hx rfl (hb hby d4_155) ?_
                      exact k
                    obtain ⟨fs, hr, hrun, hended, hW, hsame⟩ := X_5.leave (v := some (.int (3 : Int32))) (fun h => by rw [Bd.returns] at h; cases h)
                    refine ⟨_, _, ?_, hrun, hended, _, _, rfl, ?_, ⟨_, rfl⟩, hW, hsame.mono (by decide) (by decide)⟩
                    · show Steps p.tables e below (T_5.setTop (mkF m 156 #[.val (.int p0), .val (.int p1), .val (.int p2), .val (.int p3), .val (.int p4), .val (.int ((((p0 - (224 : Int32)) * (4096 : Int32)) + ((p1 - (128 : Int32)) * (64 : Int32))) + (p2 - (128 : Int32))))] [(.int (3 : Int32))])) _
                      exact retI X_5 hx Bd.returns (hb hby d4_156) hr
                    · show Q4 Z p0 p1 p2 p3 p4 h0 n0 _ T_5.heap _
                      rw [e_5]
                      exact ⟨by simp only [own_lenf, if_pos hc3, if_neg hc12, if_pos hc19, if_neg hc78, if_neg hc84, if_neg hc91, if_neg hc98, if_neg hc134, if_pos hc143], N_5, rfl⟩
                  · refine own_go (B := T_5.setTop (mkF m 146 #[.val (.int p0), .val (.int p1), .val (.int p2), .val (.int p3), .val (.int p4), .val (.int ((((p0 - (224 : Int32)) * (4096 : Int32)) + ((p1 - (128 : Int32)) * (64 : Int32))) + (p2 - (128 : Int32))))] [])) (fun t k => ?_) ?_
                    · show Steps p.tables e below (T_5.setTop (mkF m 143 #[.val (.int p0), .val (.int p1), .val (.int p2), .val (.int p3), .val (.int p4), .val (.int ((((p0 - (224 : Int32)) * (4096 : Int32)) + ((p1 - (128 : Int32)) * (64 : Int32))) + (p2 - (128 : Int32))))] [(.int (55296 : Int32)), (.int ((((p0 - (224 : Int32)) * (4096 : Int32)) + ((p1 - (128 : Int32)) * (64 : Int32))) + (p2 - (128 : Int32))))])) _
                      refine XS.icmpNo X_5.here hx rfl (hb hby d4_143) rfl (flt hc143).1 ?_
                      exact k
                    refine own_go (B := T_5.setTop (mkF m 150 #[.val (.int p0), .val (.int p1), .val (.int p2), .val (.int p3), .val (.int p4), .val (.int ((((p0 - (224 : Int32)) * (4096 : Int32)) + ((p1 - (128 : Int32)) * (64 : Int32))) + (p2 - (128 : Int32))))] [(.int (57343 : Int32)), (.int ((((p0 - (224 : Int32)) * (4096 : Int32)) + ((p1 - (128 : Int32)) * (64 : Int32))) + (p2 - (128 : Int32))))])) (fun t k => ?_) ?_
                    · show Steps p.tables e below (T_5.setTop (mkF m 146 #[.val (.int p0), .val (.int p1), .val (.int p2), .val (.int p3), .val (.int p4), .val (.int ((((p0 - (224 : Int32)) * (4096 : Int32)) + ((p1 - (128 : Int32)) * (64 : Int32))) + (p2 - (128 : Int32))))] [])) _
                      refine XS.iload X_5.here hx rfl (hb hby d4_146) rfl ?_
                      show Steps p.tables e below (T_5.setTop (mkF m 148 #[.val (.int p0), .val (.int p1), .val (.int p2), .val (.int p3), .val (.int p4), .val (.int ((((p0 - (224 : Int32)) * (4096 : Int32)) + ((p1 - (128 : Int32)) * (64 : Int32))) + (p2 - (128 : Int32))))] [(.int ((((p0 - (224 : Int32)) * (4096 : Int32)) + ((p1 - (128 : Int32)) * (64 : Int32))) + (p2 - (128 : Int32))))])) _
                      refine X_5.ldcInt hx hown (mvT hZ (hw _ (List.mem_of_getElem? (i := 25) rfl))) (g := (mkF m 148 #[.val (.int p0), .val (.int p1), .val (.int p2), .val (.int p3), .val (.int p4), .val (.int ((((p0 - (224 : Int32)) * (4096 : Int32)) + ((p1 - (128 : Int32)) * (64 : Int32))) + (p2 - (128 : Int32))))] [(.int ((((p0 - (224 : Int32)) * (4096 : Int32)) + ((p1 - (128 : Int32)) * (64 : Int32))) + (p2 - (128 : Int32))))])) rfl (hb hby d4_148) _ ?_
                      exact k
                    by_cases hc150 : (57343 : Int32) < ((((p0 - (224 : Int32)) * (4096 : Int32)) + ((p1 - (128 : Int32)) * (64 : Int32))) + (p2 - (128 : Int32)))
                    · refine own_go (B := T_5.setTop (mkF m 155 #[.val (.int p0), .val (.int p1), .val (.int p2), .val (.int p3), .val (.int p4), .val (.int ((((p0 - (224 : Int32)) * (4096 : Int32)) + ((p1 - (128 : Int32)) * (64 : Int32))) + (p2 - (128 : Int32))))] [])) (fun t k => ?_) ?_
                      · show Steps p.tables e below (T_5.setTop (mkF m 150 #[.val (.int p0), .val (.int p1), .val (.int p2), .val (.int p3), .val (.int p4), .val (.int ((((p0 - (224 : Int32)) * (4096 : Int32)) + ((p1 - (128 : Int32)) * (64 : Int32))) + (p2 - (128 : Int32))))] [(.int (57343 : Int32)), (.int ((((p0 - (224 : Int32)) * (4096 : Int32)) + ((p1 - (128 : Int32)) * (64 : Int32))) + (p2 - (128 : Int32))))])) _
                        refine XS.icmpYes X_5.here hx rfl (pc0 := 150) (pc' := 155) rfl (hb hby d4_150) rfl (tlt hc150).2.2.1 (by decide) (by decide) ?_
                        exact k
                      refine own_go (B := T_5.setTop (mkF m 156 #[.val (.int p0), .val (.int p1), .val (.int p2), .val (.int p3), .val (.int p4), .val (.int ((((p0 - (224 : Int32)) * (4096 : Int32)) + ((p1 - (128 : Int32)) * (64 : Int32))) + (p2 - (128 : Int32))))] [(.int (3 : Int32))])) (fun t k => ?_) ?_
                      · show Steps p.tables e below (T_5.setTop (mkF m 155 #[.val (.int p0), .val (.int p1), .val (.int p2), .val (.int p3), .val (.int p4), .val (.int ((((p0 - (224 : Int32)) * (4096 : Int32)) + ((p1 - (128 : Int32)) * (64 : Int32))) + (p2 - (128 : Int32))))] [])) _
                        refine XS.iconst X_5.here hx rfl (hb hby d4_155) ?_
                        exact k
                      obtain ⟨fs, hr, hrun, hended, hW, hsame⟩ := X_5.leave (v := some (.int (3 : Int32))) (fun h => by rw [Bd.returns] at h; cases h)
                      refine ⟨_, _, ?_, hrun, hended, _, _, rfl, ?_, ⟨_, rfl⟩, hW, hsame.mono (by decide) (by decide)⟩
                      · show Steps p.tables e below (T_5.setTop (mkF m 156 #[.val (.int p0), .val (.int p1), .val (.int p2), .val (.int p3), .val (.int p4), .val (.int ((((p0 - (224 : Int32)) * (4096 : Int32)) + ((p1 - (128 : Int32)) * (64 : Int32))) + (p2 - (128 : Int32))))] [(.int (3 : Int32))])) _
                        exact retI X_5 hx Bd.returns (hb hby d4_156) hr
                      · show Q4 Z p0 p1 p2 p3 p4 h0 n0 _ T_5.heap _
                        rw [e_5]
                        exact ⟨by simp only [own_lenf, if_pos hc3, if_neg hc12, if_pos hc19, if_neg hc78, if_neg hc84, if_neg hc91, if_neg hc98, if_neg hc134, if_neg hc143, if_pos hc150], N_5, rfl⟩
                    · refine own_go (B := T_5.setTop (mkF m 153 #[.val (.int p0), .val (.int p1), .val (.int p2), .val (.int p3), .val (.int p4), .val (.int ((((p0 - (224 : Int32)) * (4096 : Int32)) + ((p1 - (128 : Int32)) * (64 : Int32))) + (p2 - (128 : Int32))))] [])) (fun t k => ?_) ?_
                      · show Steps p.tables e below (T_5.setTop (mkF m 150 #[.val (.int p0), .val (.int p1), .val (.int p2), .val (.int p3), .val (.int p4), .val (.int ((((p0 - (224 : Int32)) * (4096 : Int32)) + ((p1 - (128 : Int32)) * (64 : Int32))) + (p2 - (128 : Int32))))] [(.int (57343 : Int32)), (.int ((((p0 - (224 : Int32)) * (4096 : Int32)) + ((p1 - (128 : Int32)) * (64 : Int32))) + (p2 - (128 : Int32))))])) _
                        refine XS.icmpNo X_5.here hx rfl (hb hby d4_150) rfl (flt hc150).2.2.1 ?_
                        exact k
                      refine own_go (B := T_5.setTop (mkF m 154 #[.val (.int p0), .val (.int p1), .val (.int p2), .val (.int p3), .val (.int p4), .val (.int ((((p0 - (224 : Int32)) * (4096 : Int32)) + ((p1 - (128 : Int32)) * (64 : Int32))) + (p2 - (128 : Int32))))] [(.int (0 : Int32))])) (fun t k => ?_) ?_
                      · show Steps p.tables e below (T_5.setTop (mkF m 153 #[.val (.int p0), .val (.int p1), .val (.int p2), .val (.int p3), .val (.int p4), .val (.int ((((p0 - (224 : Int32)) * (4096 : Int32)) + ((p1 - (128 : Int32)) * (64 : Int32))) + (p2 - (128 : Int32))))] [])) _
                        refine XS.iconst X_5.here hx rfl (hb hby d4_153) ?_
                        exact k
                      obtain ⟨fs, hr, hrun, hended, hW, hsame⟩ := X_5.leave (v := some (.int (0 : Int32))) (fun h => by rw [Bd.returns] at h; cases h)
                      refine ⟨_, _, ?_, hrun, hended, _, _, rfl, ?_, ⟨_, rfl⟩, hW, hsame.mono (by decide) (by decide)⟩
                      · show Steps p.tables e below (T_5.setTop (mkF m 154 #[.val (.int p0), .val (.int p1), .val (.int p2), .val (.int p3), .val (.int p4), .val (.int ((((p0 - (224 : Int32)) * (4096 : Int32)) + ((p1 - (128 : Int32)) * (64 : Int32))) + (p2 - (128 : Int32))))] [(.int (0 : Int32))])) _
                        exact retI X_5 hx Bd.returns (hb hby d4_154) hr
                      · show Q4 Z p0 p1 p2 p3 p4 h0 n0 _ T_5.heap _
                        rw [e_5]
                        exact ⟨by simp only [own_lenf, if_pos hc3, if_neg hc12, if_pos hc19, if_neg hc78, if_neg hc84, if_neg hc91, if_neg hc98, if_neg hc134, if_neg hc143, if_neg hc150], N_5, rfl⟩
      · refine own_go (B := s₁.setTop (mkF m 22 #[.val (.int p0), .val (.int p1), .val (.int p2), .val (.int p3), .val (.int p4), .unset] [])) (fun t k => ?_) ?_
        · show Steps p.tables e below (s₁.setTop (mkF m 19 #[.val (.int p0), .val (.int p1), .val (.int p2), .val (.int p3), .val (.int p4), .unset] [(.int (223 : Int32)), (.int p0)])) _
          refine XS.icmpNo X0.here hx rfl (hb hby d4_19) rfl (flt hc19).2.2.1 ?_
          exact k
        refine own_go (B := s₁.setTop (mkF m 25 #[.val (.int p0), .val (.int p1), .val (.int p2), .val (.int p3), .val (.int p4), .unset] [(.int (2 : Int32)), (.int p4)])) (fun t k => ?_) ?_
        · show Steps p.tables e below (s₁.setTop (mkF m 22 #[.val (.int p0), .val (.int p1), .val (.int p2), .val (.int p3), .val (.int p4), .unset] [])) _
          refine XS.iload X0.here hx rfl (hb hby d4_22) rfl ?_
          show Steps p.tables e below (s₁.setTop (mkF m 24 #[.val (.int p0), .val (.int p1), .val (.int p2), .val (.int p3), .val (.int p4), .unset] [(.int p4)])) _
          refine XS.iconst X0.here hx rfl (hb hby d4_24) ?_
          exact k
        by_cases hc25 : p4 < (2 : Int32)
        · refine own_go (B := s₁.setTop (mkF m 35 #[.val (.int p0), .val (.int p1), .val (.int p2), .val (.int p3), .val (.int p4), .unset] [])) (fun t k => ?_) ?_
          · show Steps p.tables e below (s₁.setTop (mkF m 25 #[.val (.int p0), .val (.int p1), .val (.int p2), .val (.int p3), .val (.int p4), .unset] [(.int (2 : Int32)), (.int p4)])) _
            refine XS.icmpYes X0.here hx rfl (pc0 := 25) (pc' := 35) rfl (hb hby d4_25) rfl (tlt hc25).1 (by decide) (by decide) ?_
            exact k
          refine own_go (B := s₁.setTop (mkF m 36 #[.val (.int p0), .val (.int p1), .val (.int p2), .val (.int p3), .val (.int p4), .unset] [(.int (0 : Int32))])) (fun t k => ?_) ?_
          · show Steps p.tables e below (s₁.setTop (mkF m 35 #[.val (.int p0), .val (.int p1), .val (.int p2), .val (.int p3), .val (.int p4), .unset] [])) _
            refine XS.iconst X0.here hx rfl (hb hby d4_35) ?_
            exact k
          obtain ⟨fs, hr, hrun, hended, hW, hsame⟩ := X0.leave (v := some (.int (0 : Int32))) (fun h => by rw [Bd.returns] at h; cases h)
          refine ⟨_, _, ?_, hrun, hended, _, _, rfl, ?_, ⟨_, rfl⟩, hW, hsame.mono (by decide) (by decide)⟩
          · show Steps p.tables e below (s₁.setTop (mkF m 36 #[.val (.int p0), .val (.int p1), .val (.int p2), .val (.int p3), .val (.int p4), .unset] [(.int (0 : Int32))])) _
            exact retI X0 hx Bd.returns (hb hby d4_36) hr
          · show Q4 Z p0 p1 p2 p3 p4 h0 n0 _ s₁.heap _
            rw [e0]
            exact ⟨by simp only [own_lenf, if_pos hc3, if_neg hc12, if_neg hc19, if_pos hc25], N0, rfl⟩
        · refine own_go (B := s₁.setTop (mkF m 28 #[.val (.int p0), .val (.int p1), .val (.int p2), .val (.int p3), .val (.int p4), .unset] [])) (fun t k => ?_) ?_
          · show Steps p.tables e below (s₁.setTop (mkF m 25 #[.val (.int p0), .val (.int p1), .val (.int p2), .val (.int p3), .val (.int p4), .unset] [(.int (2 : Int32)), (.int p4)])) _
            refine XS.icmpNo X0.here hx rfl (hb hby d4_25) rfl (flt hc25).1 ?_
            exact k
          refine own_go (B := s₁.setTop (mkF m 29 #[.val (.int p0), .val (.int p1), .val (.int p2), .val (.int p3), .val (.int p4), .unset] [(.int p1)])) (fun t k => ?_) ?_
          · show Steps p.tables e below (s₁.setTop (mkF m 28 #[.val (.int p0), .val (.int p1), .val (.int p2), .val (.int p3), .val (.int p4), .unset] [])) _
            refine XS.iloadN X0.here hx rfl (hb hby d4_28) rfl ?_
            exact k
          obtain ⟨_, _, ⟨T_6, L_6, k_6, n_6⟩, -, X_6, ⟨Lc_6, hQ_6, l_6, y_6, z_6⟩, st_6⟩ := Jvm.LawKit.callS X0 hx (y := (⟨"com/example/ballast/ballast/model/Utf8TextIsUtf8PinLaw", "cont", "(I)Z"⟩ : MethodName)) hown (mvT hZ (hw _ (List.mem_of_getElem? (i := 21) rfl))) (mvT hZ (hw _ (List.mem_of_getElem? (i := 22) rfl))) (mvT hZ (hw _ (List.mem_of_getElem? (i := 4) rfl))) (mvT hZ (hw _ (List.mem_of_getElem? (i := 23) rfl))) (by decide) (backOf (W := 0) (rm6 l Z av0 hw [] p1  h0 n0 Z0 ) hZ (hw _ (List.mem_of_getElem? (i := 23) rfl)) (hw _ (List.mem_of_getElem? (i := 4) rfl)) (by decide) (by decide)) (g := (mkF m 29 #[.val (.int p0), .val (.int p1), .val (.int p2), .val (.int p3), .val (.int p4), .unset] [(.int p1)])) rfl (by rw [hml]; rfl) (argsL := [(.int p1)]) (rest := []) (lenOf pd_0 rfl) rfl (by show 2 * 0 + _ ≤ _; exact Nat.le_of_eq rfl) (hb hby d4_29) (fun _ _ => ⟨rfl, e0, (by decide : 0 + 0 ≤ _), (by decide : 0 + 0 ≤ _)⟩)
          dsimp only [Pt.U, Pt.locs, Pt.cells, Pt.slots] at X_6 l_6 y_6 z_6 st_6 hQ_6
          subst l_6 y_6 z_6
          obtain ⟨rfl, N_6q, e_6⟩ := hQ_6
          have N_6 := Fr.app N0 N_6q
          refine own_go (B := T_6.setTop (mkF m 32 #[.val (.int p0), .val (.int p1), .val (.int p2), .val (.int p3), .val (.int p4), .unset] [(.int (own_cont p1))])) (fun t k => st_6 t k) ?_
          by_cases hc32 : (own_cont p1) = (0 : Int32)
          · refine own_go (B := T_6.setTop (mkF m 35 #[.val (.int p0), .val (.int p1), .val (.int p2), .val (.int p3), .val (.int p4), .unset] [])) (fun t k => ?_) ?_
            · show Steps p.tables e below (T_6.setTop (mkF m 32 #[.val (.int p0), .val (.int p1), .val (.int p2), .val (.int p3), .val (.int p4), .unset] [(.int (own_cont p1))])) _
              refine XS.ifNo X_6.here hx rfl (hb hby d4_32) rfl ((if0 _ _).trans (teq hc32).2) ?_
              exact k
            refine own_go (B := T_6.setTop (mkF m 36 #[.val (.int p0), .val (.int p1), .val (.int p2), .val (.int p3), .val (.int p4), .unset] [(.int (0 : Int32))])) (fun t k => ?_) ?_
            · show Steps p.tables e below (T_6.setTop (mkF m 35 #[.val (.int p0), .val (.int p1), .val (.int p2), .val (.int p3), .val (.int p4), .unset] [])) _
              refine XS.iconst X_6.here hx rfl (hb hby d4_35) ?_
              exact k
            obtain ⟨fs, hr, hrun, hended, hW, hsame⟩ := X_6.leave (v := some (.int (0 : Int32))) (fun h => by rw [Bd.returns] at h; cases h)
            refine ⟨_, _, ?_, hrun, hended, _, _, rfl, ?_, ⟨_, rfl⟩, hW, hsame.mono (by decide) (by decide)⟩
            · show Steps p.tables e below (T_6.setTop (mkF m 36 #[.val (.int p0), .val (.int p1), .val (.int p2), .val (.int p3), .val (.int p4), .unset] [(.int (0 : Int32))])) _
              exact retI X_6 hx Bd.returns (hb hby d4_36) hr
            · show Q4 Z p0 p1 p2 p3 p4 h0 n0 _ T_6.heap _
              rw [e_6]
              exact ⟨by simp only [own_lenf, if_pos hc3, if_neg hc12, if_neg hc19, if_neg hc25, if_pos hc32], N_6, rfl⟩
          · refine own_go (B := T_6.setTop (mkF m 37 #[.val (.int p0), .val (.int p1), .val (.int p2), .val (.int p3), .val (.int p4), .unset] [])) (fun t k => ?_) ?_
            · show Steps p.tables e below (T_6.setTop (mkF m 32 #[.val (.int p0), .val (.int p1), .val (.int p2), .val (.int p3), .val (.int p4), .unset] [(.int (own_cont p1))])) _
              refine XS.ifYes X_6.here hx rfl (pc0 := 32) (pc' := 37) rfl (hb hby d4_32) rfl ((if0 _ _).trans (feq hc32).2) (by decide) (by decide) ?_
              exact k
            refine own_go (B := T_6.setTop (mkF m 58 #[.val (.int p0), .val (.int p1), .val (.int p2), .val (.int p3), .val (.int p4), .val (.int (((p0 - (192 : Int32)) * (64 : Int32)) + (p1 - (128 : Int32))))] [(.int (128 : Int32)), (.int (((p0 - (192 : Int32)) * (64 : Int32)) + (p1 - (128 : Int32))))])) (fun t k => ?_) ?_
            · show Steps p.tables e below (T_6.setTop (mkF m 37 #[.val (.int p0), .val (.int p1), .val (.int p2), .val (.int p3), .val (.int p4), .unset] [])) _
              refine XS.iloadN X_6.here hx rfl (hb hby d4_37) rfl ?_
              show Steps p.tables e below (T_6.setTop (mkF m 38 #[.val (.int p0), .val (.int p1), .val (.int p2), .val (.int p3), .val (.int p4), .unset] [(.int p0)])) _
              refine XS.sipush X_6.here hx rfl (hb hby d4_38) ?_
              show Steps p.tables e below (T_6.setTop (mkF m 41 #[.val (.int p0), .val (.int p1), .val (.int p2), .val (.int p3), .val (.int p4), .unset] [(.int (192 : Int32)), (.int p0)])) _
              refine XS.isub X_6.here hx rfl (hb hby d4_41) rfl ?_
              show Steps p.tables e below (T_6.setTop (mkF m 42 #[.val (.int p0), .val (.int p1), .val (.int p2), .val (.int p3), .val (.int p4), .unset] [(.int (p0 - (192 : Int32)))])) _
              refine XS.bipush X_6.here hx rfl (hb hby d4_42) ?_
              show Steps p.tables e below (T_6.setTop (mkF m 44 #[.val (.int p0), .val (.int p1), .val (.int p2), .val (.int p3), .val (.int p4), .unset] [(.int (64 : Int32)), (.int (p0 - (192 : Int32)))])) _
              refine XS.imul X_6.here hx rfl (hb hby d4_44) rfl ?_
              show Steps p.tables e below (T_6.setTop (mkF m 45 #[.val (.int p0), .val (.int p1), .val (.int p2), .val (.int p3), .val (.int p4), .unset] [(.int ((p0 - (192 : Int32)) * (64 : Int32)))])) _
              refine XS.iloadN X_6.here hx rfl (hb hby d4_45) rfl ?_
              show Steps p.tables e below (T_6.setTop (mkF m 46 #[.val (.int p0), .val (.int p1), .val (.int p2), .val (.int p3), .val (.int p4), .unset] [(.int p1), (.int ((p0 - (192 : Int32)) * (64 : Int32)))])) _
              refine XS.sipush X_6.here hx rfl (hb hby d4_46) ?_
              show Steps p.tables e below (T_6.setTop (mkF m 49 #[.val (.int p0), .val (.int p1), .val (.int p2), .val (.int p3), .val (.int p4), .unset] [(.int (128 : Int32)), (.int p1), (.int ((p0 - (192 : Int32)) * (64 : Int32)))])) _
              refine XS.isub X_6.here hx rfl (hb hby d4_49) rfl ?_
              show Steps p.tables e below (T_6.setTop (mkF m 50 #[.val (.int p0), .val (.int p1), .val (.int p2), .val (.int p3), .val (.int p4), .unset] [(.int (p1 - (128 : Int32))), (.int ((p0 - (192 : Int32)) * (64 : Int32)))])) _
              refine XS.iadd X_6.here hx rfl (hb hby d4_50) rfl ?_
              show Steps p.tables e below (T_6.setTop (mkF m 51 #[.val (.int p0), .val (.int p1), .val (.int p2), .val (.int p3), .val (.int p4), .unset] [(.int (((p0 - (192 : Int32)) * (64 : Int32)) + (p1 - (128 : Int32))))])) _
              refine XS.istore X_6.here hx rfl (hb hby d4_51) rfl (l' := #[.val (.int p0), .val (.int p1), .val (.int p2), .val (.int p3), .val (.int p4), .val (.int (((p0 - (192 : Int32)) * (64 : Int32)) + (p1 - (128 : Int32))))]) rfl ?_
              show Steps p.tables e below (T_6.setTop (mkF m 53 #[.val (.int p0), .val (.int p1), .val (.int p2), .val (.int p3), .val (.int p4), .val (.int (((p0 - (192 : Int32)) * (64 : Int32)) + (p1 - (128 : Int32))))] [])) _
              refine XS.iload X_6.here hx rfl (hb hby d4_53) rfl ?_
              show Steps p.tables e below (T_6.setTop (mkF m 55 #[.val (.int p0), .val (.int p1), .val (.int p2), .val (.int p3), .val (.int p4), .val (.int (((p0 - (192 : Int32)) * (64 : Int32)) + (p1 - (128 : Int32))))] [(.int (((p0 - (192 : Int32)) * (64 : Int32)) + (p1 - (128 : Int32))))])) _
              refine XS.sipush X_6.here hx rfl (hb hby d4_55) ?_
              exact k
            by_cases hc58 : (((p0 - (192 : Int32)) * (64 : Int32)) + (p1 - (128 : Int32))) < (128 : Int32)
            · refine own_go (B := T_6.setTop (mkF m 65 #[.val (.int p0), .val (.int p1), .val (.int p2), .val (.int p3), .val (.int p4), .val (.int (((p0 - (192 : Int32)) * (64 : Int32)) + (p1 - (128 : Int32))))] [])) (fun t k => ?_) ?_
              · show Steps p.tables e below (T_6.setTop (mkF m 58 #[.val (.int p0), .val (.int p1), .val (.int p2), .val (.int p3), .val (.int p4), .val (.int (((p0 - (192 : Int32)) * (64 : Int32)) + (p1 - (128 : Int32))))] [(.int (128 : Int32)), (.int (((p0 - (192 : Int32)) * (64 : Int32)) + (p1 - (128 : Int32))))])) _
                refine XS.icmpYes X_6.here hx rfl (pc0 := 58) (pc' := 65) rfl (hb hby d4_58) rfl (tlt hc58).1 (by decide) (by decide) ?_
                exact k
              refine own_go (B := T_6.setTop (mkF m 66 #[.val (.int p0), .val (.int p1), .val (.int p2), .val (.int p3), .val (.int p4), .val (.int (((p0 - (192 : Int32)) * (64 : Int32)) + (p1 - (128 : Int32))))] [(.int (0 : Int32))])) (fun t k => ?_) ?_
              · show Steps p.tables e below (T_6.setTop (mkF m 65 #[.val (.int p0), .val (.int p1), .val (.int p2), .val (.int p3), .val (.int p4), .val (.int (((p0 - (192 : Int32)) * (64 : Int32)) + (p1 - (128 : Int32))))] [])) _
                refine XS.iconst X_6.here hx rfl (hb hby d4_65) ?_
                exact k
              obtain ⟨fs, hr, hrun, hended, hW, hsame⟩ := X_6.leave (v := some (.int (0 : Int32))) (fun h => by rw [Bd.returns] at h; cases h)
              refine ⟨_, _, ?_, hrun, hended, _, _, rfl, ?_, ⟨_, rfl⟩, hW, hsame.mono (by decide) (by decide)⟩
              · show Steps p.tables e below (T_6.setTop (mkF m 66 #[.val (.int p0), .val (.int p1), .val (.int p2), .val (.int p3), .val (.int p4), .val (.int (((p0 - (192 : Int32)) * (64 : Int32)) + (p1 - (128 : Int32))))] [(.int (0 : Int32))])) _
                exact retI X_6 hx Bd.returns (hb hby d4_66) hr
              · show Q4 Z p0 p1 p2 p3 p4 h0 n0 _ T_6.heap _
                rw [e_6]
                exact ⟨by simp only [own_lenf, if_pos hc3, if_neg hc12, if_neg hc19, if_neg hc25, if_neg hc32, if_pos hc58], N_6, rfl⟩
            · refine own_go (B := T_6.setTop (mkF m 61 #[.val (.int p0), .val (.int p1), .val (.int p2), .val (.int p3), .val (.int p4), .val (.int (((p0 - (192 : Int32)) * (64 : Int32)) + (p1 - (128 : Int32))))] [])) (fun t k => ?_) ?_
              · show Steps p.tables e below (T_6.setTop (mkF m 58 #[.val (.int p0), .val (.int p1), .val (.int p2), .val (.int p3), .val (.int p4), .val (.int (((p0 - (192 : Int32)) * (64 : Int32)) + (p1 - (128 : Int32))))] [(.int (128 : Int32)), (.int (((p0 - (192 : Int32)) * (64 : Int32)) + (p1 - (128 : Int32))))])) _
                refine XS.icmpNo X_6.here hx rfl (hb hby d4_58) rfl (flt hc58).1 ?_
                exact k
              refine own_go (B := T_6.setTop (mkF m 66 #[.val (.int p0), .val (.int p1), .val (.int p2), .val (.int p3), .val (.int p4), .val (.int (((p0 - (192 : Int32)) * (64 : Int32)) + (p1 - (128 : Int32))))] [(.int (2 : Int32))])) (fun t k => ?_) ?_
              · show Steps p.tables e below (T_6.setTop (mkF m 61 #[.val (.int p0), .val (.int p1), .val (.int p2), .val (.int p3), .val (.int p4), .val (.int (((p0 - (192 : Int32)) * (64 : Int32)) + (p1 - (128 : Int32))))] [])) _
                refine XS.iconst X_6.here hx rfl (hb hby d4_61) ?_
                show Steps p.tables e below (T_6.setTop (mkF m 62 #[.val (.int p0), .val (.int p1), .val (.int p2), .val (.int p3), .val (.int p4), .val (.int (((p0 - (192 : Int32)) * (64 : Int32)) + (p1 - (128 : Int32))))] [(.int (2 : Int32))])) _
                refine XS.goto X_6.here hx rfl (pc0 := 62) (pc' := 66) rfl (hb hby d4_62) (by decide) (by decide) ?_
                exact k
              obtain ⟨fs, hr, hrun, hended, hW, hsame⟩ := X_6.leave (v := some (.int (2 : Int32))) (fun h => by rw [Bd.returns] at h; cases h)
              refine ⟨_, _, ?_, hrun, hended, _, _, rfl, ?_, ⟨_, rfl⟩, hW, hsame.mono (by decide) (by decide)⟩
              · show Steps p.tables e below (T_6.setTop (mkF m 66 #[.val (.int p0), .val (.int p1), .val (.int p2), .val (.int p3), .val (.int p4), .val (.int (((p0 - (192 : Int32)) * (64 : Int32)) + (p1 - (128 : Int32))))] [(.int (2 : Int32))])) _
                exact retI X_6 hx Bd.returns (hb hby d4_66) hr
              · show Q4 Z p0 p1 p2 p3 p4 h0 n0 _ T_6.heap _
                rw [e_6]
                exact ⟨by simp only [own_lenf, if_pos hc3, if_neg hc12, if_neg hc19, if_neg hc25, if_neg hc32, if_neg hc58], N_6, rfl⟩
  · refine own_go (B := s₁.setTop (mkF m 6 #[.val (.int p0), .val (.int p1), .val (.int p2), .val (.int p3), .val (.int p4), .unset] [])) (fun t k => ?_) ?_
    · show Steps p.tables e below (s₁.setTop (mkF m 3 #[.val (.int p0), .val (.int p1), .val (.int p2), .val (.int p3), .val (.int p4), .unset] [(.int (127 : Int32)), (.int p0)])) _
      refine XS.icmpNo X0.here hx rfl (hb hby d4_3) rfl (flt hc3).2.2.1 ?_
      exact k
    refine own_go (B := s₁.setTop (mkF m 7 #[.val (.int p0), .val (.int p1), .val (.int p2), .val (.int p3), .val (.int p4), .unset] [(.int (1 : Int32))])) (fun t k => ?_) ?_
    · show Steps p.tables e below (s₁.setTop (mkF m 6 #[.val (.int p0), .val (.int p1), .val (.int p2), .val (.int p3), .val (.int p4), .unset] [])) _
      refine XS.iconst X0.here hx rfl (hb hby d4_6) ?_
      exact k
    obtain ⟨fs, hr, hrun, hended, hW, hsame⟩ := X0.leave (v := some (.int (1 : Int32))) (fun h => by rw [Bd.returns] at h; cases h)
    refine ⟨_, _, ?_, hrun, hended, _, _, rfl, ?_, ⟨_, rfl⟩, hW, hsame.mono (by decide) (by decide)⟩
    · show Steps p.tables e below (s₁.setTop (mkF m 7 #[.val (.int p0), .val (.int p1), .val (.int p2), .val (.int p3), .val (.int p4), .unset] [(.int (1 : Int32))])) _
      exact retI X0 hx Bd.returns (hb hby d4_7) hr
    · show Q4 Z p0 p1 p2 p3 p4 h0 n0 _ s₁.heap _
      rw [e0]
      exact ⟨by simp only [own_lenf, if_neg hc3], N0, rfl⟩
theorem d2_0 : decode method_6_code 0 = .ok (.iload_n 1, 1) := by decide +kernel
theorem d2_1 : decode method_6_code 1 = .ok (.ifCond .lt 8, 3) := by decide +kernel
theorem d2_4 : decode method_6_code 4 = .ok (.iload_n 1, 1) := by decide +kernel
theorem d2_5 : decode method_6_code 5 = .ok (.iload_n 2, 1) := by decide +kernel
theorem d2_6 : decode method_6_code 6 = .ok (.if_icmp .lt 5, 3) := by decide +kernel
theorem d2_9 : decode method_6_code 9 = .ok (.iload_n 1, 1) := by decide +kernel
theorem d2_10 : decode method_6_code 10 = .ok (.ireturn, 1) := by decide +kernel
theorem d2_11 : decode method_6_code 11 = .ok (.aload_n 0, 1) := by decide +kernel
theorem d2_12 : decode method_6_code 12 = .ok (.iload_n 1, 1) := by decide +kernel
theorem d2_13 : decode method_6_code 13 = .ok (.iaload, 1) := by decide +kernel
theorem d2_14 : decode method_6_code 14 = .ok (.aload_n 0, 1) := by decide +kernel
theorem d2_15 : decode method_6_code 15 = .ok (.iload_n 1, 1) := by decide +kernel
theorem d2_16 : decode method_6_code 16 = .ok (.iconst 1, 1) := by decide +kernel
theorem d2_17 : decode method_6_code 17 = .ok (.iadd, 1) := by decide +kernel
theorem d2_18 : decode method_6_code 18 = .ok (.iaload, 1) := by decide +kernel
theorem d2_19 : decode method_6_code 19 = .ok (.aload_n 0, 1) := by decide +kernel
theorem d2_20 : decode method_6_code 20 = .ok (.iload_n 1, 1) := by decide +kernel
theorem d2_21 : decode method_6_code 21 = .ok (.iconst 2, 1) := by decide +kernel
theorem d2_22 : decode method_6_code 22 = .ok (.iadd, 1) := by decide +kernel
theorem d2_23 : decode method_6_code 23 = .ok (.iaload, 1) := by decide +kernel
theorem d2_24 : decode method_6_code 24 = .ok (.aload_n 0, 1) := by decide +kernel
theorem d2_25 : decode method_6_code 25 = .ok (.iload_n 1, 1) := by decide +kernel
theorem d2_26 : decode method_6_code 26 = .ok (.iconst 3, 1) := by decide +kernel
theorem d2_27 : decode method_6_code 27 = .ok (.iadd, 1) := by decide +kernel
theorem d2_28 : decode method_6_code 28 = .ok (.iaload, 1) := by decide +kernel
theorem d2_29 : decode method_6_code 29 = .ok (.iload_n 2, 1) := by decide +kernel
theorem d2_30 : decode method_6_code 30 = .ok (.iload_n 1, 1) := by decide +kernel
theorem d2_31 : decode method_6_code 31 = .ok (.isub, 1) := by decide +kernel
theorem d2_32 : decode method_6_code 32 = .ok (.invokestatic 35, 3) := by decide +kernel
theorem d2_35 : decode method_6_code 35 = .ok (.istore_n 3, 1) := by decide +kernel
theorem d2_36 : decode method_6_code 36 = .ok (.iload_n 3, 1) := by decide +kernel
theorem d2_37 : decode method_6_code 37 = .ok (.ifCond .ne 5, 3) := by decide +kernel
theorem d2_40 : decode method_6_code 40 = .ok (.iconst (-1), 1) := by decide +kernel
theorem d2_41 : decode method_6_code 41 = .ok (.ireturn, 1) := by decide +kernel
theorem d2_42 : decode method_6_code 42 = .ok (.iload_n 1, 1) := by decide +kernel
theorem d2_43 : decode method_6_code 43 = .ok (.iload_n 3, 1) := by decide +kernel
theorem d2_44 : decode method_6_code 44 = .ok (.iadd, 1) := by decide +kernel
theorem d2_45 : decode method_6_code 45 = .ok (.ireturn, 1) := by decide +kernel
theorem pn_2 : plainName "com/example/ballast/ballast/model/Utf8TextIsUtf8PinLaw" = true := by first | (simp [plainName, overriddenIn]; done) | decide +kernel
theorem ef_2 (m : MethodId) (a0 : Addr) (p1 : Int32) (p2 : Int32) : entryFrame m #[(.ref a0), (.int p1), (.int p2)] 4 = mkF m 0 #[.val (.ref a0), .val (.int p1), .val (.int p2), .unset] [] := by first | (simp [entryFrame, mkF, argsToLocals, Value.category]; done) | rfl
theorem pd_1 : parseMethodDescriptor "(IIIII)I" = some ⟨[.int, .int, .int, .int, .int], some .int⟩ := by decide +kernel
def own_step (us : List Int32) (p1 : Int32) (p2 : Int32) : Int32 := (if p1 < (0 : Int32) then p1 else (if p1 < p2 then (if (own_lenf (us.getD (p1).toNatClampNeg 0) (us.getD ((p1 + (1 : Int32))).toNatClampNeg 0) (us.getD ((p1 + (2 : Int32))).toNatClampNeg 0) (us.getD ((p1 + (3 : Int32))).toNatClampNeg 0) (p2 - p1)) = (0 : Int32) then (-1 : Int32) else (p1 + (own_lenf (us.getD (p1).toNatClampNeg 0) (us.getD ((p1 + (1 : Int32))).toNatClampNeg 0) (us.getD ((p1 + (2 : Int32))).toNatClampNeg 0) (us.getD ((p1 + (3 : Int32))).toNatClampNeg 0) (p2 - p1)))) else p1))
def Q2 (Z : State) (a0 : Addr) (p1 : Int32) (p2 : Int32) (kk : ClassId) (us : List Int32) (h0 : Heap) (n0 : Nat) (v : Option Value) (h : Heap) (L : List Loc) : Prop := v = some (.int (own_step us p1 p2)) ∧ Fr n0 L ∧ h = h0
set_option maxRecDepth 65536 in
set_option maxHeartbeats 40000000 in
theorem rm2 (l : Launch) (Z : State) (av0 : Array Value) (hw : ∀ d ∈ tables_1, d.before av0 Z = true) (ws : List Jvm.Cond) (a0 : Addr) (p1 : Int32) (p2 : Int32) (kk : ClassId) (us : List Int32) (h0 : Heap) (n0 : Nat) (Z0 : n0 ≤ h0.size) (V0 : Arv Z h0 a0 kk .int (11 : Int32) (own_vs us) (.int (0 : Int32))) (hz : p2 < (9 : Int32)) :
    MetFree l (⟨"com/example/ballast/ballast/model/Utf8TextIsUtf8PinLaw", "step", "([III)I"⟩ : MethodName) (head1 (Jvm.Cond.code (⟨"com/example/ballast/ballast/model/Utf8TextIsUtf8PinLaw", "step", "([III)I"⟩ : MethodName) method_6_code 4 (some .int) :: ws) ({ frames := 2, cells := 0, slots := 0, locals := 29 } : Room)) (fun a U => a = #[(.ref a0), (.int p1), (.int p2)] ∧ Z.Warmed39 U.vm ∧ U.heap = h0) (fun _ _ _ _ _ => True) (fun _ U o U' => ∃ v L, o = .returned v ∧ Q2 Z a0 p1 p2 kk us h0 n0 v U'.heap L ∧ FrameEnd U o U' L ({ frames := 2, cells := 0, slots := 0, locals := 29 } : Room).cells ({ frames := 2, cells := 0, slots := 0, locals := 29 } : Room).slots) := by
  refine MetFree.of_bodySF (plainFor_of_name pn_2) hisR ?_
  intro p e s m args below meth c s₁ Bd hml0 hP hK
  obtain ⟨rfl, hZ, hh⟩ := hP
  have hx := Bd.exec
  have hby := Bd.bytes
  have hml : c.maxLocals = 4 := hml0
  have hown : s.vm.findClass "com/example/ballast/ballast/model/Utf8TextIsUtf8PinLaw" = some m.cls := findClass_of_methodNamed Bd.named
  have hnm := (name_of_methodNamed Bd.named Bd.method).1
  have X0 : Stand p l e ({ frames := 2, cells := 0, slots := 0, locals := 29 } : Room) s m #[(.ref a0), (.int p1), (.int p2)] below meth c s₁ [] 0 0 := Stand.of_body Bd
  have e0 : s₁.heap = h0 := by rw [← hh, Bd.state]; rfl
  have N0 := Fr.nil n0
  have K0 : Keep h0 h0 [] := Keep.refl h0 []
  refine own_go (B := s₁.setTop (mkF m 0 #[.val (.ref a0), .val (.int p1), .val (.int p2), .unset] [])) (fun t k => castTop (ef_2 m a0 p1 p2) k) ?_
  refine own_go (B := s₁.setTop (mkF m 1 #[.val (.ref a0), .val (.int p1), .val (.int p2), .unset] [(.int p1)])) (fun t k => ?_) ?_
  · show Steps p.tables e below (s₁.setTop (mkF m 0 #[.val (.ref a0), .val (.int p1), .val (.int p2), .unset] [])) _
    refine XS.iloadN X0.here hx rfl (hb hby d2_0) rfl ?_
    exact k
  by_cases hc1 : p1 < (0 : Int32)
  · refine own_go (B := s₁.setTop (mkF m 9 #[.val (.ref a0), .val (.int p1), .val (.int p2), .unset] [])) (fun t k => ?_) ?_
    · show Steps p.tables e below (s₁.setTop (mkF m 1 #[.val (.ref a0), .val (.int p1), .val (.int p2), .unset] [(.int p1)])) _
      refine XS.ifYes X0.here hx rfl (pc0 := 1) (pc' := 9) rfl (hb hby d2_1) rfl ((if0 _ _).trans (tlt hc1).1) (by decide) (by decide) ?_
      exact k
    refine own_go (B := s₁.setTop (mkF m 10 #[.val (.ref a0), .val (.int p1), .val (.int p2), .unset] [(.int p1)])) (fun t k => ?_) ?_
    · show Steps p.tables e below (s₁.setTop (mkF m 9 #[.val (.ref a0), .val (.int p1), .val (.int p2), .unset] [])) _
      refine XS.iloadN X0.here hx rfl (hb hby d2_9) rfl ?_
      exact k
    obtain ⟨fs, hr, hrun, hended, hW, hsame⟩ := X0.leave (v := some (.int p1)) (fun h => by rw [Bd.returns] at h; cases h)
    refine ⟨_, _, ?_, hrun, hended, _, _, rfl, ?_, ⟨_, rfl⟩, hW, hsame.mono (by decide) (by decide)⟩
    · show Steps p.tables e below (s₁.setTop (mkF m 10 #[.val (.ref a0), .val (.int p1), .val (.int p2), .unset] [(.int p1)])) _
      exact retI X0 hx Bd.returns (hb hby d2_10) hr
    · show Q2 Z a0 p1 p2 kk us h0 n0 _ s₁.heap _
      rw [e0]
      exact ⟨by simp only [own_step, if_pos hz, if_pos hc1], N0, rfl⟩
  · refine own_go (B := s₁.setTop (mkF m 4 #[.val (.ref a0), .val (.int p1), .val (.int p2), .unset] [])) (fun t k => ?_) ?_
    · show Steps p.tables e below (s₁.setTop (mkF m 1 #[.val (.ref a0), .val (.int p1), .val (.int p2), .unset] [(.int p1)])) _
      refine XS.ifNo X0.here hx rfl (hb hby d2_1) rfl ((if0 _ _).trans (flt hc1).1) ?_
      exact k
    refine own_go (B := s₁.setTop (mkF m 6 #[.val (.ref a0), .val (.int p1), .val (.int p2), .unset] [(.int p2), (.int p1)])) (fun t k => ?_) ?_
    · show Steps p.tables e below (s₁.setTop (mkF m 4 #[.val (.ref a0), .val (.int p1), .val (.int p2), .unset] [])) _
      refine XS.iloadN X0.here hx rfl (hb hby d2_4) rfl ?_
      show Steps p.tables e below (s₁.setTop (mkF m 5 #[.val (.ref a0), .val (.int p1), .val (.int p2), .unset] [(.int p1)])) _
      refine XS.iloadN X0.here hx rfl (hb hby d2_5) rfl ?_
      exact k
    by_cases hc6 : p1 < p2
    · refine own_go (B := s₁.setTop (mkF m 11 #[.val (.ref a0), .val (.int p1), .val (.int p2), .unset] [])) (fun t k => ?_) ?_
      · show Steps p.tables e below (s₁.setTop (mkF m 6 #[.val (.ref a0), .val (.int p1), .val (.int p2), .unset] [(.int p2), (.int p1)])) _
        refine XS.icmpYes X0.here hx rfl (pc0 := 6) (pc' := 11) rfl (hb hby d2_6) rfl (tlt hc6).1 (by decide) (by decide) ?_
        exact k
      refine own_go (B := s₁.setTop (mkF m 13 #[.val (.ref a0), .val (.int p1), .val (.int p2), .unset] [(.int p1), (.ref a0)])) (fun t k => ?_) ?_
      · show Steps p.tables e below (s₁.setTop (mkF m 11 #[.val (.ref a0), .val (.int p1), .val (.int p2), .unset] [])) _
        refine XS.aloadN X0.here hx rfl (hb hby d2_11) rfl rfl ?_
        show Steps p.tables e below (s₁.setTop (mkF m 12 #[.val (.ref a0), .val (.int p1), .val (.int p2), .unset] [(.ref a0)])) _
        refine XS.iloadN X0.here hx rfl (hb hby d2_12) rfl ?_
        exact k
      obtain ⟨cl_1, Ar_1, q_1, S_1, M_1, H_1, G_1⟩ := id V0
      have hin_1 : ¬ (p1 < 0 ∨ cl_1.slots.size ≤ (p1).toNatClampNeg) := inb_of S_1 ⟨hc1, own_in0 p1 p2 hc6 hz⟩
      have hat_1 : cl_1.slots[(p1).toNatClampNeg]? = some (.int (us.getD (p1).toNatClampNeg 0)) := H_1.at hin_1 (own_map us _)
      refine own_go (B := s₁.setTop (mkF m 14 #[.val (.ref a0), .val (.int p1), .val (.int p2), .unset] [(.int (us.getD (p1).toNatClampNeg 0))])) (fun t k => X0.iaload hx (j := p1) (v := (.int (us.getD (p1).toNatClampNeg 0))) (by rw [(e0 : _ = _)]; exact Ar_1.1) (State.isArrayOf_alike hZ.alike Ar_1.2.1) Ar_1.2.2 hin_1 hat_1 (g := (mkF m 13 #[.val (.ref a0), .val (.int p1), .val (.int p2), .unset] [(.int p1), (.ref a0)])) rfl rfl (hb hby d2_13) t k) ?_
      refine own_go (B := s₁.setTop (mkF m 18 #[.val (.ref a0), .val (.int p1), .val (.int p2), .unset] [(.int (p1 + (1 : Int32))), (.ref a0), (.int (us.getD (p1).toNatClampNeg 0))])) (fun t k => ?_) ?_
      · show Steps p.tables e below (s₁.setTop (mkF m 14 #[.val (.ref a0), .val (.int p1), .val (.int p2), .unset] [(.int (us.getD (p1).toNatClampNeg 0))])) _
        refine XS.aloadN X0.here hx rfl (hb hby d2_14) rfl rfl ?_
        show Steps p.tables e below (s₁.setTop (mkF m 15 #[.val (.ref a0), .val (.int p1), .val (.int p2), .unset] [(.ref a0), (.int (us.getD (p1).toNatClampNeg 0))])) _
        refine XS.iloadN X0.here hx rfl (hb hby d2_15) rfl ?_
        show Steps p.tables e below (s₁.setTop (mkF m 16 #[.val (.ref a0), .val (.int p1), .val (.int p2), .unset] [(.int p1), (.ref a0), (.int (us.getD (p1).toNatClampNeg 0))])) _
        refine XS.iconst X0.here hx rfl (hb hby d2_16) ?_
        show Steps p.tables e below (s₁.setTop (mkF m 17 #[.val (.ref a0), .val (.int p1), .val (.int p2), .unset] [(.int (1 : Int32)), (.int p1), (.ref a0), (.int (us.getD (p1).toNatClampNeg 0))])) _
        refine XS.iadd X0.here hx rfl (hb hby d2_17) rfl ?_
        exact k
      obtain ⟨cl_2, Ar_2, q_2, S_2, M_2, H_2, G_2⟩ := id V0
      have hin_2 : ¬ ((p1 + (1 : Int32)) < 0 ∨ cl_2.slots.size ≤ ((p1 + (1 : Int32))).toNatClampNeg) := inb_of S_2 (own_in p1 (1 : Int32) p2 11 hc1 hc6 hz (by decide))
      have hat_2 : cl_2.slots[((p1 + (1 : Int32))).toNatClampNeg]? = some (.int (us.getD ((p1 + (1 : Int32))).toNatClampNeg 0)) := H_2.at hin_2 (own_map us _)
      refine own_go (B := s₁.setTop (mkF m 19 #[.val (.ref a0), .val (.int p1), .val (.int p2), .unset] [(.int (us.getD ((p1 + (1 : Int32))).toNatClampNeg 0)), (.int (us.getD (p1).toNatClampNeg 0))])) (fun t k => X0.iaload hx (j := (p1 + (1 : Int32))) (v := (.int (us.getD ((p1 + (1 : Int32))).toNatClampNeg 0))) (by rw [(e0 : _ = _)]; exact Ar_2.1) (State.isArrayOf_alike hZ.alike Ar_2.2.1) Ar_2.2.2 hin_2 hat_2 (g := (mkF m 18 #[.val (.ref a0), .val (.int p1), .val (.int p2), .unset] [(.int (p1 + (1 : Int32))), (.ref a0), (.int (us.getD (p1).toNatClampNeg 0))])) rfl rfl (hb hby d2_18) t k) ?_
      refine own_go (B := s₁.setTop (mkF m 23 #[.val (.ref a0), .val (.int p1), .val (.int p2), .unset] [(.int (p1 + (2 : Int32))), (.ref a0), (.int (us.getD ((p1 + (1 : Int32))).toNatClampNeg 0)), (.int (us.getD (p1).toNatClampNeg 0))])) (fun t k => ?_) ?_
      · show Steps p.tables e below (s₁.setTop (mkF m 19 #[.val (.ref a0), .val (.int p1), .val (.int p2), .unset] [(.int (us.getD ((p1 + (1 : Int32))).toNatClampNeg 0)), (.int (us.getD (p1).toNatClampNeg 0))])) _
        refine XS.aloadN X0.here hx rfl (hb hby d2_19) rfl rfl ?_
        show Steps p.tables e below (s₁.setTop (mkF m 20 #[.val (.ref a0), .val (.int p1), .val (.int p2), .unset] [(.ref a0), (.int (us.getD ((p1 + (1 : Int32))).toNatClampNeg 0)), (.int (us.getD (p1).toNatClampNeg 0))])) _
        refine XS.iloadN X0.here hx rfl (hb hby d2_20) rfl ?_
        show Steps p.tables e below (s₁.setTop (mkF m 21 #[.val (.ref a0), .val (.int p1), .val (.int p2), .unset] [(.int p1), (.ref a0), (.int (us.getD ((p1 + (1 : Int32))).toNatClampNeg 0)), (.int (us.getD (p1).toNatClampNeg 0))])) _
        refine XS.iconst X0.here hx rfl (hb hby d2_21) ?_
        show Steps p.tables e below (s₁.setTop (mkF m 22 #[.val (.ref a0), .val (.int p1), .val (.int p2), .unset] [(.int (2 : Int32)), (.int p1), (.ref a0), (.int (us.getD ((p1 + (1 : Int32))).toNatClampNeg 0)), (.int (us.getD (p1).toNatClampNeg 0))])) _
        refine XS.iadd X0.here hx rfl (hb hby d2_22) rfl ?_
        exact k
      obtain ⟨cl_3, Ar_3, q_3, S_3, M_3, H_3, G_3⟩ := id V0
      have hin_3 : ¬ ((p1 + (2 : Int32)) < 0 ∨ cl_3.slots.size ≤ ((p1 + (2 : Int32))).toNatClampNeg) := inb_of S_3 (own_in p1 (2 : Int32) p2 11 hc1 hc6 hz (by decide))
      have hat_3 : cl_3.slots[((p1 + (2 : Int32))).toNatClampNeg]? = some (.int (us.getD ((p1 + (2 : Int32))).toNatClampNeg 0)) := H_3.at hin_3 (own_map us _)
      refine own_go (B := s₁.setTop (mkF m 24 #[.val (.ref a0), .val (.int p1), .val (.int p2), .unset] [(.int (us.getD ((p1 + (2 : Int32))).toNatClampNeg 0)), (.int (us.getD ((p1 + (1 : Int32))).toNatClampNeg 0)), (.int (us.getD (p1).toNatClampNeg 0))])) (fun t k => X0.iaload hx (j := (p1 + (2 : Int32))) (v := (.int (us.getD ((p1 + (2 : Int32))).toNatClampNeg 0))) (by rw [(e0 : _ = _)]; exact Ar_3.1) (State.isArrayOf_alike hZ.alike Ar_3.2.1) Ar_3.2.2 hin_3 hat_3 (g := (mkF m 23 #[.val (.ref a0), .val (.int p1), .val (.int p2), .unset] [(.int (p1 + (2 : Int32))), (.ref a0), (.int (us.getD ((p1 + (1 : Int32))).toNatClampNeg 0)), (.int (us.getD (p1).toNatClampNeg 0))])) rfl rfl (hb hby d2_23) t k) ?_
      refine own_go (B := s₁.setTop (mkF m 28 #[.val (.ref a0), .val (.int p1), .val (.int p2), .unset] [(.int (p1 + (3 : Int32))), (.ref a0), (.int (us.getD ((p1 + (2 : Int32))).toNatClampNeg 0)), (.int (us.getD ((p1 + (1 : Int32))).toNatClampNeg 0)), (.int (us.getD (p1).toNatClampNeg 0))])) (fun t k => ?_) ?_
      · show Steps p.tables e below (s₁.setTop (mkF m 24 #[.val (.ref a0), .val (.int p1), .val (.int p2), .unset] [(.int (us.getD ((p1 + (2 : Int32))).toNatClampNeg 0)), (.int (us.getD ((p1 + (1 : Int32))).toNatClampNeg 0)), (.int (us.getD (p1).toNatClampNeg 0))])) _
        refine XS.aloadN X0.here hx rfl (hb hby d2_24) rfl rfl ?_
        show Steps p.tables e below (s₁.setTop (mkF m 25 #[.val (.ref a0), .val (.int p1), .val (.int p2), .unset] [(.ref a0), (.int (us.getD ((p1 + (2 : Int32))).toNatClampNeg 0)), (.int (us.getD ((p1 + (1 : Int32))).toNatClampNeg 0)), (.int (us.getD (p1).toNatClampNeg 0))])) _
        refine XS.iloadN X0.here hx rfl (hb hby d2_25) rfl ?_
        show Steps p.tables e below (s₁.setTop (mkF m 26 #[.val (.ref a0), .val (.int p1), .val (.int p2), .unset] [(.int p1), (.ref a0), (.int (us.getD ((p1 + (2 : Int32))).toNatClampNeg 0)), (.int (us.getD ((p1 + (1 : Int32))).toNatClampNeg 0)), (.int (us.getD (p1).toNatClampNeg 0))])) _
        refine XS.iconst X0.here hx rfl (hb hby d2_26) ?_
        show Steps p.tables e below (s₁.setTop (mkF m 27 #[.val (.ref a0), .val (.int p1), .val (.int p2), .unset] [(.int (3 : Int32)), (.int p1), (.ref a0), (.int (us.getD ((p1 + (2 : Int32))).toNatClampNeg 0)), (.int (us.getD ((p1 + (1 : Int32))).toNatClampNeg 0)), (.int (us.getD (p1).toNatClampNeg 0))])) _
        refine XS.iadd X0.here hx rfl (hb hby d2_27) rfl ?_
        exact k
      obtain ⟨cl_4, Ar_4, q_4, S_4, M_4, H_4, G_4⟩ := id V0
      have hin_4 : ¬ ((p1 + (3 : Int32)) < 0 ∨ cl_4.slots.size ≤ ((p1 + (3 : Int32))).toNatClampNeg) := inb_of S_4 (own_in p1 (3 : Int32) p2 11 hc1 hc6 hz (by decide))
      have hat_4 : cl_4.slots[((p1 + (3 : Int32))).toNatClampNeg]? = some (.int (us.getD ((p1 + (3 : Int32))).toNatClampNeg 0)) := H_4.at hin_4 (own_map us _)
      refine own_go (B := s₁.setTop (mkF m 29 #[.val (.ref a0), .val (.int p1), .val (.int p2), .unset] [(.int (us.getD ((p1 + (3 : Int32))).toNatClampNeg 0)), (.int (us.getD ((p1 + (2 : Int32))).toNatClampNeg 0)), (.int (us.getD ((p1 + (1 : Int32))).toNatClampNeg 0)), (.int (us.getD (p1).toNatClampNeg 0))])) (fun t k => X0.iaload hx (j := (p1 + (3 : Int32))) (v := (.int (us.getD ((p1 + (3 : Int32))).toNatClampNeg 0))) (by rw [(e0 : _ = _)]; exact Ar_4.1) (State.isArrayOf_alike hZ.alike Ar_4.2.1) Ar_4.2.2 hin_4 hat_4 (g := (mkF m 28 #[.val (.ref a0), .val (.int p1), .val (.int p2), .unset] [(.int (p1 + (3 : Int32))), (.ref a0), (.int (us.getD ((p1 + (2 : Int32))).toNatClampNeg 0)), (.int (us.getD ((p1 + (1 : Int32))).toNatClampNeg 0)), (.int (us.getD (p1).toNatClampNeg 0))])) rfl rfl (hb hby d2_28) t k) ?_
      refine own_go (B := s₁.setTop (mkF m 32 #[.val (.ref a0), .val (.int p1), .val (.int p2), .unset] [(.int (p2 - p1)), (.int (us.getD ((p1 + (3 : Int32))).toNatClampNeg 0)), (.int (us.getD ((p1 + (2 : Int32))).toNatClampNeg 0)), (.int (us.getD ((p1 + (1 : Int32))).toNatClampNeg 0)), (.int (us.getD (p1).toNatClampNeg 0))])) (fun t k => ?_) ?_
      · show Steps p.tables e below (s₁.setTop (mkF m 29 #[.val (.ref a0), .val (.int p1), .val (.int p2), .unset] [(.int (us.getD ((p1 + (3 : Int32))).toNatClampNeg 0)), (.int (us.getD ((p1 + (2 : Int32))).toNatClampNeg 0)), (.int (us.getD ((p1 + (1 : Int32))).toNatClampNeg 0)), (.int (us.getD (p1).toNatClampNeg 0))])) _
        refine XS.iloadN X0.here hx rfl (hb hby d2_29) rfl ?_
        show Steps p.tables e below (s₁.setTop (mkF m 30 #[.val (.ref a0), .val (.int p1), .val (.int p2), .unset] [(.int p2), (.int (us.getD ((p1 + (3 : Int32))).toNatClampNeg 0)), (.int (us.getD ((p1 + (2 : Int32))).toNatClampNeg 0)), (.int (us.getD ((p1 + (1 : Int32))).toNatClampNeg 0)), (.int (us.getD (p1).toNatClampNeg 0))])) _
        refine XS.iloadN X0.here hx rfl (hb hby d2_30) rfl ?_
        show Steps p.tables e below (s₁.setTop (mkF m 31 #[.val (.ref a0), .val (.int p1), .val (.int p2), .unset] [(.int p1), (.int p2), (.int (us.getD ((p1 + (3 : Int32))).toNatClampNeg 0)), (.int (us.getD ((p1 + (2 : Int32))).toNatClampNeg 0)), (.int (us.getD ((p1 + (1 : Int32))).toNatClampNeg 0)), (.int (us.getD (p1).toNatClampNeg 0))])) _
        refine XS.isub X0.here hx rfl (hb hby d2_31) rfl ?_
        exact k
      obtain ⟨_, _, ⟨T_5, L_5, k_5, n_5⟩, -, X_5, ⟨Lc_5, hQ_5, l_5, y_5, z_5⟩, st_5⟩ := Jvm.LawKit.callS X0 hx (y := (⟨"com/example/ballast/ballast/model/Utf8TextIsUtf8PinLaw", "len", "(IIIII)I"⟩ : MethodName)) hown (mvT hZ (hw _ (List.mem_of_getElem? (i := 15) rfl))) (mvT hZ (hw _ (List.mem_of_getElem? (i := 16) rfl))) (mvT hZ (hw _ (List.mem_of_getElem? (i := 4) rfl))) (mvT hZ (hw _ (List.mem_of_getElem? (i := 17) rfl))) (by decide) (backOf (W := 0) (rm4 l Z av0 hw [] (us.getD (p1).toNatClampNeg 0) (us.getD ((p1 + (1 : Int32))).toNatClampNeg 0) (us.getD ((p1 + (2 : Int32))).toNatClampNeg 0) (us.getD ((p1 + (3 : Int32))).toNatClampNeg 0) (p2 - p1)  h0 n0 Z0 ) hZ (hw _ (List.mem_of_getElem? (i := 17) rfl)) (hw _ (List.mem_of_getElem? (i := 4) rfl)) (by decide) (by decide)) (g := (mkF m 32 #[.val (.ref a0), .val (.int p1), .val (.int p2), .unset] [(.int (p2 - p1)), (.int (us.getD ((p1 + (3 : Int32))).toNatClampNeg 0)), (.int (us.getD ((p1 + (2 : Int32))).toNatClampNeg 0)), (.int (us.getD ((p1 + (1 : Int32))).toNatClampNeg 0)), (.int (us.getD (p1).toNatClampNeg 0))])) rfl (by rw [hml]; rfl) (argsL := [(.int (us.getD (p1).toNatClampNeg 0)), (.int (us.getD ((p1 + (1 : Int32))).toNatClampNeg 0)), (.int (us.getD ((p1 + (2 : Int32))).toNatClampNeg 0)), (.int (us.getD ((p1 + (3 : Int32))).toNatClampNeg 0)), (.int (p2 - p1))]) (rest := []) (lenOf pd_1 rfl) rfl (by show 2 * 0 + _ ≤ _; exact Nat.le_of_eq rfl) (hb hby d2_32) (fun _ _ => ⟨rfl, e0, (by decide : 0 + 0 ≤ _), (by decide : 0 + 0 ≤ _)⟩)
      dsimp only [Pt.U, Pt.locs, Pt.cells, Pt.slots] at X_5 l_5 y_5 z_5 st_5 hQ_5
      subst l_5 y_5 z_5
      obtain ⟨rfl, N_5q, e_5⟩ := hQ_5
      have N_5 := Fr.app N0 N_5q
      refine own_go (B := T_5.setTop (mkF m 35 #[.val (.ref a0), .val (.int p1), .val (.int p2), .unset] [(.int (own_lenf (us.getD (p1).toNatClampNeg 0) (us.getD ((p1 + (1 : Int32))).toNatClampNeg 0) (us.getD ((p1 + (2 : Int32))).toNatClampNeg 0) (us.getD ((p1 + (3 : Int32))).toNatClampNeg 0) (p2 - p1)))])) (fun t k => st_5 t k) ?_
      refine own_go (B := T_5.setTop (mkF m 37 #[.val (.ref a0), .val (.int p1), .val (.int p2), .val (.int (own_lenf (us.getD (p1).toNatClampNeg 0) (us.getD ((p1 + (1 : Int32))).toNatClampNeg 0) (us.getD ((p1 + (2 : Int32))).toNatClampNeg 0) (us.getD ((p1 + (3 : Int32))).toNatClampNeg 0) (p2 - p1)))] [(.int (own_lenf (us.getD (p1).toNatClampNeg 0) (us.getD ((p1 + (1 : Int32))).toNatClampNeg 0) (us.getD ((p1 + (2 : Int32))).toNatClampNeg 0) (us.getD ((p1 + (3 : Int32))).toNatClampNeg 0) (p2 - p1)))])) (fun t k => ?_) ?_
      · show Steps p.tables e below (T_5.setTop (mkF m 35 #[.val (.ref a0), .val (.int p1), .val (.int p2), .unset] [(.int (own_lenf (us.getD (p1).toNatClampNeg 0) (us.getD ((p1 + (1 : Int32))).toNatClampNeg 0) (us.getD ((p1 + (2 : Int32))).toNatClampNeg 0) (us.getD ((p1 + (3 : Int32))).toNatClampNeg 0) (p2 - p1)))])) _
        refine XS.istoreN X_5.here hx rfl (hb hby d2_35) rfl (l' := #[.val (.ref a0), .val (.int p1), .val (.int p2), .val (.int (own_lenf (us.getD (p1).toNatClampNeg 0) (us.getD ((p1 + (1 : Int32))).toNatClampNeg 0) (us.getD ((p1 + (2 : Int32))).toNatClampNeg 0) (us.getD ((p1 + (3 : Int32))).toNatClampNeg 0) (p2 - p1)))]) rfl ?_
        show Steps p.tables e below (T_5.setTop (mkF m 36 #[.val (.ref a0), .val (.int p1), .val (.int p2), .val (.int (own_lenf (us.getD (p1).toNatClampNeg 0) (us.getD ((p1 + (1 : Int32))).toNatClampNeg 0) (us.getD ((p1 + (2 : Int32))).toNatClampNeg 0) (us.getD ((p1 + (3 : Int32))).toNatClampNeg 0) (p2 - p1)))] [])) _
        refine XS.iloadN X_5.here hx rfl (hb hby d2_36) rfl ?_
        exact k
      by_cases hc37 : (own_lenf (us.getD (p1).toNatClampNeg 0) (us.getD ((p1 + (1 : Int32))).toNatClampNeg 0) (us.getD ((p1 + (2 : Int32))).toNatClampNeg 0) (us.getD ((p1 + (3 : Int32))).toNatClampNeg 0) (p2 - p1)) = (0 : Int32)
      · refine own_go (B := T_5.setTop (mkF m 40 #[.val (.ref a0), .val (.int p1), .val (.int p2), .val (.int (own_lenf (us.getD (p1).toNatClampNeg 0) (us.getD ((p1 + (1 : Int32))).toNatClampNeg 0) (us.getD ((p1 + (2 : Int32))).toNatClampNeg 0) (us.getD ((p1 + (3 : Int32))).toNatClampNeg 0) (p2 - p1)))] [])) (fun t k => ?_) ?_
        · show Steps p.tables e below (T_5.setTop (mkF m 37 #[.val (.ref a0), .val (.int p1), .val (.int p2), .val (.int (own_lenf (us.getD (p1).toNatClampNeg 0) (us.getD ((p1 + (1 : Int32))).toNatClampNeg 0) (us.getD ((p1 + (2 : Int32))).toNatClampNeg 0) (us.getD ((p1 + (3 : Int32))).toNatClampNeg 0) (p2 - p1)))] [(.int (own_lenf (us.getD (p1).toNatClampNeg 0) (us.getD ((p1 + (1 : Int32))).toNatClampNeg 0) (us.getD ((p1 + (2 : Int32))).toNatClampNeg 0) (us.getD ((p1 + (3 : Int32))).toNatClampNeg 0) (p2 - p1)))])) _
          refine XS.ifNo X_5.here hx rfl (hb hby d2_37) rfl ((if0 _ _).trans (teq hc37).2) ?_
          exact k
        refine own_go (B := T_5.setTop (mkF m 41 #[.val (.ref a0), .val (.int p1), .val (.int p2), .val (.int (own_lenf (us.getD (p1).toNatClampNeg 0) (us.getD ((p1 + (1 : Int32))).toNatClampNeg 0) (us.getD ((p1 + (2 : Int32))).toNatClampNeg 0) (us.getD ((p1 + (3 : Int32))).toNatClampNeg 0) (p2 - p1)))] [(.int (-1 : Int32))])) (fun t k => ?_) ?_
        · show Steps p.tables e below (T_5.setTop (mkF m 40 #[.val (.ref a0), .val (.int p1), .val (.int p2), .val (.int (own_lenf (us.getD (p1).toNatClampNeg 0) (us.getD ((p1 + (1 : Int32))).toNatClampNeg 0) (us.getD ((p1 + (2 : Int32))).toNatClampNeg 0) (us.getD ((p1 + (3 : Int32))).toNatClampNeg 0) (p2 - p1)))] [])) _
          refine XS.iconst X_5.here hx rfl (hb hby d2_40) ?_
          exact k
        obtain ⟨fs, hr, hrun, hended, hW, hsame⟩ := X_5.leave (v := some (.int (-1 : Int32))) (fun h => by rw [Bd.returns] at h; cases h)
        refine ⟨_, _, ?_, hrun, hended, _, _, rfl, ?_, ⟨_, rfl⟩, hW, hsame.mono (by decide) (by decide)⟩
        · show Steps p.tables e below (T_5.setTop (mkF m 41 #[.val (.ref a0), .val (.int p1), .val (.int p2), .val (.int (own_lenf (us.getD (p1).toNatClampNeg 0) (us.getD ((p1 + (1 : Int32))).toNatClampNeg 0) (us.getD ((p1 + (2 : Int32))).toNatClampNeg 0) (us.getD ((p1 + (3 : Int32))).toNatClampNeg 0) (p2 - p1)))] [(.int (-1 : Int32))])) _
          exact retI X_5 hx Bd.returns (hb hby d2_41) hr
        · show Q2 Z a0 p1 p2 kk us h0 n0 _ T_5.heap _
          rw [e_5]
          exact ⟨by simp only [own_step, if_pos hz, if_neg hc1, if_pos hc6, if_pos hc37], N_5, rfl⟩
      · refine own_go (B := T_5.setTop (mkF m 42 #[.val (.ref a0), .val (.int p1), .val (.int p2), .val (.int (own_lenf (us.getD (p1).toNatClampNeg 0) (us.getD ((p1 + (1 : Int32))).toNatClampNeg 0) (us.getD ((p1 + (2 : Int32))).toNatClampNeg 0) (us.getD ((p1 + (3 : Int32))).toNatClampNeg 0) (p2 - p1)))] [])) (fun t k => ?_) ?_
        · show Steps p.tables e below (T_5.setTop (mkF m 37 #[.val (.ref a0), .val (.int p1), .val (.int p2), .val (.int (own_lenf (us.getD (p1).toNatClampNeg 0) (us.getD ((p1 + (1 : Int32))).toNatClampNeg 0) (us.getD ((p1 + (2 : Int32))).toNatClampNeg 0) (us.getD ((p1 + (3 : Int32))).toNatClampNeg 0) (p2 - p1)))] [(.int (own_lenf (us.getD (p1).toNatClampNeg 0) (us.getD ((p1 + (1 : Int32))).toNatClampNeg 0) (us.getD ((p1 + (2 : Int32))).toNatClampNeg 0) (us.getD ((p1 + (3 : Int32))).toNatClampNeg 0) (p2 - p1)))])) _
          refine XS.ifYes X_5.here hx rfl (pc0 := 37) (pc' := 42) rfl (hb hby d2_37) rfl ((if0 _ _).trans (feq hc37).2) (by decide) (by decide) ?_
          exact k
        refine own_go (B := T_5.setTop (mkF m 45 #[.val (.ref a0), .val (.int p1), .val (.int p2), .val (.int (own_lenf (us.getD (p1).toNatClampNeg 0) (us.getD ((p1 + (1 : Int32))).toNatClampNeg 0) (us.getD ((p1 + (2 : Int32))).toNatClampNeg 0) (us.getD ((p1 + (3 : Int32))).toNatClampNeg 0) (p2 - p1)))] [(.int (p1 + (own_lenf (us.getD (p1).toNatClampNeg 0) (us.getD ((p1 + (1 : Int32))).toNatClampNeg 0) (us.getD ((p1 + (2 : Int32))).toNatClampNeg 0) (us.getD ((p1 + (3 : Int32))).toNatClampNeg 0) (p2 - p1))))])) (fun t k => ?_) ?_
        · show Steps p.tables e below (T_5.setTop (mkF m 42 #[.val (.ref a0), .val (.int p1), .val (.int p2), .val (.int (own_lenf (us.getD (p1).toNatClampNeg 0) (us.getD ((p1 + (1 : Int32))).toNatClampNeg 0) (us.getD ((p1 + (2 : Int32))).toNatClampNeg 0) (us.getD ((p1 + (3 : Int32))).toNatClampNeg 0) (p2 - p1)))] [])) _
          refine XS.iloadN X_5.here hx rfl (hb hby d2_42) rfl ?_
          show Steps p.tables e below (T_5.setTop (mkF m 43 #[.val (.ref a0), .val (.int p1), .val (.int p2), .val (.int (own_lenf (us.getD (p1).toNatClampNeg 0) (us.getD ((p1 + (1 : Int32))).toNatClampNeg 0) (us.getD ((p1 + (2 : Int32))).toNatClampNeg 0) (us.getD ((p1 + (3 : Int32))).toNatClampNeg 0) (p2 - p1)))] [(.int p1)])) _
          refine XS.iloadN X_5.here hx rfl (hb hby d2_43) rfl ?_
          show Steps p.tables e below (T_5.setTop (mkF m 44 #[.val (.ref a0), .val (.int p1), .val (.int p2), .val (.int (own_lenf (us.getD (p1).toNatClampNeg 0) (us.getD ((p1 + (1 : Int32))).toNatClampNeg 0) (us.getD ((p1 + (2 : Int32))).toNatClampNeg 0) (us.getD ((p1 + (3 : Int32))).toNatClampNeg 0) (p2 - p1)))] [(.int (own_lenf (us.getD (p1).toNatClampNeg 0) (us.getD ((p1 + (1 : Int32))).toNatClampNeg 0) (us.getD ((p1 + (2 : Int32))).toNatClampNeg 0) (us.getD ((p1 + (3 : Int32))).toNatClampNeg 0) (p2 - p1))), (.int p1)])) _
          refine XS.iadd X_5.here hx rfl (hb hby d2_44) rfl ?_
          exact k
        obtain ⟨fs, hr, hrun, hended, hW, hsame⟩ := X_5.leave (v := some (.int (p1 + (own_lenf (us.getD (p1).toNatClampNeg 0) (us.getD ((p1 + (1 : Int32))).toNatClampNeg 0) (us.getD ((p1 + (2 : Int32))).toNatClampNeg 0) (us.getD ((p1 + (3 : Int32))).toNatClampNeg 0) (p2 - p1))))) (fun h => by rw [Bd.returns] at h; cases h)
        refine ⟨_, _, ?_, hrun, hended, _, _, rfl, ?_, ⟨_, rfl⟩, hW, hsame.mono (by decide) (by decide)⟩
        · show Steps p.tables e below (T_5.setTop (mkF m 45 #[.val (.ref a0), .val (.int p1), .val (.int p2), .val (.int (own_lenf (us.getD (p1).toNatClampNeg 0) (us.getD ((p1 + (1 : Int32))).toNatClampNeg 0) (us.getD ((p1 + (2 : Int32))).toNatClampNeg 0) (us.getD ((p1 + (3 : Int32))).toNatClampNeg 0) (p2 - p1)))] [(.int (p1 + (own_lenf (us.getD (p1).toNatClampNeg 0) (us.getD ((p1 + (1 : Int32))).toNatClampNeg 0) (us.getD ((p1 + (2 : Int32))).toNatClampNeg 0) (us.getD ((p1 + (3 : Int32))).toNatClampNeg 0) (p2 - p1))))])) _
          exact retI X_5 hx Bd.returns (hb hby d2_45) hr
        · show Q2 Z a0 p1 p2 kk us h0 n0 _ T_5.heap _
          rw [e_5]
          exact ⟨by simp only [own_step, if_pos hz, if_neg hc1, if_pos hc6, if_neg hc37], N_5, rfl⟩
    · refine own_go (B := s₁.setTop (mkF m 9 #[.val (.ref a0), .val (.int p1), .val (.int p2), .unset] [])) (fun t k => ?_) ?_
      · show Steps p.tables e below (s₁.setTop (mkF m 6 #[.val (.ref a0), .val (.int p1), .val (.int p2), .unset] [(.int p2), (.int p1)])) _
        refine XS.icmpNo X0.here hx rfl (hb hby d2_6) rfl (flt hc6).1 ?_
        exact k
      refine own_go (B := s₁.setTop (mkF m 10 #[.val (.ref a0), .val (.int p1), .val (.int p2), .unset] [(.int p1)])) (fun t k => ?_) ?_
      · show Steps p.tables e below (s₁.setTop (mkF m 9 #[.val (.ref a0), .val (.int p1), .val (.int p2), .unset] [])) _
        refine XS.iloadN X0.here hx rfl (hb hby d2_9) rfl ?_
        exact k
      obtain ⟨fs, hr, hrun, hended, hW, hsame⟩ := X0.leave (v := some (.int p1)) (fun h => by rw [Bd.returns] at h; cases h)
      refine ⟨_, _, ?_, hrun, hended, _, _, rfl, ?_, ⟨_, rfl⟩, hW, hsame.mono (by decide) (by decide)⟩
      · show Steps p.tables e below (s₁.setTop (mkF m 10 #[.val (.ref a0), .val (.int p1), .val (.int p2), .unset] [(.int p1)])) _
        exact retI X0 hx Bd.returns (hb hby d2_10) hr
      · show Q2 Z a0 p1 p2 kk us h0 n0 _ s₁.heap _
        rw [e0]
        exact ⟨by simp only [own_step, if_pos hz, if_neg hc1, if_neg hc6], N0, rfl⟩
theorem own_inb (p z k l : Int32) (h0 : ¬ p < (0 : Int32)) (h1 : p < z) (h2 : z < (9 : Int32)) (h3 : ¬ z < (p + l)) (hk : 0 ≤ k.toInt ∧ k.toInt < l.toInt ∧ l.toInt < 9) : ¬ (p + k) < (0 : Int32) ∧ (p + k) < z := by
  rw [own_i] at h0 h1 h2 h3
  have e0 : (0 : Int32).toInt = 0 := rfl
  have e9 : (9 : Int32).toInt = 9 := rfl
  have := own_add (p := p) (q := k) (by omega) (by omega) (by omega) (by omega)
  have := own_add (p := p) (q := l) (by omega) (by omega) (by omega) (by omega)
  rw [own_i, own_i]; omega
theorem own_ltp (p z k l : Int32) (h0 : ¬ p < (0 : Int32)) (h1 : p < z) (h2 : z < (9 : Int32)) (hk : 0 ≤ k.toInt ∧ k.toInt < l.toInt ∧ l.toInt < 9) : (p + k) < (p + l) := by
  rw [own_i] at h0 h1 h2
  have e0 : (0 : Int32).toInt = 0 := rfl
  have e9 : (9 : Int32).toInt = 9 := rfl
  have := own_add (p := p) (q := k) (by omega) (by omega) (by omega) (by omega)
  have := own_add (p := p) (q := l) (by omega) (by omega) (by omega) (by omega)
  rw [own_i]; omega
theorem d5_0 : decode prog_33_method_9_code 0 = .ok (.aload_n 0, 1) := by decide +kernel
theorem d5_1 : decode prog_33_method_9_code 1 = .ok (.iload_n 1, 1) := by decide +kernel
theorem d5_2 : decode prog_33_method_9_code 2 = .ok (.baload, 1) := by decide +kernel
theorem d5_3 : decode prog_33_method_9_code 3 = .ok (.sipush 255, 3) := by decide +kernel
theorem d5_6 : decode prog_33_method_9_code 6 = .ok (.iand, 1) := by decide +kernel
theorem d5_7 : decode prog_33_method_9_code 7 = .ok (.istore_n 2, 1) := by decide +kernel
theorem d5_8 : decode prog_33_method_9_code 8 = .ok (.iload_n 2, 1) := by decide +kernel
theorem d5_9 : decode prog_33_method_9_code 9 = .ok (.sipush 128, 3) := by decide +kernel
theorem d5_12 : decode prog_33_method_9_code 12 = .ok (.if_icmp .ge 5, 3) := by decide +kernel
theorem d5_15 : decode prog_33_method_9_code 15 = .ok (.iconst 1, 1) := by decide +kernel
theorem d5_16 : decode prog_33_method_9_code 16 = .ok (.ireturn, 1) := by decide +kernel
theorem d5_17 : decode prog_33_method_9_code 17 = .ok (.sipush 128, 3) := by decide +kernel
theorem d5_20 : decode prog_33_method_9_code 20 = .ok (.istore 4, 2) := by decide +kernel
theorem d5_22 : decode prog_33_method_9_code 22 = .ok (.sipush 191, 3) := by decide +kernel
theorem d5_25 : decode prog_33_method_9_code 25 = .ok (.istore 5, 2) := by decide +kernel
theorem d5_27 : decode prog_33_method_9_code 27 = .ok (.iload_n 2, 1) := by decide +kernel
theorem d5_28 : decode prog_33_method_9_code 28 = .ok (.sipush 194, 3) := by decide +kernel
theorem d5_31 : decode prog_33_method_9_code 31 = .ok (.if_icmp .lt 15, 3) := by decide +kernel
theorem d5_34 : decode prog_33_method_9_code 34 = .ok (.iload_n 2, 1) := by decide +kernel
theorem d5_35 : decode prog_33_method_9_code 35 = .ok (.sipush 223, 3) := by decide +kernel
theorem d5_38 : decode prog_33_method_9_code 38 = .ok (.if_icmp .gt 8, 3) := by decide +kernel
theorem d5_41 : decode prog_33_method_9_code 41 = .ok (.iconst 2, 1) := by decide +kernel
theorem d5_42 : decode prog_33_method_9_code 42 = .ok (.istore_n 3, 1) := by decide +kernel
theorem d5_43 : decode prog_33_method_9_code 43 = .ok (.goto 111, 3) := by decide +kernel
theorem d5_46 : decode prog_33_method_9_code 46 = .ok (.iload_n 2, 1) := by decide +kernel
theorem d5_47 : decode prog_33_method_9_code 47 = .ok (.sipush 224, 3) := by decide +kernel
theorem d5_50 : decode prog_33_method_9_code 50 = .ok (.if_icmp .lt 49, 3) := by decide +kernel
theorem d5_53 : decode prog_33_method_9_code 53 = .ok (.iload_n 2, 1) := by decide +kernel
theorem d5_54 : decode prog_33_method_9_code 54 = .ok (.sipush 239, 3) := by decide +kernel
theorem d5_57 : decode prog_33_method_9_code 57 = .ok (.if_icmp .gt 42, 3) := by decide +kernel
theorem d5_60 : decode prog_33_method_9_code 60 = .ok (.iconst 3, 1) := by decide +kernel
theorem d5_61 : decode prog_33_method_9_code 61 = .ok (.istore_n 3, 1) := by decide +kernel
theorem d5_62 : decode prog_33_method_9_code 62 = .ok (.iload_n 2, 1) := by decide +kernel
theorem d5_63 : decode prog_33_method_9_code 63 = .ok (.sipush 224, 3) := by decide +kernel
theorem d5_66 : decode prog_33_method_9_code 66 = .ok (.if_icmp .ne 9, 3) := by decide +kernel
theorem d5_69 : decode prog_33_method_9_code 69 = .ok (.sipush 160, 3) := by decide +kernel
theorem d5_72 : decode prog_33_method_9_code 72 = .ok (.goto 5, 3) := by decide +kernel
theorem d5_75 : decode prog_33_method_9_code 75 = .ok (.iload 4, 2) := by decide +kernel
theorem d5_77 : decode prog_33_method_9_code 77 = .ok (.istore 4, 2) := by decide +kernel
theorem d5_79 : decode prog_33_method_9_code 79 = .ok (.iload_n 2, 1) := by decide +kernel
theorem d5_80 : decode prog_33_method_9_code 80 = .ok (.sipush 237, 3) := by decide +kernel
theorem d5_83 : decode prog_33_method_9_code 83 = .ok (.if_icmp .ne 9, 3) := by decide +kernel
theorem d5_86 : decode prog_33_method_9_code 86 = .ok (.sipush 159, 3) := by decide +kernel
theorem d5_89 : decode prog_33_method_9_code 89 = .ok (.goto 5, 3) := by decide +kernel
theorem d5_92 : decode prog_33_method_9_code 92 = .ok (.iload 5, 2) := by decide +kernel
theorem d5_94 : decode prog_33_method_9_code 94 = .ok (.istore 5, 2) := by decide +kernel
theorem d5_96 : decode prog_33_method_9_code 96 = .ok (.goto 58, 3) := by decide +kernel
theorem d5_99 : decode prog_33_method_9_code 99 = .ok (.iload_n 2, 1) := by decide +kernel
theorem d5_100 : decode prog_33_method_9_code 100 = .ok (.sipush 240, 3) := by decide +kernel
theorem d5_103 : decode prog_33_method_9_code 103 = .ok (.if_icmp .lt 49, 3) := by decide +kernel
theorem d5_106 : decode prog_33_method_9_code 106 = .ok (.iload_n 2, 1) := by decide +kernel
theorem d5_107 : decode prog_33_method_9_code 107 = .ok (.sipush 244, 3) := by decide +kernel
theorem d5_110 : decode prog_33_method_9_code 110 = .ok (.if_icmp .gt 42, 3) := by decide +kernel
theorem d5_113 : decode prog_33_method_9_code 113 = .ok (.iconst 4, 1) := by decide +kernel
theorem d5_114 : decode prog_33_method_9_code 114 = .ok (.istore_n 3, 1) := by decide +kernel
theorem d5_115 : decode prog_33_method_9_code 115 = .ok (.iload_n 2, 1) := by decide +kernel
theorem d5_116 : decode prog_33_method_9_code 116 = .ok (.sipush 240, 3) := by decide +kernel
theorem d5_119 : decode prog_33_method_9_code 119 = .ok (.if_icmp .ne 9, 3) := by decide +kernel
theorem d5_122 : decode prog_33_method_9_code 122 = .ok (.sipush 144, 3) := by decide +kernel
theorem d5_125 : decode prog_33_method_9_code 125 = .ok (.goto 5, 3) := by decide +kernel
theorem d5_128 : decode prog_33_method_9_code 128 = .ok (.iload 4, 2) := by decide +kernel
theorem d5_130 : decode prog_33_method_9_code 130 = .ok (.istore 4, 2) := by decide +kernel
theorem d5_132 : decode prog_33_method_9_code 132 = .ok (.iload_n 2, 1) := by decide +kernel
theorem d5_133 : decode prog_33_method_9_code 133 = .ok (.sipush 244, 3) := by decide +kernel
theorem d5_136 : decode prog_33_method_9_code 136 = .ok (.if_icmp .ne 9, 3) := by decide +kernel
theorem d5_139 : decode prog_33_method_9_code 139 = .ok (.sipush 143, 3) := by decide +kernel
theorem d5_142 : decode prog_33_method_9_code 142 = .ok (.goto 5, 3) := by decide +kernel
theorem d5_145 : decode prog_33_method_9_code 145 = .ok (.iload 5, 2) := by decide +kernel
theorem d5_147 : decode prog_33_method_9_code 147 = .ok (.istore 5, 2) := by decide +kernel
theorem d5_149 : decode prog_33_method_9_code 149 = .ok (.goto 5, 3) := by decide +kernel
theorem d5_152 : decode prog_33_method_9_code 152 = .ok (.iconst 0, 1) := by decide +kernel
theorem d5_153 : decode prog_33_method_9_code 153 = .ok (.ireturn, 1) := by decide +kernel
theorem d5_154 : decode prog_33_method_9_code 154 = .ok (.iload_n 1, 1) := by decide +kernel
theorem d5_155 : decode prog_33_method_9_code 155 = .ok (.iload_n 3, 1) := by decide +kernel
theorem d5_156 : decode prog_33_method_9_code 156 = .ok (.iadd, 1) := by decide +kernel
theorem d5_157 : decode prog_33_method_9_code 157 = .ok (.aload_n 0, 1) := by decide +kernel
theorem d5_158 : decode prog_33_method_9_code 158 = .ok (.arraylength, 1) := by decide +kernel
theorem d5_159 : decode prog_33_method_9_code 159 = .ok (.if_icmp .le 5, 3) := by decide +kernel
theorem d5_162 : decode prog_33_method_9_code 162 = .ok (.iconst 0, 1) := by decide +kernel
theorem d5_163 : decode prog_33_method_9_code 163 = .ok (.ireturn, 1) := by decide +kernel
theorem d5_164 : decode prog_33_method_9_code 164 = .ok (.aload_n 0, 1) := by decide +kernel
theorem d5_165 : decode prog_33_method_9_code 165 = .ok (.iload_n 1, 1) := by decide +kernel
theorem d5_166 : decode prog_33_method_9_code 166 = .ok (.iconst 1, 1) := by decide +kernel
theorem d5_167 : decode prog_33_method_9_code 167 = .ok (.iadd, 1) := by decide +kernel
theorem d5_168 : decode prog_33_method_9_code 168 = .ok (.baload, 1) := by decide +kernel
theorem d5_169 : decode prog_33_method_9_code 169 = .ok (.sipush 255, 3) := by decide +kernel
theorem d5_172 : decode prog_33_method_9_code 172 = .ok (.iand, 1) := by decide +kernel
theorem d5_173 : decode prog_33_method_9_code 173 = .ok (.istore 6, 2) := by decide +kernel
theorem d5_175 : decode prog_33_method_9_code 175 = .ok (.iload 6, 2) := by decide +kernel
theorem d5_177 : decode prog_33_method_9_code 177 = .ok (.iload 4, 2) := by decide +kernel
theorem d5_179 : decode prog_33_method_9_code 179 = .ok (.if_icmp .lt 10, 3) := by decide +kernel
theorem d5_182 : decode prog_33_method_9_code 182 = .ok (.iload 6, 2) := by decide +kernel
theorem d5_184 : decode prog_33_method_9_code 184 = .ok (.iload 5, 2) := by decide +kernel
theorem d5_186 : decode prog_33_method_9_code 186 = .ok (.if_icmp .le 5, 3) := by decide +kernel
theorem d5_189 : decode prog_33_method_9_code 189 = .ok (.iconst 0, 1) := by decide +kernel
theorem d5_190 : decode prog_33_method_9_code 190 = .ok (.ireturn, 1) := by decide +kernel
theorem d5_191 : decode prog_33_method_9_code 191 = .ok (.iload_n 1, 1) := by decide +kernel
theorem d5_192 : decode prog_33_method_9_code 192 = .ok (.iconst 2, 1) := by decide +kernel
theorem d5_193 : decode prog_33_method_9_code 193 = .ok (.iadd, 1) := by decide +kernel
theorem d5_194 : decode prog_33_method_9_code 194 = .ok (.istore 7, 2) := by decide +kernel
theorem d5_196 : decode prog_33_method_9_code 196 = .ok (.iload 7, 2) := by decide +kernel
theorem d5_198 : decode prog_33_method_9_code 198 = .ok (.iload_n 1, 1) := by decide +kernel
theorem d5_199 : decode prog_33_method_9_code 199 = .ok (.iload_n 3, 1) := by decide +kernel
theorem d5_200 : decode prog_33_method_9_code 200 = .ok (.iadd, 1) := by decide +kernel
theorem d5_201 : decode prog_33_method_9_code 201 = .ok (.if_icmp .ge 25, 3) := by decide +kernel
theorem d5_204 : decode prog_33_method_9_code 204 = .ok (.aload_n 0, 1) := by decide +kernel
theorem d5_205 : decode prog_33_method_9_code 205 = .ok (.iload 7, 2) := by decide +kernel
theorem d5_207 : decode prog_33_method_9_code 207 = .ok (.baload, 1) := by decide +kernel
theorem d5_208 : decode prog_33_method_9_code 208 = .ok (.sipush 192, 3) := by decide +kernel
theorem d5_211 : decode prog_33_method_9_code 211 = .ok (.iand, 1) := by decide +kernel
theorem d5_212 : decode prog_33_method_9_code 212 = .ok (.sipush 128, 3) := by decide +kernel
theorem d5_215 : decode prog_33_method_9_code 215 = .ok (.if_icmp .eq 5, 3) := by decide +kernel
theorem d5_218 : decode prog_33_method_9_code 218 = .ok (.iconst 0, 1) := by decide +kernel
theorem d5_219 : decode prog_33_method_9_code 219 = .ok (.ireturn, 1) := by decide +kernel
theorem d5_220 : decode prog_33_method_9_code 220 = .ok (.iinc 7 1, 3) := by decide +kernel
theorem d5_223 : decode prog_33_method_9_code 223 = .ok (.goto (-27), 3) := by decide +kernel
theorem d5_226 : decode prog_33_method_9_code 226 = .ok (.iload_n 3, 1) := by decide +kernel
theorem d5_227 : decode prog_33_method_9_code 227 = .ok (.ireturn, 1) := by decide +kernel
theorem pn_5 : plainName "com/example/ballast/ballast/model/Utf8Text" = true := by first | (simp [plainName, overriddenIn]; done) | decide +kernel
theorem ef_5 (m : MethodId) (a0 : Addr) (p1 : Int32) : entryFrame m #[(.ref a0), (.int p1)] 8 = mkF m 0 #[.val (.ref a0), .val (.int p1), .unset, .unset, .unset, .unset, .unset, .unset] [] := by first | (simp [entryFrame, mkF, argsToLocals, Value.category]; done) | rfl
def own_seq (bs : List Int32) (z : Int32) (p1 : Int32) : Int32 := (if ((bs.getD (p1).toNatClampNeg 0) &&& (255 : Int32)) < (128 : Int32) then (1 : Int32) else (if ((bs.getD (p1).toNatClampNeg 0) &&& (255 : Int32)) < (194 : Int32) then (0 : Int32) else (if (223 : Int32) < ((bs.getD (p1).toNatClampNeg 0) &&& (255 : Int32)) then (if (239 : Int32) < ((bs.getD (p1).toNatClampNeg 0) &&& (255 : Int32)) then (if (244 : Int32) < ((bs.getD (p1).toNatClampNeg 0) &&& (255 : Int32)) then (0 : Int32) else (if ((bs.getD (p1).toNatClampNeg 0) &&& (255 : Int32)) = (240 : Int32) then (if z < (p1 + (4 : Int32)) then (0 : Int32) else (if ((bs.getD ((p1 + (1 : Int32))).toNatClampNeg 0) &&& (255 : Int32)) < (144 : Int32) then (0 : Int32) else (if (191 : Int32) < ((bs.getD ((p1 + (1 : Int32))).toNatClampNeg 0) &&& (255 : Int32)) then (0 : Int32) else (if ((bs.getD ((p1 + (2 : Int32))).toNatClampNeg 0) &&& (192 : Int32)) = (128 : Int32) then (if ((bs.getD ((p1 + (3 : Int32))).toNatClampNeg 0) &&& (192 : Int32)) = (128 : Int32) then (4 : Int32) else (0 : Int32)) else (0 : Int32))))) else (if ((bs.getD (p1).toNatClampNeg 0) &&& (255 : Int32)) = (244 : Int32) then (if z < (p1 + (4 : Int32)) then (0 : Int32) else (if ((bs.getD ((p1 + (1 : Int32))).toNatClampNeg 0) &&& (255 : Int32)) < (128 : Int32) then (0 : Int32) else (if (143 : Int32) < ((bs.getD ((p1 + (1 : Int32))).toNatClampNeg 0) &&& (255 : Int32)) then (0 : Int32) else (if ((bs.getD ((p1 + (2 : Int32))).toNatClampNeg 0) &&& (192 : Int32)) = (128 : Int32) then (if ((bs.getD ((p1 + (3 : Int32))).toNatClampNeg 0) &&& (192 : Int32)) = (128 : Int32) then (4 : Int32) else (0 : Int32)) else (0 : Int32))))) else (if z < (p1 + (4 : Int32)) then (0 : Int32) else (if ((bs.getD ((p1 + (1 : Int32))).toNatClampNeg 0) &&& (255 : Int32)) < (128 : Int32) then (0 : Int32) else (if (191 : Int32) < ((bs.getD ((p1 + (1 : Int32))).toNatClampNeg 0) &&& (255 : Int32)) then (0 : Int32) else (if ((bs.getD ((p1 + (2 : Int32))).toNatClampNeg 0) &&& (192 : Int32)) = (128 : Int32) then (if ((bs.getD ((p1 + (3 : Int32))).toNatClampNeg 0) &&& (192 : Int32)) = (128 : Int32) then (4 : Int32) else (0 : Int32)) else (0 : Int32)))))))) else (if ((bs.getD (p1).toNatClampNeg 0) &&& (255 : Int32)) = (224 : Int32) then (if z < (p1 + (3 : Int32)) then (0 : Int32) else (if ((bs.getD ((p1 + (1 : Int32))).toNatClampNeg 0) &&& (255 : Int32)) < (160 : Int32) then (0 : Int32) else (if (191 : Int32) < ((bs.getD ((p1 + (1 : Int32))).toNatClampNeg 0) &&& (255 : Int32)) then (0 : Int32) else (if ((bs.getD ((p1 + (2 : Int32))).toNatClampNeg 0) &&& (192 : Int32)) = (128 : Int32) then (3 : Int32) else (0 : Int32))))) else (if ((bs.getD (p1).toNatClampNeg 0) &&& (255 : Int32)) = (237 : Int32) then (if z < (p1 + (3 : Int32)) then (0 : Int32) else (if ((bs.getD ((p1 + (1 : Int32))).toNatClampNeg 0) &&& (255 : Int32)) < (128 : Int32) then (0 : Int32) else (if (159 : Int32) < ((bs.getD ((p1 + (1 : Int32))).toNatClampNeg 0) &&& (255 : Int32)) then (0 : Int32) else (if ((bs.getD ((p1 + (2 : Int32))).toNatClampNeg 0) &&& (192 : Int32)) = (128 : Int32) then (3 : Int32) else (0 : Int32))))) else (if z < (p1 + (3 : Int32)) then (0 : Int32) else (if ((bs.getD ((p1 + (1 : Int32))).toNatClampNeg 0) &&& (255 : Int32)) < (128 : Int32) then (0 : Int32) else (if (191 : Int32) < ((bs.getD ((p1 + (1 : Int32))).toNatClampNeg 0) &&& (255 : Int32)) then (0 : Int32) else (if ((bs.getD ((p1 + (2 : Int32))).toNatClampNeg 0) &&& (192 : Int32)) = (128 : Int32) then (3 : Int32) else (0 : Int32)))))))) else (if z < (p1 + (2 : Int32)) then (0 : Int32) else (if ((bs.getD ((p1 + (1 : Int32))).toNatClampNeg 0) &&& (255 : Int32)) < (128 : Int32) then (0 : Int32) else (if (191 : Int32) < ((bs.getD ((p1 + (1 : Int32))).toNatClampNeg 0) &&& (255 : Int32)) then (0 : Int32) else (2 : Int32)))))))
def Q5 (Z : State) (a0 : Addr) (p1 : Int32) (kk : ClassId) (z : Int32) (bs : List Int32) (h0 : Heap) (n0 : Nat) (v : Option Value) (h : Heap) (L : List Loc) : Prop := v = some (.int (own_seq bs z p1)) ∧ Fr n0 L ∧ h = h0
set_option maxRecDepth 65536 in
set_option maxHeartbeats 40000000 in
theorem rm5 (l : Launch) (Z : State) (av0 : Array Value) (hw : ∀ d ∈ tables_1, d.before av0 Z = true) (ws : List Jvm.Cond) (a0 : Addr) (p1 : Int32) (kk : ClassId) (z : Int32) (bs : List Int32) (h0 : Heap) (n0 : Nat) (Z0 : n0 ≤ h0.size) (V0 : Arv Z h0 a0 kk .byte z (own_vs bs) (.int (0 : Int32))) (hp : ¬ p1 < (0 : Int32)) (hpz : p1 < z) (hz : z < (9 : Int32)) :
    MetFree l (⟨"com/example/ballast/ballast/model/Utf8Text", "sequenceLength", "([BI)I"⟩ : MethodName) (head1 (Jvm.Cond.code (⟨"com/example/ballast/ballast/model/Utf8Text", "sequenceLength", "([BI)I"⟩ : MethodName) prog_33_method_9_code 8 (some .int) :: ws) ({ frames := 0, cells := 0, slots := 0, locals := 0 } : Room)) (fun a U => a = #[(.ref a0), (.int p1)] ∧ Z.Warmed39 U.vm ∧ U.heap = h0) (fun _ _ _ _ _ => True) (fun _ U o U' => ∃ v L, o = .returned v ∧ Q5 Z a0 p1 kk z bs h0 n0 v U'.heap L ∧ FrameEnd U o U' L ({ frames := 0, cells := 0, slots := 0, locals := 0 } : Room).cells ({ frames := 0, cells := 0, slots := 0, locals := 0 } : Room).slots) := by
  refine MetFree.of_bodySF (plainFor_of_name pn_5) hisR ?_
  intro p e s m args below meth c s₁ Bd hml0 hP hK
  obtain ⟨rfl, hZ, hh⟩ := hP
  have hx := Bd.exec
  have hby := Bd.bytes
  have hml : c.maxLocals = 8 := hml0
  have hown : s.vm.findClass "com/example/ballast/ballast/model/Utf8Text" = some m.cls := findClass_of_methodNamed Bd.named
  have hnm := (name_of_methodNamed Bd.named Bd.method).1
  have X0 : Stand p l e ({ frames := 0, cells := 0, slots := 0, locals := 0 } : Room) s m #[(.ref a0), (.int p1)] below meth c s₁ [] 0 0 := Stand.of_body Bd
  have e0 : s₁.heap = h0 := by rw [← hh, Bd.state]; rfl
  have N0 := Fr.nil n0
  have K0 : Keep h0 h0 [] := Keep.refl h0 []
  refine own_go (B := s₁.setTop (mkF m 0 #[.val (.ref a0), .val (.int p1), .unset, .unset, .unset, .unset, .unset, .unset] [])) (fun t k => castTop (ef_5 m a0 p1) k) ?_
  refine own_go (B := s₁.setTop (mkF m 2 #[.val (.ref a0), .val (.int p1), .unset, .unset, .unset, .unset, .unset, .unset] [(.int p1), (.ref a0)])) (fun t k => ?_) ?_
  · show Steps p.tables e below (s₁.setTop (mkF m 0 #[.val (.ref a0), .val (.int p1), .unset, .unset, .unset, .unset, .unset, .unset] [])) _
    refine XS.aloadN X0.here hx rfl (hb hby d5_0) rfl rfl ?_
    show Steps p.tables e below (s₁.setTop (mkF m 1 #[.val (.ref a0), .val (.int p1), .unset, .unset, .unset, .unset, .unset, .unset] [(.ref a0)])) _
    refine XS.iloadN X0.here hx rfl (hb hby d5_1) rfl ?_
    exact k
  obtain ⟨cl_1, Ar_1, q_1, S_1, M_1, H_1, G_1⟩ := id V0
  have hin_1 : ¬ (p1 < 0 ∨ cl_1.slots.size ≤ (p1).toNatClampNeg) := inb_of S_1 ⟨hp, hpz⟩
  have hat_1 : cl_1.slots[(p1).toNatClampNeg]? = some (.int (bs.getD (p1).toNatClampNeg 0)) := H_1.at hin_1 (own_map bs _)
  refine own_go (B := s₁.setTop (mkF m 3 #[.val (.ref a0), .val (.int p1), .unset, .unset, .unset, .unset, .unset, .unset] [(.int (bs.getD (p1).toNatClampNeg 0))])) (fun t k => X0.baloadBytes hx (j := p1) (v := (.int (bs.getD (p1).toNatClampNeg 0))) (by rw [(e0 : _ = _)]; exact Ar_1.1) (State.isArrayOf_alike hZ.alike Ar_1.2.1) Ar_1.2.2 hin_1 hat_1 (g := (mkF m 2 #[.val (.ref a0), .val (.int p1), .unset, .unset, .unset, .unset, .unset, .unset] [(.int p1), (.ref a0)])) rfl rfl (hb hby d5_2) t k) ?_
  refine own_go (B := s₁.setTop (mkF m 12 #[.val (.ref a0), .val (.int p1), .val (.int ((bs.getD (p1).toNatClampNeg 0) &&& (255 : Int32))), .unset, .unset, .unset, .unset, .unset] [(.int (128 : Int32)), (.int ((bs.getD (p1).toNatClampNeg 0) &&& (255 : Int32)))])) (fun t k => ?_) ?_
  · show Steps p.tables e below (s₁.setTop (mkF m 3 #[.val (.ref a0), .val (.int p1), .unset, .unset, .unset, .unset, .unset, .unset] [(.int (bs.getD (p1).toNatClampNeg 0))])) _
    refine XS.sipush X0.here hx rfl (hb hby d5_3) ?_
    show Steps p.tables e below (s₁.setTop (mkF m 6 #[.val (.ref a0), .val (.int p1), .unset, .unset, .unset, .unset, .unset, .unset] [(.int (255 : Int32)), (.int (bs.getD (p1).toNatClampNeg 0))])) _
    refine XS.iand X0.here hx rfl (hb hby d5_6) rfl ?_
    show Steps p.tables e below (s₁.setTop (mkF m 7 #[.val (.ref a0), .val (.int p1), .unset, .unset, .unset, .unset, .unset, .unset] [(.int ((bs.getD (p1).toNatClampNeg 0) &&& (255 : Int32)))])) _
    refine XS.istoreN X0.here hx rfl (hb hby d5_7) rfl (l' := #[.val (.ref a0), .val (.int p1), .val (.int ((bs.getD (p1).toNatClampNeg 0) &&& (255 : Int32))), .unset, .unset, .unset, .unset, .unset]) rfl ?_
    show Steps p.tables e below (s₁.setTop (mkF m 8 #[.val (.ref a0), .val (.int p1), .val (.int ((bs.getD (p1).toNatClampNeg 0) &&& (255 : Int32))), .unset, .unset, .unset, .unset, .unset] [])) _
    refine XS.iloadN X0.here hx rfl (hb hby d5_8) rfl ?_
    show Steps p.tables e below (s₁.setTop (mkF m 9 #[.val (.ref a0), .val (.int p1), .val (.int ((bs.getD (p1).toNatClampNeg 0) &&& (255 : Int32))), .unset, .unset, .unset, .unset, .unset] [(.int ((bs.getD (p1).toNatClampNeg 0) &&& (255 : Int32)))])) _
    refine XS.sipush X0.here hx rfl (hb hby d5_9) ?_
    exact k
  by_cases hc12 : ((bs.getD (p1).toNatClampNeg 0) &&& (255 : Int32)) < (128 : Int32)
  · refine own_go (B := s₁.setTop (mkF m 15 #[.val (.ref a0), .val (.int p1), .val (.int ((bs.getD (p1).toNatClampNeg 0) &&& (255 : Int32))), .unset, .unset, .unset, .unset, .unset] [])) (fun t k => ?_) ?_
    · show Steps p.tables e below (s₁.setTop (mkF m 12 #[.val (.ref a0), .val (.int p1), .val (.int ((bs.getD (p1).toNatClampNeg 0) &&& (255 : Int32))), .unset, .unset, .unset, .unset, .unset] [(.int (128 : Int32)), (.int ((bs.getD (p1).toNatClampNeg 0) &&& (255 : Int32)))])) _
      refine XS.icmpNo X0.here hx rfl (hb hby d5_12) rfl (tlt hc12).2.1 ?_
      exact k
    refine own_go (B := s₁.setTop (mkF m 16 #[.val (.ref a0), .val (.int p1), .val (.int ((bs.getD (p1).toNatClampNeg 0) &&& (255 : Int32))), .unset, .unset, .unset, .unset, .unset] [(.int (1 : Int32))])) (fun t k => ?_) ?_
    · show Steps p.tables e below (s₁.setTop (mkF m 15 #[.val (.ref a0), .val (.int p1), .val (.int ((bs.getD (p1).toNatClampNeg 0) &&& (255 : Int32))), .unset, .unset, .unset, .unset, .unset] [])) _
      refine XS.iconst X0.here hx rfl (hb hby d5_15) ?_
      exact k
    obtain ⟨fs, hr, hrun, hended, hW, hsame⟩ := X0.leave (v := some (.int (1 : Int32))) (fun h => by rw [Bd.returns] at h; cases h)
    refine ⟨_, _, ?_, hrun, hended, _, _, rfl, ?_, ⟨_, rfl⟩, hW, hsame.mono (by decide) (by decide)⟩
    · show Steps p.tables e below (s₁.setTop (mkF m 16 #[.val (.ref a0), .val (.int p1), .val (.int ((bs.getD (p1).toNatClampNeg 0) &&& (255 : Int32))), .unset, .unset, .unset, .unset, .unset] [(.int (1 : Int32))])) _
      exact retI X0 hx Bd.returns (hb hby d5_16) hr
    · show Q5 Z a0 p1 kk z bs h0 n0 _ s₁.heap _
      rw [e0]
      exact ⟨by simp only [own_seq, if_pos hpz, if_pos hz, if_pos hc12], N0, rfl⟩
  · refine own_go (B := s₁.setTop (mkF m 17 #[.val (.ref a0), .val (.int p1), .val (.int ((bs.getD (p1).toNatClampNeg 0) &&& (255 : Int32))), .unset, .unset, .unset, .unset, .unset] [])) (fun t k => ?_) ?_
    · show Steps p.tables e below (s₁.setTop (mkF m 12 #[.val (.ref a0), .val (.int p1), .val (.int ((bs.getD (p1).toNatClampNeg 0) &&& (255 : Int32))), .unset, .unset, .unset, .unset, .unset] [(.int (128 : Int32)), (.int ((bs.getD (p1).toNatClampNeg 0) &&& (255 : Int32)))])) _
      refine XS.icmpYes X0.here hx rfl (pc0 := 12) (pc' := 17) rfl (hb hby d5_12) rfl (flt hc12).2.1 (by decide) (by decide) ?_
      exact k
    refine own_go (B := s₁.setTop (mkF m 31 #[.val (.ref a0), .val (.int p1), .val (.int ((bs.getD (p1).toNatClampNeg 0) &&& (255 : Int32))), .unset, .val (.int (128 : Int32)), .val (.int (191 : Int32)), .unset, .unset] [(.int (194 : Int32)), (.int ((bs.getD (p1).toNatClampNeg 0) &&& (255 : Int32)))])) (fun t k => ?_) ?_
    · show Steps p.tables e below (s₁.setTop (mkF m 17 #[.val (.ref a0), .val (.int p1), .val (.int ((bs.getD (p1).toNatClampNeg 0) &&& (255 : Int32))), .unset, .unset, .unset, .unset, .unset] [])) _
      refine XS.sipush X0.here hx rfl (hb hby d5_17) ?_
      show Steps p.tables e below (s₁.setTop (mkF m 20 #[.val (.ref a0), .val (.int p1), .val (.int ((bs.getD (p1).toNatClampNeg 0) &&& (255 : Int32))), .unset, .unset, .unset, .unset, .unset] [(.int (128 : Int32))])) _
      refine XS.istore X0.here hx rfl (hb hby d5_20) rfl (l' := #[.val (.ref a0), .val (.int p1), .val (.int ((bs.getD (p1).toNatClampNeg 0) &&& (255 : Int32))), .unset, .val (.int (128 : Int32)), .unset, .unset, .unset]) rfl ?_
      show Steps p.tables e below (s₁.setTop (mkF m 22 #[.val (.ref a0), .val (.int p1), .val (.int ((bs.getD (p1).toNatClampNeg 0) &&& (255 : Int32))), .unset, .val (.int (128 : Int32)), .unset, .unset, .unset] [])) _
      refine XS.sipush X0.here hx rfl (hb hby d5_22) ?_
      show Steps p.tables e below (s₁.setTop (mkF m 25 #[.val (.ref a0), .val (.int p1), .val (.int ((bs.getD (p1).toNatClampNeg 0) &&& (255 : Int32))), .unset, .val (.int (128 : Int32)), .unset, .unset, .unset] [(.int (191 : Int32))])) _
      refine XS.istore X0.here hx rfl (hb hby d5_25) rfl (l' := #[.val (.ref a0), .val (.int p1), .val (.int ((bs.getD (p1).toNatClampNeg 0) &&& (255 : Int32))), .unset, .val (.int (128 : Int32)), .val (.int (191 : Int32)), .unset, .unset]) rfl ?_
      show Steps p.tables e below (s₁.setTop (mkF m 27 #[.val (.ref a0), .val (.int p1), .val (.int ((bs.getD (p1).toNatClampNeg 0) &&& (255 : Int32))), .unset, .val (.int (128 : Int32)), .val (.int (191 : Int32)), .unset, .unset] [])) _
      refine XS.iloadN X0.here hx rfl (hb hby d5_27) rfl ?_
      show Steps p.tables e below (s₁.setTop (mkF m 28 #[.val (.ref a0), .val (.int p1), .val (.int ((bs.getD (p1).toNatClampNeg 0) &&& (255 : Int32))), .unset, .val (.int (128 : Int32)), .val (.int (191 : Int32)), .unset, .unset] [(.int ((bs.getD (p1).toNatClampNeg 0) &&& (255 : Int32)))])) _
      refine XS.sipush X0.here hx rfl (hb hby d5_28) ?_
      exact k
    by_cases hc31 : ((bs.getD (p1).toNatClampNeg 0) &&& (255 : Int32)) < (194 : Int32)
    · refine own_go (B := s₁.setTop (mkF m 46 #[.val (.ref a0), .val (.int p1), .val (.int ((bs.getD (p1).toNatClampNeg 0) &&& (255 : Int32))), .unset, .val (.int (128 : Int32)), .val (.int (191 : Int32)), .unset, .unset] [])) (fun t k => ?_) ?_
      · show Steps p.tables e below (s₁.setTop (mkF m 31 #[.val (.ref a0), .val (.int p1), .val (.int ((bs.getD (p1).toNatClampNeg 0) &&& (255 : Int32))), .unset, .val (.int (128 : Int32)), .val (.int (191 : Int32)), .unset, .unset] [(.int (194 : Int32)), (.int ((bs.getD (p1).toNatClampNeg 0) &&& (255 : Int32)))])) _
        refine XS.icmpYes X0.here hx rfl (pc0 := 31) (pc' := 46) rfl (hb hby d5_31) rfl (tlt hc31).1 (by decide) (by decide) ?_
        exact k
      refine own_go (B := s₁.setTop (mkF m 50 #[.val (.ref a0), .val (.int p1), .val (.int ((bs.getD (p1).toNatClampNeg 0) &&& (255 : Int32))), .unset, .val (.int (128 : Int32)), .val (.int (191 : Int32)), .unset, .unset] [(.int (224 : Int32)), (.int ((bs.getD (p1).toNatClampNeg 0) &&& (255 : Int32)))])) (fun t k => ?_) ?_
      · show Steps p.tables e below (s₁.setTop (mkF m 46 #[.val (.ref a0), .val (.int p1), .val (.int ((bs.getD (p1).toNatClampNeg 0) &&& (255 : Int32))), .unset, .val (.int (128 : Int32)), .val (.int (191 : Int32)), .unset, .unset] [])) _
        refine XS.iloadN X0.here hx rfl (hb hby d5_46) rfl ?_
        show Steps p.tables e below (s₁.setTop (mkF m 47 #[.val (.ref a0), .val (.int p1), .val (.int ((bs.getD (p1).toNatClampNeg 0) &&& (255 : Int32))), .unset, .val (.int (128 : Int32)), .val (.int (191 : Int32)), .unset, .unset] [(.int ((bs.getD (p1).toNatClampNeg 0) &&& (255 : Int32)))])) _
        refine XS.sipush X0.here hx rfl (hb hby d5_47) ?_
        exact k
      refine own_go (B := s₁.setTop (mkF m 99 #[.val (.ref a0), .val (.int p1), .val (.int ((bs.getD (p1).toNatClampNeg 0) &&& (255 : Int32))), .unset, .val (.int (128 : Int32)), .val (.int (191 : Int32)), .unset, .unset] [])) (fun t k => ?_) ?_
      · show Steps p.tables e below (s₁.setTop (mkF m 50 #[.val (.ref a0), .val (.int p1), .val (.int ((bs.getD (p1).toNatClampNeg 0) &&& (255 : Int32))), .unset, .val (.int (128 : Int32)), .val (.int (191 : Int32)), .unset, .unset] [(.int (224 : Int32)), (.int ((bs.getD (p1).toNatClampNeg 0) &&& (255 : Int32)))])) _
        refine XS.icmpYes X0.here hx rfl (pc0 := 50) (pc' := 99) rfl (hb hby d5_50) rfl (tlt (by have q0 := hc12; have q1 := hc31; simp only [own_i, own_eqi] at q0 q1 ⊢; have c0 : (128 : Int32).toInt = 128 := rfl; have c1 : (194 : Int32).toInt = 194 := rfl; have c2 : (224 : Int32).toInt = 224 := rfl; omega : ((bs.getD (p1).toNatClampNeg 0) &&& (255 : Int32)) < (224 : Int32))).1 (by decide) (by decide) ?_
        exact k
      refine own_go (B := s₁.setTop (mkF m 103 #[.val (.ref a0), .val (.int p1), .val (.int ((bs.getD (p1).toNatClampNeg 0) &&& (255 : Int32))), .unset, .val (.int (128 : Int32)), .val (.int (191 : Int32)), .unset, .unset] [(.int (240 : Int32)), (.int ((bs.getD (p1).toNatClampNeg 0) &&& (255 : Int32)))])) (fun t k => ?_) ?_
      · show Steps p.tables e below (s₁.setTop (mkF m 99 #[.val (.ref a0), .val (.int p1), .val (.int ((bs.getD (p1).toNatClampNeg 0) &&& (255 : Int32))), .unset, .val (.int (128 : Int32)), .val (.int (191 : Int32)), .unset, .unset] [])) _
        refine XS.iloadN X0.here hx rfl (hb hby d5_99) rfl ?_
        show Steps p.tables e below (s₁.setTop (mkF m 100 #[.val (.ref a0), .val (.int p1), .val (.int ((bs.getD (p1).toNatClampNeg 0) &&& (255 : Int32))), .unset, .val (.int (128 : Int32)), .val (.int (191 : Int32)), .unset, .unset] [(.int ((bs.getD (p1).toNatClampNeg 0) &&& (255 : Int32)))])) _
        refine XS.sipush X0.here hx rfl (hb hby d5_100) ?_
        exact k
      refine own_go (B := s₁.setTop (mkF m 152 #[.val (.ref a0), .val (.int p1), .val (.int ((bs.getD (p1).toNatClampNeg 0) &&& (255 : Int32))), .unset, .val (.int (128 : Int32)), .val (.int (191 : Int32)), .unset, .unset] [])) (fun t k => ?_) ?_
      · show Steps p.tables e below (s₁.setTop (mkF m 103 #[.val (.ref a0), .val (.int p1), .val (.int ((bs.getD (p1).toNatClampNeg 0) &&& (255 : Int32))), .unset, .val (.int (128 : Int32)), .val (.int (191 : Int32)), .unset, .unset] [(.int (240 : Int32)), (.int ((bs.getD (p1).toNatClampNeg 0) &&& (255 : Int32)))])) _
        refine XS.icmpYes X0.here hx rfl (pc0 := 103) (pc' := 152) rfl (hb hby d5_103) rfl (tlt (by have q0 := hc12; have q1 := hc31; simp only [own_i, own_eqi] at q0 q1 ⊢; have c0 : (128 : Int32).toInt = 128 := rfl; have c1 : (194 : Int32).toInt = 194 := rfl; have c2 : (240 : Int32).toInt = 240 := rfl; omega : ((bs.getD (p1).toNatClampNeg 0) &&& (255 : Int32)) < (240 : Int32))).1 (by decide) (by decide) ?_
        exact k
      refine own_go (B := s₁.setTop (mkF m 153 #[.val (.ref a0), .val (.int p1), .val (.int ((bs.getD (p1).toNatClampNeg 0) &&& (255 : Int32))), .unset, .val (.int (128 : Int32)), .val (.int (191 : Int32)), .unset, .unset] [(.int (0 : Int32))])) (fun t k => ?_) ?_
      · show Steps p.tables e below (s₁.setTop (mkF m 152 #[.val (.ref a0), .val (.int p1), .val (.int ((bs.getD (p1).toNatClampNeg 0) &&& (255 : Int32))), .unset, .val (.int (128 : Int32)), .val (.int (191 : Int32)), .unset, .unset] [])) _
        refine XS.iconst X0.here hx rfl (hb hby d5_152) ?_
        exact k
      obtain ⟨fs, hr, hrun, hended, hW, hsame⟩ := X0.leave (v := some (.int (0 : Int32))) (fun h => by rw [Bd.returns] at h; cases h)
      refine ⟨_, _, ?_, hrun, hended, _, _, rfl, ?_, ⟨_, rfl⟩, hW, hsame.mono (by decide) (by decide)⟩
      · show Steps p.tables e below (s₁.setTop (mkF m 153 #[.val (.ref a0), .val (.int p1), .val (.int ((bs.getD (p1).toNatClampNeg 0) &&& (255 : Int32))), .unset, .val (.int (128 : Int32)), .val (.int (191 : Int32)), .unset, .unset] [(.int (0 : Int32))])) _
        exact retI X0 hx Bd.returns (hb hby d5_153) hr
      · show Q5 Z a0 p1 kk z bs h0 n0 _ s₁.heap _
        rw [e0]
        exact ⟨by simp only [own_seq, if_pos hpz, if_pos hz, if_neg hc12, if_pos hc31], N0, rfl⟩
    · refine own_go (B := s₁.setTop (mkF m 34 #[.val (.ref a0), .val (.int p1), .val (.int ((bs.getD (p1).toNatClampNeg 0) &&& (255 : Int32))), .unset, .val (.int (128 : Int32)), .val (.int (191 : Int32)), .unset, .unset] [])) (fun t k => ?_) ?_
      · show Steps p.tables e below (s₁.setTop (mkF m 31 #[.val (.ref a0), .val (.int p1), .val (.int ((bs.getD (p1).toNatClampNeg 0) &&& (255 : Int32))), .unset, .val (.int (128 : Int32)), .val (.int (191 : Int32)), .unset, .unset] [(.int (194 : Int32)), (.int ((bs.getD (p1).toNatClampNeg 0) &&& (255 : Int32)))])) _
        refine XS.icmpNo X0.here hx rfl (hb hby d5_31) rfl (flt hc31).1 ?_
        exact k
      refine own_go (B := s₁.setTop (mkF m 38 #[.val (.ref a0), .val (.int p1), .val (.int ((bs.getD (p1).toNatClampNeg 0) &&& (255 : Int32))), .unset, .val (.int (128 : Int32)), .val (.int (191 : Int32)), .unset, .unset] [(.int (223 : Int32)), (.int ((bs.getD (p1).toNatClampNeg 0) &&& (255 : Int32)))])) (fun t k => ?_) ?_
      · show Steps p.tables e below (s₁.setTop (mkF m 34 #[.val (.ref a0), .val (.int p1), .val (.int ((bs.getD (p1).toNatClampNeg 0) &&& (255 : Int32))), .unset, .val (.int (128 : Int32)), .val (.int (191 : Int32)), .unset, .unset] [])) _
        refine XS.iloadN X0.here hx rfl (hb hby d5_34) rfl ?_
        show Steps p.tables e below (s₁.setTop (mkF m 35 #[.val (.ref a0), .val (.int p1), .val (.int ((bs.getD (p1).toNatClampNeg 0) &&& (255 : Int32))), .unset, .val (.int (128 : Int32)), .val (.int (191 : Int32)), .unset, .unset] [(.int ((bs.getD (p1).toNatClampNeg 0) &&& (255 : Int32)))])) _
        refine XS.sipush X0.here hx rfl (hb hby d5_35) ?_
        exact k
      by_cases hc38 : (223 : Int32) < ((bs.getD (p1).toNatClampNeg 0) &&& (255 : Int32))
      · refine own_go (B := s₁.setTop (mkF m 46 #[.val (.ref a0), .val (.int p1), .val (.int ((bs.getD (p1).toNatClampNeg 0) &&& (255 : Int32))), .unset, .val (.int (128 : Int32)), .val (.int (191 : Int32)), .unset, .unset] [])) (fun t k => ?_) ?_
        · show Steps p.tables e below (s₁.setTop (mkF m 38 #[.val (.ref a0), .val (.int p1), .val (.int ((bs.getD (p1).toNatClampNeg 0) &&& (255 : Int32))), .unset, .val (.int (128 : Int32)), .val (.int (191 : Int32)), .unset, .unset] [(.int (223 : Int32)), (.int ((bs.getD (p1).toNatClampNeg 0) &&& (255 : Int32)))])) _
          refine XS.icmpYes X0.here hx rfl (pc0 := 38) (pc' := 46) rfl (hb hby d5_38) rfl (tlt hc38).2.2.1 (by decide) (by decide) ?_
          exact k
        refine own_go (B := s₁.setTop (mkF m 50 #[.val (.ref a0), .val (.int p1), .val (.int ((bs.getD (p1).toNatClampNeg 0) &&& (255 : Int32))), .unset, .val (.int (128 : Int32)), .val (.int (191 : Int32)), .unset, .unset] [(.int (224 : Int32)), (.int ((bs.getD (p1).toNatClampNeg 0) &&& (255 : Int32)))])) (fun t k => ?_) ?_
        · show Steps p.tables e below (s₁.setTop (mkF m 46 #[.val (.ref a0), .val (.int p1), .val (.int ((bs.getD (p1).toNatClampNeg 0) &&& (255 : Int32))), .unset, .val (.int (128 : Int32)), .val (.int (191 : Int32)), .unset, .unset] [])) _
          refine XS.iloadN X0.here hx rfl (hb hby d5_46) rfl ?_
          show Steps p.tables e below (s₁.setTop (mkF m 47 #[.val (.ref a0), .val (.int p1), .val (.int ((bs.getD (p1).toNatClampNeg 0) &&& (255 : Int32))), .unset, .val (.int (128 : Int32)), .val (.int (191 : Int32)), .unset, .unset] [(.int ((bs.getD (p1).toNatClampNeg 0) &&& (255 : Int32)))])) _
          refine XS.sipush X0.here hx rfl (hb hby d5_47) ?_
          exact k
        refine own_go (B := s₁.setTop (mkF m 53 #[.val (.ref a0), .val (.int p1), .val (.int ((bs.getD (p1).toNatClampNeg 0) &&& (255 : Int32))), .unset, .val (.int (128 : Int32)), .val (.int (191 : Int32)), .unset, .unset] [])) (fun t k => ?_) ?_
        · show Steps p.tables e below (s₁.setTop (mkF m 50 #[.val (.ref a0), .val (.int p1), .val (.int ((bs.getD (p1).toNatClampNeg 0) &&& (255 : Int32))), .unset, .val (.int (128 : Int32)), .val (.int (191 : Int32)), .unset, .unset] [(.int (224 : Int32)), (.int ((bs.getD (p1).toNatClampNeg 0) &&& (255 : Int32)))])) _
          refine XS.icmpNo X0.here hx rfl (hb hby d5_50) rfl (flt (by have q0 := hc12; have q1 := hc31; have q2 := hc38; simp only [own_i, own_eqi] at q0 q1 q2 ⊢; have c0 : (128 : Int32).toInt = 128 := rfl; have c1 : (194 : Int32).toInt = 194 := rfl; have c2 : (223 : Int32).toInt = 223 := rfl; have c3 : (224 : Int32).toInt = 224 := rfl; omega : ¬ (((bs.getD (p1).toNatClampNeg 0) &&& (255 : Int32)) < (224 : Int32)))).1 ?_
          exact k
        refine own_go (B := s₁.setTop (mkF m 57 #[.val (.ref a0), .val (.int p1), .val (.int ((bs.getD (p1).toNatClampNeg 0) &&& (255 : Int32))), .unset, .val (.int (128 : Int32)), .val (.int (191 : Int32)), .unset, .unset] [(.int (239 : Int32)), (.int ((bs.getD (p1).toNatClampNeg 0) &&& (255 : Int32)))])) (fun t k => ?_) ?_
        · show Steps p.tables e below (s₁.setTop (mkF m 53 #[.val (.ref a0), .val (.int p1), .val (.int ((bs.getD (p1).toNatClampNeg 0) &&& (255 : Int32))), .unset, .val (.int (128 : Int32)), .val (.int (191 : Int32)), .unset, .unset] [])) _
          refine XS.iloadN X0.here hx rfl (hb hby d5_53) rfl ?_
          show Steps p.tables e below (s₁.setTop (mkF m 54 #[.val (.ref a0), .val (.int p1), .val (.int ((bs.getD (p1).toNatClampNeg 0) &&& (255 : Int32))), .unset, .val (.int (128 : Int32)), .val (.int (191 : Int32)), .unset, .unset] [(.int ((bs.getD (p1).toNatClampNeg 0) &&& (255 : Int32)))])) _
          refine XS.sipush X0.here hx rfl (hb hby d5_54) ?_
          exact k
        by_cases hc57 : (239 : Int32) < ((bs.getD (p1).toNatClampNeg 0) &&& (255 : Int32))
        · refine own_go (B := s₁.setTop (mkF m 99 #[.val (.ref a0), .val (.int p1), .val (.int ((bs.getD (p1).toNatClampNeg 0) &&& (255 : Int32))), .unset, .val (.int (128 : Int32)), .val (.int (191 : Int32)), .unset, .unset] [])) (fun t k => ?_) ?_
          · show Steps p.tables e below (s₁.setTop (mkF m 57 #[.val (.ref a0), .val (.int p1), .val (.int ((bs.getD (p1).toNatClampNeg 0) &&& (255 : Int32))), .unset, .val (.int (128 : Int32)), .val (.int (191 : Int32)), .unset, .unset] [(.int (239 : Int32)), (.int ((bs.getD (p1).toNatClampNeg 0) &&& (255 : Int32)))])) _
            refine XS.icmpYes X0.here hx rfl (pc0 := 57) (pc' := 99) rfl (hb hby d5_57) rfl (tlt hc57).2.2.1 (by decide) (by decide) ?_
            exact k
          refine own_go (B := s₁.setTop (mkF m 103 #[.val (.ref a0), .val (.int p1), .val (.int ((bs.getD (p1).toNatClampNeg 0) &&& (255 : Int32))), .unset, .val (.int (128 : Int32)), .val (.int (191 : Int32)), .unset, .unset] [(.int (240 : Int32)), (.int ((bs.getD (p1).toNatClampNeg 0) &&& (255 : Int32)))])) (fun t k => ?_) ?_
          · show Steps p.tables e below (s₁.setTop (mkF m 99 #[.val (.ref a0), .val (.int p1), .val (.int ((bs.getD (p1).toNatClampNeg 0) &&& (255 : Int32))), .unset, .val (.int (128 : Int32)), .val (.int (191 : Int32)), .unset, .unset] [])) _
            refine XS.iloadN X0.here hx rfl (hb hby d5_99) rfl ?_
            show Steps p.tables e below (s₁.setTop (mkF m 100 #[.val (.ref a0), .val (.int p1), .val (.int ((bs.getD (p1).toNatClampNeg 0) &&& (255 : Int32))), .unset, .val (.int (128 : Int32)), .val (.int (191 : Int32)), .unset, .unset] [(.int ((bs.getD (p1).toNatClampNeg 0) &&& (255 : Int32)))])) _
            refine XS.sipush X0.here hx rfl (hb hby d5_100) ?_
            exact k
          refine own_go (B := s₁.setTop (mkF m 106 #[.val (.ref a0), .val (.int p1), .val (.int ((bs.getD (p1).toNatClampNeg 0) &&& (255 : Int32))), .unset, .val (.int (128 : Int32)), .val (.int (191 : Int32)), .unset, .unset] [])) (fun t k => ?_) ?_
          · show Steps p.tables e below (s₁.setTop (mkF m 103 #[.val (.ref a0), .val (.int p1), .val (.int ((bs.getD (p1).toNatClampNeg 0) &&& (255 : Int32))), .unset, .val (.int (128 : Int32)), .val (.int (191 : Int32)), .unset, .unset] [(.int (240 : Int32)), (.int ((bs.getD (p1).toNatClampNeg 0) &&& (255 : Int32)))])) _
            refine XS.icmpNo X0.here hx rfl (hb hby d5_103) rfl (flt (by have q0 := hc12; have q1 := hc31; have q2 := hc38; have q3 := hc57; simp only [own_i, own_eqi] at q0 q1 q2 q3 ⊢; have c0 : (128 : Int32).toInt = 128 := rfl; have c1 : (194 : Int32).toInt = 194 := rfl; have c2 : (223 : Int32).toInt = 223 := rfl; have c3 : (239 : Int32).toInt = 239 := rfl; have c4 : (240 : Int32).toInt = 240 := rfl; omega : ¬ (((bs.getD (p1).toNatClampNeg 0) &&& (255 : Int32)) < (240 : Int32)))).1 ?_
            exact k
          refine own_go (B := s₁.setTop (mkF m 110 #[.val (.ref a0), .val (.int p1), .val (.int ((bs.getD (p1).toNatClampNeg 0) &&& (255 : Int32))), .unset, .val (.int (128 : Int32)), .val (.int (191 : Int32)), .unset, .unset] [(.int (244 : Int32)), (.int ((bs.getD (p1).toNatClampNeg 0) &&& (255 : Int32)))])) (fun t k => ?_) ?_
          · show Steps p.tables e below (s₁.setTop (mkF m 106 #[.val (.ref a0), .val (.int p1), .val (.int ((bs.getD (p1).toNatClampNeg 0) &&& (255 : Int32))), .unset, .val (.int (128 : Int32)), .val (.int (191 : Int32)), .unset, .unset] [])) _
            refine XS.iloadN X0.here hx rfl (hb hby d5_106) rfl ?_
            show Steps p.tables e below (s₁.setTop (mkF m 107 #[.val (.ref a0), .val (.int p1), .val (.int ((bs.getD (p1).toNatClampNeg 0) &&& (255 : Int32))), .unset, .val (.int (128 : Int32)), .val (.int (191 : Int32)), .unset, .unset] [(.int ((bs.getD (p1).toNatClampNeg 0) &&& (255 : Int32)))])) _
            refine XS.sipush X0.here hx rfl (hb hby d5_107) ?_
            exact k
          by_cases hc110 : (244 : Int32) < ((bs.getD (p1).toNatClampNeg 0) &&& (255 : Int32))
          · refine own_go (B := s₁.setTop (mkF m 152 #[.val (.ref a0), .val (.int p1), .val (.int ((bs.getD (p1).toNatClampNeg 0) &&& (255 : Int32))), .unset, .val (.int (128 : Int32)), .val (.int (191 : Int32)), .unset, .unset] [])) (fun t k => ?_) ?_
            · show Steps p.tables e below (s₁.setTop (mkF m 110 #[.val (.ref a0), .val (.int p1), .val (.int ((bs.getD (p1).toNatClampNeg 0) &&& (255 : Int32))), .unset, .val (.int (128 : Int32)), .val (.int (191 : Int32)), .unset, .unset] [(.int (244 : Int32)), (.int ((bs.getD (p1).toNatClampNeg 0) &&& (255 : Int32)))])) _
              refine XS.icmpYes X0.here hx rfl (pc0 := 110) (pc' := 152) rfl (hb hby d5_110) rfl (tlt hc110).2.2.1 (by decide) (by decide) ?_
              exact k
            refine own_go (B := s₁.setTop (mkF m 153 #[.val (.ref a0), .val (.int p1), .val (.int ((bs.getD (p1).toNatClampNeg 0) &&& (255 : Int32))), .unset, .val (.int (128 : Int32)), .val (.int (191 : Int32)), .unset, .unset] [(.int (0 : Int32))])) (fun t k => ?_) ?_
            · show Steps p.tables e below (s₁.setTop (mkF m 152 #[.val (.ref a0), .val (.int p1), .val (.int ((bs.getD (p1).toNatClampNeg 0) &&& (255 : Int32))), .unset, .val (.int (128 : Int32)), .val (.int (191 : Int32)), .unset, .unset] [])) _
              refine XS.iconst X0.here hx rfl (hb hby d5_152) ?_
              exact k
            obtain ⟨fs, hr, hrun, hended, hW, hsame⟩ := X0.leave (v := some (.int (0 : Int32))) (fun h => by rw [Bd.returns] at h; cases h)
            refine ⟨_, _, ?_, hrun, hended, _, _, rfl, ?_, ⟨_, rfl⟩, hW, hsame.mono (by decide) (by decide)⟩
            · show Steps p.tables e below (s₁.setTop (mkF m 153 #[.val (.ref a0), .val (.int p1), .val (.int ((bs.getD (p1).toNatClampNeg 0) &&& (255 : Int32))), .unset, .val (.int (128 : Int32)), .val (.int (191 : Int32)), .unset, .unset] [(.int (0 : Int32))])) _
              exact retI X0 hx Bd.returns (hb hby d5_153) hr
            · show Q5 Z a0 p1 kk z bs h0 n0 _ s₁.heap _
              rw [e0]
              exact ⟨by simp only [own_seq, if_pos hpz, if_pos hz, if_neg hc12, if_neg hc31, if_pos hc38, if_pos hc57, if_pos hc110], N0, rfl⟩
          · refine own_go (B := s₁.setTop (mkF m 113 #[.val (.ref a0), .val (.int p1), .val (.int ((bs.getD (p1).toNatClampNeg 0) &&& (255 : Int32))), .unset, .val (.int (128 : Int32)), .val (.int (191 : Int32)), .unset, .unset] [])) (fun t k => ?_) ?_
            · show Steps p.tables e below (s₁.setTop (mkF m 110 #[.val (.ref a0), .val (.int p1), .val (.int ((bs.getD (p1).toNatClampNeg 0) &&& (255 : Int32))), .unset, .val (.int (128 : Int32)), .val (.int (191 : Int32)), .unset, .unset] [(.int (244 : Int32)), (.int ((bs.getD (p1).toNatClampNeg 0) &&& (255 : Int32)))])) _
              refine XS.icmpNo X0.here hx rfl (hb hby d5_110) rfl (flt hc110).2.2.1 ?_
              exact k
            refine own_go (B := s₁.setTop (mkF m 119 #[.val (.ref a0), .val (.int p1), .val (.int ((bs.getD (p1).toNatClampNeg 0) &&& (255 : Int32))), .val (.int (4 : Int32)), .val (.int (128 : Int32)), .val (.int (191 : Int32)), .unset, .unset] [(.int (240 : Int32)), (.int ((bs.getD (p1).toNatClampNeg 0) &&& (255 : Int32)))])) (fun t k => ?_) ?_
            · show Steps p.tables e below (s₁.setTop (mkF m 113 #[.val (.ref a0), .val (.int p1), .val (.int ((bs.getD (p1).toNatClampNeg 0) &&& (255 : Int32))), .unset, .val (.int (128 : Int32)), .val (.int (191 : Int32)), .unset, .unset] [])) _
              refine XS.iconst X0.here hx rfl (hb hby d5_113) ?_
              show Steps p.tables e below (s₁.setTop (mkF m 114 #[.val (.ref a0), .val (.int p1), .val (.int ((bs.getD (p1).toNatClampNeg 0) &&& (255 : Int32))), .unset, .val (.int (128 : Int32)), .val (.int (191 : Int32)), .unset, .unset] [(.int (4 : Int32))])) _
              refine XS.istoreN X0.here hx rfl (hb hby d5_114) rfl (l' := #[.val (.ref a0), .val (.int p1), .val (.int ((bs.getD (p1).toNatClampNeg 0) &&& (255 : Int32))), .val (.int (4 : Int32)), .val (.int (128 : Int32)), .val (.int (191 : Int32)), .unset, .unset]) rfl ?_
              show Steps p.tables e below (s₁.setTop (mkF m 115 #[.val (.ref a0), .val (.int p1), .val (.int ((bs.getD (p1).toNatClampNeg 0) &&& (255 : Int32))), .val (.int (4 : Int32)), .val (.int (128 : Int32)), .val (.int (191 : Int32)), .unset, .unset] [])) _
              refine XS.iloadN X0.here hx rfl (hb hby d5_115) rfl ?_
              show Steps p.tables e below (s₁.setTop (mkF m 116 #[.val (.ref a0), .val (.int p1), .val (.int ((bs.getD (p1).toNatClampNeg 0) &&& (255 : Int32))), .val (.int (4 : Int32)), .val (.int (128 : Int32)), .val (.int (191 : Int32)), .unset, .unset] [(.int ((bs.getD (p1).toNatClampNeg 0) &&& (255 : Int32)))])) _
              refine XS.sipush X0.here hx rfl (hb hby d5_116) ?_
              exact k
            by_cases hc119 : ((bs.getD (p1).toNatClampNeg 0) &&& (255 : Int32)) = (240 : Int32)
            · refine own_go (B := s₁.setTop (mkF m 122 #[.val (.ref a0), .val (.int p1), .val (.int ((bs.getD (p1).toNatClampNeg 0) &&& (255 : Int32))), .val (.int (4 : Int32)), .val (.int (128 : Int32)), .val (.int (191 : Int32)), .unset, .unset] [])) (fun t k => ?_) ?_
              · show Steps p.tables e below (s₁.setTop (mkF m 119 #[.val (.ref a0), .val (.int p1), .val (.int ((bs.getD (p1).toNatClampNeg 0) &&& (255 : Int32))), .val (.int (4 : Int32)), .val (.int (128 : Int32)), .val (.int (191 : Int32)), .unset, .unset] [(.int (240 : Int32)), (.int ((bs.getD (p1).toNatClampNeg 0) &&& (255 : Int32)))])) _
                refine XS.icmpNo X0.here hx rfl (hb hby d5_119) rfl (teq hc119).2 ?_
                exact k
              refine own_go (B := s₁.setTop (mkF m 136 #[.val (.ref a0), .val (.int p1), .val (.int ((bs.getD (p1).toNatClampNeg 0) &&& (255 : Int32))), .val (.int (4 : Int32)), .val (.int (144 : Int32)), .val (.int (191 : Int32)), .unset, .unset] [(.int (244 : Int32)), (.int ((bs.getD (p1).toNatClampNeg 0) &&& (255 : Int32)))])) (fun t k => ?_) ?_
              · show Steps p.tables e below (s₁.setTop (mkF m 122 #[.val (.ref a0), .val (.int p1), .val (.int ((bs.getD (p1).toNatClampNeg 0) &&& (255 : Int32))), .val (.int (4 : Int32)), .val (.int (128 : Int32)), .val (.int (191 : Int32)), .unset, .unset] [])) _
                refine XS.sipush X0.here hx rfl (hb hby d5_122) ?_
                show Steps p.tables e below (s₁.setTop (mkF m 125 #[.val (.ref a0), .val (.int p1), .val (.int ((bs.getD (p1).toNatClampNeg 0) &&& (255 : Int32))), .val (.int (4 : Int32)), .val (.int (128 : Int32)), .val (.int (191 : Int32)), .unset, .unset] [(.int (144 : Int32))])) _
                refine XS.goto X0.here hx rfl (pc0 := 125) (pc' := 130) rfl (hb hby d5_125) (by decide) (by decide) ?_
                show Steps p.tables e below (s₁.setTop (mkF m 130 #[.val (.ref a0), .val (.int p1), .val (.int ((bs.getD (p1).toNatClampNeg 0) &&& (255 : Int32))), .val (.int (4 : Int32)), .val (.int (128 : Int32)), .val (.int (191 : Int32)), .unset, .unset] [(.int (144 : Int32))])) _
                refine XS.istore X0.here hx rfl (hb hby d5_130) rfl (l' := #[.val (.ref a0), .val (.int p1), .val (.int ((bs.getD (p1).toNatClampNeg 0) &&& (255 : Int32))), .val (.int (4 : Int32)), .val (.int (144 : Int32)), .val (.int (191 : Int32)), .unset, .unset]) rfl ?_
                show Steps p.tables e below (s₁.setTop (mkF m 132 #[.val (.ref a0), .val (.int p1), .val (.int ((bs.getD (p1).toNatClampNeg 0) &&& (255 : Int32))), .val (.int (4 : Int32)), .val (.int (144 : Int32)), .val (.int (191 : Int32)), .unset, .unset] [])) _
                refine XS.iloadN X0.here hx rfl (hb hby d5_132) rfl ?_
                show Steps p.tables e below (s₁.setTop (mkF m 133 #[.val (.ref a0), .val (.int p1), .val (.int ((bs.getD (p1).toNatClampNeg 0) &&& (255 : Int32))), .val (.int (4 : Int32)), .val (.int (144 : Int32)), .val (.int (191 : Int32)), .unset, .unset] [(.int ((bs.getD (p1).toNatClampNeg 0) &&& (255 : Int32)))])) _
                refine XS.sipush X0.here hx rfl (hb hby d5_133) ?_
                exact k
              refine own_go (B := s₁.setTop (mkF m 145 #[.val (.ref a0), .val (.int p1), .val (.int ((bs.getD (p1).toNatClampNeg 0) &&& (255 : Int32))), .val (.int (4 : Int32)), .val (.int (144 : Int32)), .val (.int (191 : Int32)), .unset, .unset] [])) (fun t k => ?_) ?_
              · show Steps p.tables e below (s₁.setTop (mkF m 136 #[.val (.ref a0), .val (.int p1), .val (.int ((bs.getD (p1).toNatClampNeg 0) &&& (255 : Int32))), .val (.int (4 : Int32)), .val (.int (144 : Int32)), .val (.int (191 : Int32)), .unset, .unset] [(.int (244 : Int32)), (.int ((bs.getD (p1).toNatClampNeg 0) &&& (255 : Int32)))])) _
                refine XS.icmpYes X0.here hx rfl (pc0 := 136) (pc' := 145) rfl (hb hby d5_136) rfl (feq (by have q0 := hc12; have q1 := hc31; have q2 := hc38; have q3 := hc57; have q4 := hc110; have q5 := hc119; simp only [own_i, own_eqi] at q0 q1 q2 q3 q4 q5 ⊢; have c0 : (128 : Int32).toInt = 128 := rfl; have c1 : (194 : Int32).toInt = 194 := rfl; have c2 : (223 : Int32).toInt = 223 := rfl; have c3 : (239 : Int32).toInt = 239 := rfl; have c4 : (240 : Int32).toInt = 240 := rfl; have c5 : (244 : Int32).toInt = 244 := rfl; omega : ¬ (((bs.getD (p1).toNatClampNeg 0) &&& (255 : Int32)) = (244 : Int32)))).2 (by decide) (by decide) ?_
                exact k
              refine own_go (B := s₁.setTop (mkF m 158 #[.val (.ref a0), .val (.int p1), .val (.int ((bs.getD (p1).toNatClampNeg 0) &&& (255 : Int32))), .val (.int (4 : Int32)), .val (.int (144 : Int32)), .val (.int (191 : Int32)), .unset, .unset] [(.ref a0), (.int (p1 + (4 : Int32)))])) (fun t k => ?_) ?_
              · show Steps p.tables e below (s₁.setTop (mkF m 145 #[.val (.ref a0), .val (.int p1), .val (.int ((bs.getD (p1).toNatClampNeg 0) &&& (255 : Int32))), .val (.int (4 : Int32)), .val (.int (144 : Int32)), .val (.int (191 : Int32)), .unset, .unset] [])) _
                refine XS.iload X0.here hx rfl (hb hby d5_145) rfl ?_
                show Steps p.tables e below (s₁.setTop (mkF m 147 #[.val (.ref a0), .val (.int p1), .val (.int ((bs.getD (p1).toNatClampNeg 0) &&& (255 : Int32))), .val (.int (4 : Int32)), .val (.int (144 : Int32)), .val (.int (191 : Int32)), .unset, .unset] [(.int (191 : Int32))])) _
                refine XS.istore X0.here hx rfl (hb hby d5_147) rfl (l' := #[.val (.ref a0), .val (.int p1), .val (.int ((bs.getD (p1).toNatClampNeg 0) &&& (255 : Int32))), .val (.int (4 : Int32)), .val (.int (144 : Int32)), .val (.int (191 : Int32)), .unset, .unset]) rfl ?_
                show Steps p.tables e below (s₁.setTop (mkF m 149 #[.val (.ref a0), .val (.int p1), .val (.int ((bs.getD (p1).toNatClampNeg 0) &&& (255 : Int32))), .val (.int (4 : Int32)), .val (.int (144 : Int32)), .val (.int (191 : Int32)), .unset, .unset] [])) _
                refine XS.goto X0.here hx rfl (pc0 := 149) (pc' := 154) rfl (hb hby d5_149) (by decide) (by decide) ?_
                show Steps p.tables e below (s₁.setTop (mkF m 154 #[.val (.ref a0), .val (.int p1), .val (.int ((bs.getD (p1).toNatClampNeg 0) &&& (255 : Int32))), .val (.int (4 : Int32)), .val (.int (144 : Int32)), .val (.int (191 : Int32)), .unset, .unset] [])) _
                refine XS.iloadN X0.here hx rfl (hb hby d5_154) rfl ?_
                show Steps p.tables e below (s₁.setTop (mkF m 155 #[.val (.ref a0), .val (.int p1), .val (.int ((bs.getD (p1).toNatClampNeg 0) &&& (255 : Int32))), .val (.int (4 : Int32)), .val (.int (144 : Int32)), .val (.int (191 : Int32)), .unset, .unset] [(.int p1)])) _
                refine XS.iloadN X0.here hx rfl (hb hby d5_155) rfl ?_
                show Steps p.tables e below (s₁.setTop (mkF m 156 #[.val (.ref a0), .val (.int p1), .val (.int ((bs.getD (p1).toNatClampNeg 0) &&& (255 : Int32))), .val (.int (4 : Int32)), .val (.int (144 : Int32)), .val (.int (191 : Int32)), .unset, .unset] [(.int (4 : Int32)), (.int p1)])) _
                refine XS.iadd X0.here hx rfl (hb hby d5_156) rfl ?_
                show Steps p.tables e below (s₁.setTop (mkF m 157 #[.val (.ref a0), .val (.int p1), .val (.int ((bs.getD (p1).toNatClampNeg 0) &&& (255 : Int32))), .val (.int (4 : Int32)), .val (.int (144 : Int32)), .val (.int (191 : Int32)), .unset, .unset] [(.int (p1 + (4 : Int32)))])) _
                refine XS.aloadN X0.here hx rfl (hb hby d5_157) rfl rfl ?_
                exact k
              obtain ⟨cl_2, Ar_2, -, S_2, M_2, -, -⟩ := id V0
              refine own_go (B := s₁.setTop (mkF m 159 #[.val (.ref a0), .val (.int p1), .val (.int ((bs.getD (p1).toNatClampNeg 0) &&& (255 : Int32))), .val (.int (4 : Int32)), .val (.int (144 : Int32)), .val (.int (191 : Int32)), .unset, .unset] [(.int z), (.int (p1 + (4 : Int32)))])) (fun t k => X0.arraylength hx (by rw [(e0 : _ = _)]; exact Ar_2.1) (State.isArrayOf_alike hZ.alike Ar_2.2.1) (g := (mkF m 158 #[.val (.ref a0), .val (.int p1), .val (.int ((bs.getD (p1).toNatClampNeg 0) &&& (255 : Int32))), .val (.int (4 : Int32)), .val (.int (144 : Int32)), .val (.int (191 : Int32)), .unset, .unset] [(.ref a0), (.int (p1 + (4 : Int32)))])) rfl rfl (hb hby d5_158) t (by rw [len_of S_2 M_2]; exact k)) ?_
              by_cases hc159 : z < (p1 + (4 : Int32))
              · refine own_go (B := s₁.setTop (mkF m 162 #[.val (.ref a0), .val (.int p1), .val (.int ((bs.getD (p1).toNatClampNeg 0) &&& (255 : Int32))), .val (.int (4 : Int32)), .val (.int (144 : Int32)), .val (.int (191 : Int32)), .unset, .unset] [])) (fun t k => ?_) ?_
                · show Steps p.tables e below (s₁.setTop (mkF m 159 #[.val (.ref a0), .val (.int p1), .val (.int ((bs.getD (p1).toNatClampNeg 0) &&& (255 : Int32))), .val (.int (4 : Int32)), .val (.int (144 : Int32)), .val (.int (191 : Int32)), .unset, .unset] [(.int z), (.int (p1 + (4 : Int32)))])) _
                  refine XS.icmpNo X0.here hx rfl (hb hby d5_159) rfl (tlt hc159).2.2.2 ?_
                  exact k
                refine own_go (B := s₁.setTop (mkF m 163 #[.val (.ref a0), .val (.int p1), .val (.int ((bs.getD (p1).toNatClampNeg 0) &&& (255 : Int32))), .val (.int (4 : Int32)), .val (.int (144 : Int32)), .val (.int (191 : Int32)), .unset, .unset] [(.int (0 : Int32))])) (fun t k => ?_) ?_
                · show Steps p.tables e below (s₁.setTop (mkF m 162 #[.val (.ref a0), .val (.int p1), .val (.int ((bs.getD (p1).toNatClampNeg 0) &&& (255 : Int32))), .val (.int (4 : Int32)), .val (.int (144 : Int32)), .val (.int (191 : Int32)), .unset, .unset] [])) _
                  refine XS.iconst X0.here hx rfl (hb hby d5_162) ?_
                  exact k
                obtain ⟨fs, hr, hrun, hended, hW, hsame⟩ := X0.leave (v := some (.int (0 : Int32))) (fun h => by rw [Bd.returns] at h; cases h)
                refine ⟨_, _, ?_, hrun, hended, _, _, rfl, ?_, ⟨_, rfl⟩, hW, hsame.mono (by decide) (by decide)⟩
                · show Steps p.tables e below (s₁.setTop (mkF m 163 #[.val (.ref a0), .val (.int p1), .val (.int ((bs.getD (p1).toNatClampNeg 0) &&& (255 : Int32))), .val (.int (4 : Int32)), .val (.int (144 : Int32)), .val (.int (191 : Int32)), .unset, .unset] [(.int (0 : Int32))])) _
                  exact retI X0 hx Bd.returns (hb hby d5_163) hr
                · show Q5 Z a0 p1 kk z bs h0 n0 _ s₁.heap _
                  rw [e0]
                  exact ⟨by simp only [own_seq, if_pos hpz, if_pos hz, if_neg hc12, if_neg hc31, if_pos hc38, if_pos hc57, if_neg hc110, if_pos hc119, if_pos hc159], N0, rfl⟩
              · refine own_go (B := s₁.setTop (mkF m 164 #[.val (.ref a0), .val (.int p1), .val (.int ((bs.getD (p1).toNatClampNeg 0) &&& (255 : Int32))), .val (.int (4 : Int32)), .val (.int (144 : Int32)), .val (.int (191 : Int32)), .unset, .unset] [])) (fun t k => ?_) ?_
                · show Steps p.tables e below (s₁.setTop (mkF m 159 #[.val (.ref a0), .val (.int p1), .val (.int ((bs.getD (p1).toNatClampNeg 0) &&& (255 : Int32))), .val (.int (4 : Int32)), .val (.int (144 : Int32)), .val (.int (191 : Int32)), .unset, .unset] [(.int z), (.int (p1 + (4 : Int32)))])) _
                  refine XS.icmpYes X0.here hx rfl (pc0 := 159) (pc' := 164) rfl (hb hby d5_159) rfl (flt hc159).2.2.2 (by decide) (by decide) ?_
                  exact k
                refine own_go (B := s₁.setTop (mkF m 168 #[.val (.ref a0), .val (.int p1), .val (.int ((bs.getD (p1).toNatClampNeg 0) &&& (255 : Int32))), .val (.int (4 : Int32)), .val (.int (144 : Int32)), .val (.int (191 : Int32)), .unset, .unset] [(.int (p1 + (1 : Int32))), (.ref a0)])) (fun t k => ?_) ?_
                · show Steps p.tables e below (s₁.setTop (mkF m 164 #[.val (.ref a0), .val (.int p1), .val (.int ((bs.getD (p1).toNatClampNeg 0) &&& (255 : Int32))), .val (.int (4 : Int32)), .val (.int (144 : Int32)), .val (.int (191 : Int32)), .unset, .unset] [])) _
                  refine XS.aloadN X0.here hx rfl (hb hby d5_164) rfl rfl ?_
                  show Steps p.tables e below (s₁.setTop (mkF m 165 #[.val (.ref a0), .val (.int p1), .val (.int ((bs.getD (p1).toNatClampNeg 0) &&& (255 : Int32))), .val (.int (4 : Int32)), .val (.int (144 : Int32)), .val (.int (191 : Int32)), .unset, .unset] [(.ref a0)])) _
                  refine XS.iloadN X0.here hx rfl (hb hby d5_165) rfl ?_
                  show Steps p.tables e below (s₁.setTop (mkF m 166 #[.val (.ref a0), .val (.int p1), .val (.int ((bs.getD (p1).toNatClampNeg 0) &&& (255 : Int32))), .val (.int (4 : Int32)), .val (.int (144 : Int32)), .val (.int (191 : Int32)), .unset, .unset] [(.int p1), (.ref a0)])) _
                  refine XS.iconst X0.here hx rfl (hb hby d5_166) ?_
                  show Steps p.tables e below (s₁.setTop (mkF m 167 #[.val (.ref a0), .val (.int p1), .val (.int ((bs.getD (p1).toNatClampNeg 0) &&& (255 : Int32))), .val (.int (4 : Int32)), .val (.int (144 : Int32)), .val (.int (191 : Int32)), .unset, .unset] [(.int (1 : Int32)), (.int p1), (.ref a0)])) _
                  refine XS.iadd X0.here hx rfl (hb hby d5_167) rfl ?_
                  exact k
                obtain ⟨cl_3, Ar_3, q_3, S_3, M_3, H_3, G_3⟩ := id V0
                have hin_3 : ¬ ((p1 + (1 : Int32)) < 0 ∨ cl_3.slots.size ≤ ((p1 + (1 : Int32))).toNatClampNeg) := inb_of S_3 (own_inb p1 z (1 : Int32) (4 : Int32) hp hpz hz hc159 (by decide))
                have hat_3 : cl_3.slots[((p1 + (1 : Int32))).toNatClampNeg]? = some (.int (bs.getD ((p1 + (1 : Int32))).toNatClampNeg 0)) := H_3.at hin_3 (own_map bs _)
                refine own_go (B := s₁.setTop (mkF m 169 #[.val (.ref a0), .val (.int p1), .val (.int ((bs.getD (p1).toNatClampNeg 0) &&& (255 : Int32))), .val (.int (4 : Int32)), .val (.int (144 : Int32)), .val (.int (191 : Int32)), .unset, .unset] [(.int (bs.getD ((p1 + (1 : Int32))).toNatClampNeg 0))])) (fun t k => X0.baloadBytes hx (j := (p1 + (1 : Int32))) (v := (.int (bs.getD ((p1 + (1 : Int32))).toNatClampNeg 0))) (by rw [(e0 : _ = _)]; exact Ar_3.1) (State.isArrayOf_alike hZ.alike Ar_3.2.1) Ar_3.2.2 hin_3 hat_3 (g := (mkF m 168 #[.val (.ref a0), .val (.int p1), .val (.int ((bs.getD (p1).toNatClampNeg 0) &&& (255 : Int32))), .val (.int (4 : Int32)), .val (.int (144 : Int32)), .val (.int (191 : Int32)), .unset, .unset] [(.int (p1 + (1 : Int32))), (.ref a0)])) rfl rfl (hb hby d5_168) t k) ?_
                refine own_go (B := s₁.setTop (mkF m 179 #[.val (.ref a0), .val (.int p1), .val (.int ((bs.getD (p1).toNatClampNeg 0) &&& (255 : Int32))), .val (.int (4 : Int32)), .val (.int (144 : Int32)), .val (.int (191 : Int32)), .val (.int ((bs.getD ((p1 + (1 : Int32))).toNatClampNeg 0) &&& (255 : Int32))), .unset] [(.int (144 : Int32)), (.int ((bs.getD ((p1 + (1 : Int32))).toNatClampNeg 0) &&& (255 : Int32)))])) (fun t k => ?_) ?_
                · show Steps p.tables e below (s₁.setTop (mkF m 169 #[.val (.ref a0), .val (.int p1), .val (.int ((bs.getD (p1).toNatClampNeg 0) &&& (255 : Int32))), .val (.int (4 : Int32)), .val (.int (144 : Int32)), .val (.int (191 : Int32)), .unset, .unset] [(.int (bs.getD ((p1 + (1 : Int32))).toNatClampNeg 0))])) _
                  refine XS.sipush X0.here hx rfl (hb hby d5_169) ?_
                  show Steps p.tables e below (s₁.setTop (mkF m 172 #[.val (.ref a0), .val (.int p1), .val (.int ((bs.getD (p1).toNatClampNeg 0) &&& (255 : Int32))), .val (.int (4 : Int32)), .val (.int (144 : Int32)), .val (.int (191 : Int32)), .unset, .unset] [(.int (255 : Int32)), (.int (bs.getD ((p1 + (1 : Int32))).toNatClampNeg 0))])) _
                  refine XS.iand X0.here hx rfl (hb hby d5_172) rfl ?_
                  show Steps p.tables e below (s₁.setTop (mkF m 173 #[.val (.ref a0), .val (.int p1), .val (.int ((bs.getD (p1).toNatClampNeg 0) &&& (255 : Int32))), .val (.int (4 : Int32)), .val (.int (144 : Int32)), .val (.int (191 : Int32)), .unset, .unset] [(.int ((bs.getD ((p1 + (1 : Int32))).toNatClampNeg 0) &&& (255 : Int32)))])) _
                  refine XS.istore X0.here hx rfl (hb hby d5_173) rfl (l' := #[.val (.ref a0), .val (.int p1), .val (.int ((bs.getD (p1).toNatClampNeg 0) &&& (255 : Int32))), .val (.int (4 : Int32)), .val (.int (144 : Int32)), .val (.int (191 : Int32)), .val (.int ((bs.getD ((p1 + (1 : Int32))).toNatClampNeg 0) &&& (255 : Int32))), .unset]) rfl ?_
                  show Steps p.tables e below (s₁.setTop (mkF m 175 #[.val (.ref a0), .val (.int p1), .val (.int ((bs.getD (p1).toNatClampNeg 0) &&& (255 : Int32))), .val (.int (4 : Int32)), .val (.int (144 : Int32)), .val (.int (191 : Int32)), .val (.int ((bs.getD ((p1 + (1 : Int32))).toNatClampNeg 0) &&& (255 : Int32))), .unset] [])) _
                  refine XS.iload X0.here hx rfl (hb hby d5_175) rfl ?_
                  show Steps p.tables e below (s₁.setTop (mkF m 177 #[.val (.ref a0), .val (.int p1), .val (.int ((bs.getD (p1).toNatClampNeg 0) &&& (255 : Int32))), .val (.int (4 : Int32)), .val (.int (144 : Int32)), .val (.int (191 : Int32)), .val (.int ((bs.getD ((p1 + (1 : Int32))).toNatClampNeg 0) &&& (255 : Int32))), .unset] [(.int ((bs.getD ((p1 + (1 : Int32))).toNatClampNeg 0) &&& (255 : Int32)))])) _
                  refine XS.iload X0.here hx rfl (hb hby d5_177) rfl ?_
                  exact k
                by_cases hc179 : ((bs.getD ((p1 + (1 : Int32))).toNatClampNeg 0) &&& (255 : Int32)) < (144 : Int32)
                · refine own_go (B := s₁.setTop (mkF m 189 #[.val (.ref a0), .val (.int p1), .val (.int ((bs.getD (p1).toNatClampNeg 0) &&& (255 : Int32))), .val (.int (4 : Int32)), .val (.int (144 : Int32)), .val (.int (191 : Int32)), .val (.int ((bs.getD ((p1 + (1 : Int32))).toNatClampNeg 0) &&& (255 : Int32))), .unset] [])) (fun t k => ?_) ?_
                  · show Steps p.tables e below (s₁.setTop (mkF m 179 #[.val (.ref a0), .val (.int p1), .val (.int ((bs.getD (p1).toNatClampNeg 0) &&& (255 : Int32))), .val (.int (4 : Int32)), .val (.int (144 : Int32)), .val (.int (191 : Int32)), .val (.int ((bs.getD ((p1 + (1 : Int32))).toNatClampNeg 0) &&& (255 : Int32))), .unset] [(.int (144 : Int32)), (.int ((bs.getD ((p1 + (1 : Int32))).toNatClampNeg 0) &&& (255 : Int32)))])) _
                    refine XS.icmpYes X0.here hx rfl (pc0 := 179) (pc' := 189) rfl (hb hby d5_179) rfl (tlt hc179).1 (by decide) (by decide) ?_
                    exact k
                  refine own_go (B := s₁.setTop (mkF m 190 #[.val (.ref a0), .val (.int p1), .val (.int ((bs.getD (p1).toNatClampNeg 0) &&& (255 : Int32))), .val (.int (4 : Int32)), .val (.int (144 : Int32)), .val (.int (191 : Int32)), .val (.int ((bs.getD ((p1 + (1 : Int32))).toNatClampNeg 0) &&& (255 : Int32))), .unset] [(.int (0 : Int32))])) (fun t k => ?_) ?_
                  · show Steps p.tables e below (s₁.setTop (mkF m 189 #[.val (.ref a0), .val (.int p1), .val (.int ((bs.getD (p1).toNatClampNeg 0) &&& (255 : Int32))), .val (.int (4 : Int32)), .val (.int (144 : Int32)), .val (.int (191 : Int32)), .val (.int ((bs.getD ((p1 + (1 : Int32))).toNatClampNeg 0) &&& (255 : Int32))), .unset] [])) _
                    refine XS.iconst X0.here hx rfl (hb hby d5_189) ?_
                    exact k
                  obtain ⟨fs, hr, hrun, hended, hW, hsame⟩ := X0.leave (v := some (.int (0 : Int32))) (fun h => by rw [Bd.returns] at h; cases h)
                  refine ⟨_, _, ?_, hrun, hended, _, _, rfl, ?_, ⟨_, rfl⟩, hW, hsame.mono (by decide) (by decide)⟩
                  · show Steps p.tables e below (s₁.setTop (mkF m 190 #[.val (.ref a0), .val (.int p1), .val (.int ((bs.getD (p1).toNatClampNeg 0) &&& (255 : Int32))), .val (.int (4 : Int32)), .val (.int (144 : Int32)), .val (.int (191 : Int32)), .val (.int ((bs.getD ((p1 + (1 : Int32))).toNatClampNeg 0) &&& (255 : Int32))), .unset] [(.int (0 : Int32))])) _
                    exact retI X0 hx Bd.returns (hb hby d5_190) hr
                  · show Q5 Z a0 p1 kk z bs h0 n0 _ s₁.heap _
                    rw [e0]
                    exact ⟨by simp only [own_seq, if_pos hpz, if_pos hz, if_neg hc12, if_neg hc31, if_pos hc38, if_pos hc57, if_neg hc110, if_pos hc119, if_neg hc159, if_pos hc179], N0, rfl⟩
                · refine own_go (B := s₁.setTop (mkF m 182 #[.val (.ref a0), .val (.int p1), .val (.int ((bs.getD (p1).toNatClampNeg 0) &&& (255 : Int32))), .val (.int (4 : Int32)), .val (.int (144 : Int32)), .val (.int (191 : Int32)), .val (.int ((bs.getD ((p1 + (1 : Int32))).toNatClampNeg 0) &&& (255 : Int32))), .unset] [])) (fun t k => ?_) ?_
                  · show Steps p.tables e below (s₁.setTop (mkF m 179 #[.val (.ref a0), .val (.int p1), .val (.int ((bs.getD (p1).toNatClampNeg 0) &&& (255 : Int32))), .val (.int (4 : Int32)), .val (.int (144 : Int32)), .val (.int (191 : Int32)), .val (.int ((bs.getD ((p1 + (1 : Int32))).toNatClampNeg 0) &&& (255 : Int32))), .unset] [(.int (144 : Int32)), (.int ((bs.getD ((p1 + (1 : Int32))).toNatClampNeg 0) &&& (255 : Int32)))])) _
                    refine XS.icmpNo X0.here hx rfl (hb hby d5_179) rfl (flt hc179).1 ?_
                    exact k
                  refine own_go (B := s₁.setTop (mkF m 186 #[.val (.ref a0), .val (.int p1), .val (.int ((bs.getD (p1).toNatClampNeg 0) &&& (255 : Int32))), .val (.int (4 : Int32)), .val (.int (144 : Int32)), .val (.int (191 : Int32)), .val (.int ((bs.getD ((p1 + (1 : Int32))).toNatClampNeg 0) &&& (255 : Int32))), .unset] [(.int (191 : Int32)), (.int ((bs.getD ((p1 + (1 : Int32))).toNatClampNeg 0) &&& (255 : Int32)))])) (fun t k => ?_) ?_
                  · show Steps p.tables e below (s₁.setTop (mkF m 182 #[.val (.ref a0), .val (.int p1), .val (.int ((bs.getD (p1).toNatClampNeg 0) &&& (255 : Int32))), .val (.int (4 : Int32)), .val (.int (144 : Int32)), .val (.int (191 : Int32)), .val (.int ((bs.getD ((p1 + (1 : Int32))).toNatClampNeg 0) &&& (255 : Int32))), .unset] [])) _
                    refine XS.iload X0.here hx rfl (hb hby d5_182) rfl ?_
                    show Steps p.tables e below (s₁.setTop (mkF m 184 #[.val (.ref a0), .val (.int p1), .val (.int ((bs.getD (p1).toNatClampNeg 0) &&& (255 : Int32))), .val (.int (4 : Int32)), .val (.int (144 : Int32)), .val (.int (191 : Int32)), .val (.int ((bs.getD ((p1 + (1 : Int32))).toNatClampNeg 0) &&& (255 : Int32))), .unset] [(.int ((bs.getD ((p1 + (1 : Int32))).toNatClampNeg 0) &&& (255 : Int32)))])) _
                    refine XS.iload X0.here hx rfl (hb hby d5_184) rfl ?_
                    exact k
                  by_cases hc186 : (191 : Int32) < ((bs.getD ((p1 + (1 : Int32))).toNatClampNeg 0) &&& (255 : Int32))
                  · refine own_go (B := s₁.setTop (mkF m 189 #[.val (.ref a0), .val (.int p1), .val (.int ((bs.getD (p1).toNatClampNeg 0) &&& (255 : Int32))), .val (.int (4 : Int32)), .val (.int (144 : Int32)), .val (.int (191 : Int32)), .val (.int ((bs.getD ((p1 + (1 : Int32))).toNatClampNeg 0) &&& (255 : Int32))), .unset] [])) (fun t k => ?_) ?_
                    · show Steps p.tables e below (s₁.setTop (mkF m 186 #[.val (.ref a0), .val (.int p1), .val (.int ((bs.getD (p1).toNatClampNeg 0) &&& (255 : Int32))), .val (.int (4 : Int32)), .val (.int (144 : Int32)), .val (.int (191 : Int32)), .val (.int ((bs.getD ((p1 + (1 : Int32))).toNatClampNeg 0) &&& (255 : Int32))), .unset] [(.int (191 : Int32)), (.int ((bs.getD ((p1 + (1 : Int32))).toNatClampNeg 0) &&& (255 : Int32)))])) _
                      refine XS.icmpNo X0.here hx rfl (hb hby d5_186) rfl (tlt hc186).2.2.2 ?_
                      exact k
                    refine own_go (B := s₁.setTop (mkF m 190 #[.val (.ref a0), .val (.int p1), .val (.int ((bs.getD (p1).toNatClampNeg 0) &&& (255 : Int32))), .val (.int (4 : Int32)), .val (.int (144 : Int32)), .val (.int (191 : Int32)), .val (.int ((bs.getD ((p1 + (1 : Int32))).toNatClampNeg 0) &&& (255 : Int32))), .unset] [(.int (0 : Int32))])) (fun t k => ?_) ?_
                    · show Steps p.tables e below (s₁.setTop (mkF m 189 #[.val (.ref a0), .val (.int p1), .val (.int ((bs.getD (p1).toNatClampNeg 0) &&& (255 : Int32))), .val (.int (4 : Int32)), .val (.int (144 : Int32)), .val (.int (191 : Int32)), .val (.int ((bs.getD ((p1 + (1 : Int32))).toNatClampNeg 0) &&& (255 : Int32))), .unset] [])) _
                      refine XS.iconst X0.here hx rfl (hb hby d5_189) ?_
                      exact k
                    obtain ⟨fs, hr, hrun, hended, hW, hsame⟩ := X0.leave (v := some (.int (0 : Int32))) (fun h => by rw [Bd.returns] at h; cases h)
                    refine ⟨_, _, ?_, hrun, hended, _, _, rfl, ?_, ⟨_, rfl⟩, hW, hsame.mono (by decide) (by decide)⟩
                    · show Steps p.tables e below (s₁.setTop (mkF m 190 #[.val (.ref a0), .val (.int p1), .val (.int ((bs.getD (p1).toNatClampNeg 0) &&& (255 : Int32))), .val (.int (4 : Int32)), .val (.int (144 : Int32)), .val (.int (191 : Int32)), .val (.int ((bs.getD ((p1 + (1 : Int32))).toNatClampNeg 0) &&& (255 : Int32))), .unset] [(.int (0 : Int32))])) _
                      exact retI X0 hx Bd.returns (hb hby d5_190) hr
                    · show Q5 Z a0 p1 kk z bs h0 n0 _ s₁.heap _
                      rw [e0]
                      exact ⟨by simp only [own_seq, if_pos hpz, if_pos hz, if_neg hc12, if_neg hc31, if_pos hc38, if_pos hc57, if_neg hc110, if_pos hc119, if_neg hc159, if_neg hc179, if_pos hc186], N0, rfl⟩
                  · refine own_go (B := s₁.setTop (mkF m 191 #[.val (.ref a0), .val (.int p1), .val (.int ((bs.getD (p1).toNatClampNeg 0) &&& (255 : Int32))), .val (.int (4 : Int32)), .val (.int (144 : Int32)), .val (.int (191 : Int32)), .val (.int ((bs.getD ((p1 + (1 : Int32))).toNatClampNeg 0) &&& (255 : Int32))), .unset] [])) (fun t k => ?_) ?_
                    · show Steps p.tables e below (s₁.setTop (mkF m 186 #[.val (.ref a0), .val (.int p1), .val (.int ((bs.getD (p1).toNatClampNeg 0) &&& (255 : Int32))), .val (.int (4 : Int32)), .val (.int (144 : Int32)), .val (.int (191 : Int32)), .val (.int ((bs.getD ((p1 + (1 : Int32))).toNatClampNeg 0) &&& (255 : Int32))), .unset] [(.int (191 : Int32)), (.int ((bs.getD ((p1 + (1 : Int32))).toNatClampNeg 0) &&& (255 : Int32)))])) _
                      refine XS.icmpYes X0.here hx rfl (pc0 := 186) (pc' := 191) rfl (hb hby d5_186) rfl (flt hc186).2.2.2 (by decide) (by decide) ?_
                      exact k
                    refine own_go (B := s₁.setTop (mkF m 201 #[.val (.ref a0), .val (.int p1), .val (.int ((bs.getD (p1).toNatClampNeg 0) &&& (255 : Int32))), .val (.int (4 : Int32)), .val (.int (144 : Int32)), .val (.int (191 : Int32)), .val (.int ((bs.getD ((p1 + (1 : Int32))).toNatClampNeg 0) &&& (255 : Int32))), .val (.int (p1 + (2 : Int32)))] [(.int (p1 + (4 : Int32))), (.int (p1 + (2 : Int32)))])) (fun t k => ?_) ?_
                    · show Steps p.tables e below (s₁.setTop (mkF m 191 #[.val (.ref a0), .val (.int p1), .val (.int ((bs.getD (p1).toNatClampNeg 0) &&& (255 : Int32))), .val (.int (4 : Int32)), .val (.int (144 : Int32)), .val (.int (191 : Int32)), .val (.int ((bs.getD ((p1 + (1 : Int32))).toNatClampNeg 0) &&& (255 : Int32))), .unset] [])) _
                      refine XS.iloadN X0.here hx rfl (hb hby d5_191) rfl ?_
                      show Steps p.tables e below (s₁.setTop (mkF m 192 #[.val (.ref a0), .val (.int p1), .val (.int ((bs.getD (p1).toNatClampNeg 0) &&& (255 : Int32))), .val (.int (4 : Int32)), .val (.int (144 : Int32)), .val (.int (191 : Int32)), .val (.int ((bs.getD ((p1 + (1 : Int32))).toNatClampNeg 0) &&& (255 : Int32))), .unset] [(.int p1)])) _
                      refine XS.iconst X0.here hx rfl (hb hby d5_192) ?_
                      show Steps p.tables e below (s₁.setTop (mkF m 193 #[.val (.ref a0), .val (.int p1), .val (.int ((bs.getD (p1).toNatClampNeg 0) &&& (255 : Int32))), .val (.int (4 : Int32)), .val (.int (144 : Int32)), .val (.int (191 : Int32)), .val (.int ((bs.getD ((p1 + (1 : Int32))).toNatClampNeg 0) &&& (255 : Int32))), .unset] [(.int (2 : Int32)), (.int p1)])) _
                      refine XS.iadd X0.here hx rfl (hb hby d5_193) rfl ?_
                      show Steps p.tables e below (s₁.setTop (mkF m 194 #[.val (.ref a0), .val (.int p1), .val (.int ((bs.getD (p1).toNatClampNeg 0) &&& (255 : Int32))), .val (.int (4 : Int32)), .val (.int (144 : Int32)), .val (.int (191 : Int32)), .val (.int ((bs.getD ((p1 + (1 : Int32))).toNatClampNeg 0) &&& (255 : Int32))), .unset] [(.int (p1 + (2 : Int32)))])) _
                      refine XS.istore X0.here hx rfl (hb hby d5_194) rfl (l' := #[.val (.ref a0), .val (.int p1), .val (.int ((bs.getD (p1).toNatClampNeg 0) &&& (255 : Int32))), .val (.int (4 : Int32)), .val (.int (144 : Int32)), .val (.int (191 : Int32)), .val (.int ((bs.getD ((p1 + (1 : Int32))).toNatClampNeg 0) &&& (255 : Int32))), .val (.int (p1 + (2 : Int32)))]) rfl ?_
                      show Steps p.tables e below (s₁.setTop (mkF m 196 #[.val (.ref a0), .val (.int p1), .val (.int ((bs.getD (p1).toNatClampNeg 0) &&& (255 : Int32))), .val (.int (4 : Int32)), .val (.int (144 : Int32)), .val (.int (191 : Int32)), .val (.int ((bs.getD ((p1 + (1 : Int32))).toNatClampNeg 0) &&& (255 : Int32))), .val (.int (p1 + (2 : Int32)))] [])) _
                      refine XS.iload X0.here hx rfl (hb hby d5_196) rfl ?_
                      show Steps p.tables e below (s₁.setTop (mkF m 198 #[.val (.ref a0), .val (.int p1), .val (.int ((bs.getD (p1).toNatClampNeg 0) &&& (255 : Int32))), .val (.int (4 : Int32)), .val (.int (144 : Int32)), .val (.int (191 : Int32)), .val (.int ((bs.getD ((p1 + (1 : Int32))).toNatClampNeg 0) &&& (255 : Int32))), .val (.int (p1 + (2 : Int32)))] [(.int (p1 + (2 : Int32)))])) _
                      refine XS.iloadN X0.here hx rfl (hb hby d5_198) rfl ?_
                      show Steps p.tables e below (s₁.setTop (mkF m 199 #[.val (.ref a0), .val (.int p1), .val (.int ((bs.getD (p1).toNatClampNeg 0) &&& (255 : Int32))), .val (.int (4 : Int32)), .val (.int (144 : Int32)), .val (.int (191 : Int32)), .val (.int ((bs.getD ((p1 + (1 : Int32))).toNatClampNeg 0) &&& (255 : Int32))), .val (.int (p1 + (2 : Int32)))] [(.int p1), (.int (p1 + (2 : Int32)))])) _
                      refine XS.iloadN X0.here hx rfl (hb hby d5_199) rfl ?_
                      show Steps p.tables e below (s₁.setTop (mkF m 200 #[.val (.ref a0), .val (.int p1), .val (.int ((bs.getD (p1).toNatClampNeg 0) &&& (255 : Int32))), .val (.int (4 : Int32)), .val (.int (144 : Int32)), .val (.int (191 : Int32)), .val (.int ((bs.getD ((p1 + (1 : Int32))).toNatClampNeg 0) &&& (255 : Int32))), .val (.int (p1 + (2 : Int32)))] [(.int (4 : Int32)), (.int p1), (.int (p1 + (2 : Int32)))])) _
                      refine XS.iadd X0.here hx rfl (hb hby d5_200) rfl ?_
                      exact k
                    refine own_go (B := s₁.setTop (mkF m 204 #[.val (.ref a0), .val (.int p1), .val (.int ((bs.getD (p1).toNatClampNeg 0) &&& (255 : Int32))), .val (.int (4 : Int32)), .val (.int (144 : Int32)), .val (.int (191 : Int32)), .val (.int ((bs.getD ((p1 + (1 : Int32))).toNatClampNeg 0) &&& (255 : Int32))), .val (.int (p1 + (2 : Int32)))] [])) (fun t k => ?_) ?_
                    · show Steps p.tables e below (s₁.setTop (mkF m 201 #[.val (.ref a0), .val (.int p1), .val (.int ((bs.getD (p1).toNatClampNeg 0) &&& (255 : Int32))), .val (.int (4 : Int32)), .val (.int (144 : Int32)), .val (.int (191 : Int32)), .val (.int ((bs.getD ((p1 + (1 : Int32))).toNatClampNeg 0) &&& (255 : Int32))), .val (.int (p1 + (2 : Int32)))] [(.int (p1 + (4 : Int32))), (.int (p1 + (2 : Int32)))])) _
                      refine XS.icmpNo X0.here hx rfl (hb hby d5_201) rfl (tlt (own_ltp p1 z 2 4 hp hpz hz (by decide))).2.1 ?_
                      exact k
                    refine own_go (B := s₁.setTop (mkF m 207 #[.val (.ref a0), .val (.int p1), .val (.int ((bs.getD (p1).toNatClampNeg 0) &&& (255 : Int32))), .val (.int (4 : Int32)), .val (.int (144 : Int32)), .val (.int (191 : Int32)), .val (.int ((bs.getD ((p1 + (1 : Int32))).toNatClampNeg 0) &&& (255 : Int32))), .val (.int (p1 + (2 : Int32)))] [(.int (p1 + (2 : Int32))), (.ref a0)])) (fun t k => ?_) ?_
                    · show Steps p.tables e below (s₁.setTop (mkF m 204 #[.val (.ref a0), .val (.int p1), .val (.int ((bs.getD (p1).toNatClampNeg 0) &&& (255 : Int32))), .val (.int (4 : Int32)), .val (.int (144 : Int32)), .val (.int (191 : Int32)), .val (.int ((bs.getD ((p1 + (1 : Int32))).toNatClampNeg 0) &&& (255 : Int32))), .val (.int (p1 + (2 : Int32)))] [])) _
                      refine XS.aloadN X0.here hx rfl (hb hby d5_204) rfl rfl ?_
                      show Steps p.tables e below (s₁.setTop (mkF m 205 #[.val (.ref a0), .val (.int p1), .val (.int ((bs.getD (p1).toNatClampNeg 0) &&& (255 : Int32))), .val (.int (4 : Int32)), .val (.int (144 : Int32)), .val (.int (191 : Int32)), .val (.int ((bs.getD ((p1 + (1 : Int32))).toNatClampNeg 0) &&& (255 : Int32))), .val (.int (p1 + (2 : Int32)))] [(.ref a0)])) _
                      refine XS.iload X0.here hx rfl (hb hby d5_205) rfl ?_
                      exact k
                    obtain ⟨cl_4, Ar_4, q_4, S_4, M_4, H_4, G_4⟩ := id V0
                    have hin_4 : ¬ ((p1 + (2 : Int32)) < 0 ∨ cl_4.slots.size ≤ ((p1 + (2 : Int32))).toNatClampNeg) := inb_of S_4 (own_inb p1 z (2 : Int32) (4 : Int32) hp hpz hz hc159 (by decide))
                    have hat_4 : cl_4.slots[((p1 + (2 : Int32))).toNatClampNeg]? = some (.int (bs.getD ((p1 + (2 : Int32))).toNatClampNeg 0)) := H_4.at hin_4 (own_map bs _)
                    refine own_go (B := s₁.setTop (mkF m 208 #[.val (.ref a0), .val (.int p1), .val (.int ((bs.getD (p1).toNatClampNeg 0) &&& (255 : Int32))), .val (.int (4 : Int32)), .val (.int (144 : Int32)), .val (.int (191 : Int32)), .val (.int ((bs.getD ((p1 + (1 : Int32))).toNatClampNeg 0) &&& (255 : Int32))), .val (.int (p1 + (2 : Int32)))] [(.int (bs.getD ((p1 + (2 : Int32))).toNatClampNeg 0))])) (fun t k => X0.baloadBytes hx (j := (p1 + (2 : Int32))) (v := (.int (bs.getD ((p1 + (2 : Int32))).toNatClampNeg 0))) (by rw [(e0 : _ = _)]; exact Ar_4.1) (State.isArrayOf_alike hZ.alike Ar_4.2.1) Ar_4.2.2 hin_4 hat_4 (g := (mkF m 207 #[.val (.ref a0), .val (.int p1), .val (.int ((bs.getD (p1).toNatClampNeg 0) &&& (255 : Int32))), .val (.int (4 : Int32)), .val (.int (144 : Int32)), .val (.int (191 : Int32)), .val (.int ((bs.getD ((p1 + (1 : Int32))).toNatClampNeg 0) &&& (255 : Int32))), .val (.int (p1 + (2 : Int32)))] [(.int (p1 + (2 : Int32))), (.ref a0)])) rfl rfl (hb hby d5_207) t k) ?_
                    refine own_go (B := s₁.setTop (mkF m 215 #[.val (.ref a0), .val (.int p1), .val (.int ((bs.getD (p1).toNatClampNeg 0) &&& (255 : Int32))), .val (.int (4 : Int32)), .val (.int (144 : Int32)), .val (.int (191 : Int32)), .val (.int ((bs.getD ((p1 + (1 : Int32))).toNatClampNeg 0) &&& (255 : Int32))), .val (.int (p1 + (2 : Int32)))] [(.int (128 : Int32)), (.int ((bs.getD ((p1 + (2 : Int32))).toNatClampNeg 0) &&& (192 : Int32)))])) (fun t k => ?_) ?_
                    · show Steps p.tables e below (s₁.setTop (mkF m 208 #[.val (.ref a0), .val (.int p1), .val (.int ((bs.getD (p1).toNatClampNeg 0) &&& (255 : Int32))), .val (.int (4 : Int32)), .val (.int (144 : Int32)), .val (.int (191 : Int32)), .val (.int ((bs.getD ((p1 + (1 : Int32))).toNatClampNeg 0) &&& (255 : Int32))), .val (.int (p1 + (2 : Int32)))] [(.int (bs.getD ((p1 + (2 : Int32))).toNatClampNeg 0))])) _
                      refine XS.sipush X0.here hx rfl (hb hby d5_208) ?_
                      show Steps p.tables e below (s₁.setTop (mkF m 211 #[.val (.ref a0), .val (.int p1), .val (.int ((bs.getD (p1).toNatClampNeg 0) &&& (255 : Int32))), .val (.int (4 : Int32)), .val (.int (144 : Int32)), .val (.int (191 : Int32)), .val (.int ((bs.getD ((p1 + (1 : Int32))).toNatClampNeg 0) &&& (255 : Int32))), .val (.int (p1 + (2 : Int32)))] [(.int (192 : Int32)), (.int (bs.getD ((p1 + (2 : Int32))).toNatClampNeg 0))])) _
                      refine XS.iand X0.here hx rfl (hb hby d5_211) rfl ?_
                      show Steps p.tables e below (s₁.setTop (mkF m 212 #[.val (.ref a0), .val (.int p1), .val (.int ((bs.getD (p1).toNatClampNeg 0) &&& (255 : Int32))), .val (.int (4 : Int32)), .val (.int (144 : Int32)), .val (.int (191 : Int32)), .val (.int ((bs.getD ((p1 + (1 : Int32))).toNatClampNeg 0) &&& (255 : Int32))), .val (.int (p1 + (2 : Int32)))] [(.int ((bs.getD ((p1 + (2 : Int32))).toNatClampNeg 0) &&& (192 : Int32)))])) _
                      refine XS.sipush X0.here hx rfl (hb hby d5_212) ?_
                      exact k
                    by_cases hc215 : ((bs.getD ((p1 + (2 : Int32))).toNatClampNeg 0) &&& (192 : Int32)) = (128 : Int32)
                    · refine own_go (B := s₁.setTop (mkF m 220 #[.val (.ref a0), .val (.int p1), .val (.int ((bs.getD (p1).toNatClampNeg 0) &&& (255 : Int32))), .val (.int (4 : Int32)), .val (.int (144 : Int32)), .val (.int (191 : Int32)), .val (.int ((bs.getD ((p1 + (1 : Int32))).toNatClampNeg 0) &&& (255 : Int32))), .val (.int (p1 + (2 : Int32)))] [])) (fun t k => ?_) ?_
                      · show Steps p.tables e below (s₁.setTop (mkF m 215 #[.val (.ref a0), .val (.int p1), .val (.int ((bs.getD (p1).toNatClampNeg 0) &&& (255 : Int32))), .val (.int (4 : Int32)), .val (.int (144 : Int32)), .val (.int (191 : Int32)), .val (.int ((bs.getD ((p1 + (1 : Int32))).toNatClampNeg 0) &&& (255 : Int32))), .val (.int (p1 + (2 : Int32)))] [(.int (128 : Int32)), (.int ((bs.getD ((p1 + (2 : Int32))).toNatClampNeg 0) &&& (192 : Int32)))])) _
                        refine XS.icmpYes X0.here hx rfl (pc0 := 215) (pc' := 220) rfl (hb hby d5_215) rfl (teq hc215).1 (by decide) (by decide) ?_
                        exact k
                      refine own_go (B := s₁.setTop (mkF m 201 #[.val (.ref a0), .val (.int p1), .val (.int ((bs.getD (p1).toNatClampNeg 0) &&& (255 : Int32))), .val (.int (4 : Int32)), .val (.int (144 : Int32)), .val (.int (191 : Int32)), .val (.int ((bs.getD ((p1 + (1 : Int32))).toNatClampNeg 0) &&& (255 : Int32))), .val (.int (p1 + (3 : Int32)))] [(.int (p1 + (4 : Int32))), (.int (p1 + (3 : Int32)))])) (fun t k => ?_) ?_
                      · show Steps p.tables e below (s₁.setTop (mkF m 220 #[.val (.ref a0), .val (.int p1), .val (.int ((bs.getD (p1).toNatClampNeg 0) &&& (255 : Int32))), .val (.int (4 : Int32)), .val (.int (144 : Int32)), .val (.int (191 : Int32)), .val (.int ((bs.getD ((p1 + (1 : Int32))).toNatClampNeg 0) &&& (255 : Int32))), .val (.int (p1 + (2 : Int32)))] [])) _
                        refine XS.iinc X0.here hx rfl (hb hby d5_220) rfl (l' := #[.val (.ref a0), .val (.int p1), .val (.int ((bs.getD (p1).toNatClampNeg 0) &&& (255 : Int32))), .val (.int (4 : Int32)), .val (.int (144 : Int32)), .val (.int (191 : Int32)), .val (.int ((bs.getD ((p1 + (1 : Int32))).toNatClampNeg 0) &&& (255 : Int32))), .val (.int (p1 + (3 : Int32)))]) (by rw [show p1 + (3 : Int32) = (p1 + (2 : Int32)) + (1 : Int32) from by rw [Int32.add_assoc]; rfl]; rfl) ?_
                        show Steps p.tables e below (s₁.setTop (mkF m 223 #[.val (.ref a0), .val (.int p1), .val (.int ((bs.getD (p1).toNatClampNeg 0) &&& (255 : Int32))), .val (.int (4 : Int32)), .val (.int (144 : Int32)), .val (.int (191 : Int32)), .val (.int ((bs.getD ((p1 + (1 : Int32))).toNatClampNeg 0) &&& (255 : Int32))), .val (.int (p1 + (3 : Int32)))] [])) _
                        refine XS.goto X0.here hx rfl (pc0 := 223) (pc' := 196) rfl (hb hby d5_223) (by decide) (by decide) ?_
                        show Steps p.tables e below (s₁.setTop (mkF m 196 #[.val (.ref a0), .val (.int p1), .val (.int ((bs.getD (p1).toNatClampNeg 0) &&& (255 : Int32))), .val (.int (4 : Int32)), .val (.int (144 : Int32)), .val (.int (191 : Int32)), .val (.int ((bs.getD ((p1 + (1 : Int32))).toNatClampNeg 0) &&& (255 : Int32))), .val (.int (p1 + (3 : Int32)))] [])) _
                        refine XS.iload X0.here hx rfl (hb hby d5_196) rfl ?_
                        show Steps p.tables e below (s₁.setTop (mkF m 198 #[.val (.ref a0), .val (.int p1), .val (.int ((bs.getD (p1).toNatClampNeg 0) &&& (255 : Int32))), .val (.int (4 : Int32)), .val (.int (144 : Int32)), .val (.int (191 : Int32)), .val (.int ((bs.getD ((p1 + (1 : Int32))).toNatClampNeg 0) &&& (255 : Int32))), .val (.int (p1 + (3 : Int32)))] [(.int (p1 + (3 : Int32)))])) _
                        refine XS.iloadN X0.here hx rfl (hb hby d5_198) rfl ?_
                        show Steps p.tables e below (s₁.setTop (mkF m 199 #[.val (.ref a0), .val (.int p1), .val (.int ((bs.getD (p1).toNatClampNeg 0) &&& (255 : Int32))), .val (.int (4 : Int32)), .val (.int (144 : Int32)), .val (.int (191 : Int32)), .val (.int ((bs.getD ((p1 + (1 : Int32))).toNatClampNeg 0) &&& (255 : Int32))), .val (.int (p1 + (3 : Int32)))] [(.int p1), (.int (p1 + (3 : Int32)))])) _
                        refine XS.iloadN X0.here hx rfl (hb hby d5_199) rfl ?_
                        show Steps p.tables e below (s₁.setTop (mkF m 200 #[.val (.ref a0), .val (.int p1), .val (.int ((bs.getD (p1).toNatClampNeg 0) &&& (255 : Int32))), .val (.int (4 : Int32)), .val (.int (144 : Int32)), .val (.int (191 : Int32)), .val (.int ((bs.getD ((p1 + (1 : Int32))).toNatClampNeg 0) &&& (255 : Int32))), .val (.int (p1 + (3 : Int32)))] [(.int (4 : Int32)), (.int p1), (.int (p1 + (3 : Int32)))])) _
                        refine XS.iadd X0.here hx rfl (hb hby d5_200) rfl ?_
                        exact k
                      refine own_go (B := s₁.setTop (mkF m 204 #[.val (.ref a0), .val (.int p1), .val (.int ((bs.getD (p1).toNatClampNeg 0) &&& (255 : Int32))), .val (.int (4 : Int32)), .val (.int (144 : Int32)), .val (.int (191 : Int32)), .val (.int ((bs.getD ((p1 + (1 : Int32))).toNatClampNeg 0) &&& (255 : Int32))), .val (.int (p1 + (3 : Int32)))] [])) (fun t k => ?_) ?_
                      · show Steps p.tables e below (s₁.setTop (mkF m 201 #[.val (.ref a0), .val (.int p1), .val (.int ((bs.getD (p1).toNatClampNeg 0) &&& (255 : Int32))), .val (.int (4 : Int32)), .val (.int (144 : Int32)), .val (.int (191 : Int32)), .val (.int ((bs.getD ((p1 + (1 : Int32))).toNatClampNeg 0) &&& (255 : Int32))), .val (.int (p1 + (3 : Int32)))] [(.int (p1 + (4 : Int32))), (.int (p1 + (3 : Int32)))])) _
                        refine XS.icmpNo X0.here hx rfl (hb hby d5_201) rfl (tlt (own_ltp p1 z 3 4 hp hpz hz (by decide))).2.1 ?_
                        exact k
                      refine own_go (B := s₁.setTop (mkF m 207 #[.val (.ref a0), .val (.int p1), .val (.int ((bs.getD (p1).toNatClampNeg 0) &&& (255 : Int32))), .val (.int (4 : Int32)), .val (.int (144 : Int32)), .val (.int (191 : Int32)), .val (.int ((bs.getD ((p1 + (1 : Int32))).toNatClampNeg 0) &&& (255 : Int32))), .val (.int (p1 + (3 : Int32)))] [(.int (p1 + (3 : Int32))), (.ref a0)])) (fun t k => ?_) ?_
                      · show Steps p.tables e below (s₁.setTop (mkF m 204 #[.val (.ref a0), .val (.int p1), .val (.int ((bs.getD (p1).toNatClampNeg 0) &&& (255 : Int32))), .val (.int (4 : Int32)), .val (.int (144 : Int32)), .val (.int (191 : Int32)), .val (.int ((bs.getD ((p1 + (1 : Int32))).toNatClampNeg 0) &&& (255 : Int32))), .val (.int (p1 + (3 : Int32)))] [])) _
                        refine XS.aloadN X0.here hx rfl (hb hby d5_204) rfl rfl ?_
                        show Steps p.tables e below (s₁.setTop (mkF m 205 #[.val (.ref a0), .val (.int p1), .val (.int ((bs.getD (p1).toNatClampNeg 0) &&& (255 : Int32))), .val (.int (4 : Int32)), .val (.int (144 : Int32)), .val (.int (191 : Int32)), .val (.int ((bs.getD ((p1 + (1 : Int32))).toNatClampNeg 0) &&& (255 : Int32))), .val (.int (p1 + (3 : Int32)))] [(.ref a0)])) _
                        refine XS.iload X0.here hx rfl (hb hby d5_205) rfl ?_
                        exact k
                      obtain ⟨cl_5, Ar_5, q_5, S_5, M_5, H_5, G_5⟩ := id V0
                      have hin_5 : ¬ ((p1 + (3 : Int32)) < 0 ∨ cl_5.slots.size ≤ ((p1 + (3 : Int32))).toNatClampNeg) := inb_of S_5 (own_inb p1 z (3 : Int32) (4 : Int32) hp hpz hz hc159 (by decide))
                      have hat_5 : cl_5.slots[((p1 + (3 : Int32))).toNatClampNeg]? = some (.int (bs.getD ((p1 + (3 : Int32))).toNatClampNeg 0)) := H_5.at hin_5 (own_map bs _)
                      refine own_go (B := s₁.setTop (mkF m 208 #[.val (.ref a0), .val (.int p1), .val (.int ((bs.getD (p1).toNatClampNeg 0) &&& (255 : Int32))), .val (.int (4 : Int32)), .val (.int (144 : Int32)), .val (.int (191 : Int32)), .val (.int ((bs.getD ((p1 + (1 : Int32))).toNatClampNeg 0) &&& (255 : Int32))), .val (.int (p1 + (3 : Int32)))] [(.int (bs.getD ((p1 + (3 : Int32))).toNatClampNeg 0))])) (fun t k => X0.baloadBytes hx (j := (p1 + (3 : Int32))) (v := (.int (bs.getD ((p1 + (3 : Int32))).toNatClampNeg 0))) (by rw [(e0 : _ = _)]; exact Ar_5.1) (State.isArrayOf_alike hZ.alike Ar_5.2.1) Ar_5.2.2 hin_5 hat_5 (g := (mkF m 207 #[.val (.ref a0), .val (.int p1), .val (.int ((bs.getD (p1).toNatClampNeg 0) &&& (255 : Int32))), .val (.int (4 : Int32)), .val (.int (144 : Int32)), .val (.int (191 : Int32)), .val (.int ((bs.getD ((p1 + (1 : Int32))).toNatClampNeg 0) &&& (255 : Int32))), .val (.int (p1 + (3 : Int32)))] [(.int (p1 + (3 : Int32))), (.ref a0)])) rfl rfl (hb hby d5_207) t k) ?_
                      refine own_go (B := s₁.setTop (mkF m 215 #[.val (.ref a0), .val (.int p1), .val (.int ((bs.getD (p1).toNatClampNeg 0) &&& (255 : Int32))), .val (.int (4 : Int32)), .val (.int (144 : Int32)), .val (.int (191 : Int32)), .val (.int ((bs.getD ((p1 + (1 : Int32))).toNatClampNeg 0) &&& (255 : Int32))), .val (.int (p1 + (3 : Int32)))] [(.int (128 : Int32)), (.int ((bs.getD ((p1 + (3 : Int32))).toNatClampNeg 0) &&& (192 : Int32)))])) (fun t k => ?_) ?_
                      · show Steps p.tables e below (s₁.setTop (mkF m 208 #[.val (.ref a0), .val (.int p1), .val (.int ((bs.getD (p1).toNatClampNeg 0) &&& (255 : Int32))), .val (.int (4 : Int32)), .val (.int (144 : Int32)), .val (.int (191 : Int32)), .val (.int ((bs.getD ((p1 + (1 : Int32))).toNatClampNeg 0) &&& (255 : Int32))), .val (.int (p1 + (3 : Int32)))] [(.int (bs.getD ((p1 + (3 : Int32))).toNatClampNeg 0))])) _
                        refine XS.sipush X0.here hx rfl (hb hby d5_208) ?_
                        show Steps p.tables e below (s₁.setTop (mkF m 211 #[.val (.ref a0), .val (.int p1), .val (.int ((bs.getD (p1).toNatClampNeg 0) &&& (255 : Int32))), .val (.int (4 : Int32)), .val (.int (144 : Int32)), .val (.int (191 : Int32)), .val (.int ((bs.getD ((p1 + (1 : Int32))).toNatClampNeg 0) &&& (255 : Int32))), .val (.int (p1 + (3 : Int32)))] [(.int (192 : Int32)), (.int (bs.getD ((p1 + (3 : Int32))).toNatClampNeg 0))])) _
                        refine XS.iand X0.here hx rfl (hb hby d5_211) rfl ?_
                        show Steps p.tables e below (s₁.setTop (mkF m 212 #[.val (.ref a0), .val (.int p1), .val (.int ((bs.getD (p1).toNatClampNeg 0) &&& (255 : Int32))), .val (.int (4 : Int32)), .val (.int (144 : Int32)), .val (.int (191 : Int32)), .val (.int ((bs.getD ((p1 + (1 : Int32))).toNatClampNeg 0) &&& (255 : Int32))), .val (.int (p1 + (3 : Int32)))] [(.int ((bs.getD ((p1 + (3 : Int32))).toNatClampNeg 0) &&& (192 : Int32)))])) _
                        refine XS.sipush X0.here hx rfl (hb hby d5_212) ?_
                        exact k
                      by_cases hc215_1 : ((bs.getD ((p1 + (3 : Int32))).toNatClampNeg 0) &&& (192 : Int32)) = (128 : Int32)
                      · refine own_go (B := s₁.setTop (mkF m 220 #[.val (.ref a0), .val (.int p1), .val (.int ((bs.getD (p1).toNatClampNeg 0) &&& (255 : Int32))), .val (.int (4 : Int32)), .val (.int (144 : Int32)), .val (.int (191 : Int32)), .val (.int ((bs.getD ((p1 + (1 : Int32))).toNatClampNeg 0) &&& (255 : Int32))), .val (.int (p1 + (3 : Int32)))] [])) (fun t k => ?_) ?_
                        · show Steps p.tables e below (s₁.setTop (mkF m 215 #[.val (.ref a0), .val (.int p1), .val (.int ((bs.getD (p1).toNatClampNeg 0) &&& (255 : Int32))), .val (.int (4 : Int32)), .val (.int (144 : Int32)), .val (.int (191 : Int32)), .val (.int ((bs.getD ((p1 + (1 : Int32))).toNatClampNeg 0) &&& (255 : Int32))), .val (.int (p1 + (3 : Int32)))] [(.int (128 : Int32)), (.int ((bs.getD ((p1 + (3 : Int32))).toNatClampNeg 0) &&& (192 : Int32)))])) _
                          refine XS.icmpYes X0.here hx rfl (pc0 := 215) (pc' := 220) rfl (hb hby d5_215) rfl (teq hc215_1).1 (by decide) (by decide) ?_
                          exact k
                        refine own_go (B := s₁.setTop (mkF m 201 #[.val (.ref a0), .val (.int p1), .val (.int ((bs.getD (p1).toNatClampNeg 0) &&& (255 : Int32))), .val (.int (4 : Int32)), .val (.int (144 : Int32)), .val (.int (191 : Int32)), .val (.int ((bs.getD ((p1 + (1 : Int32))).toNatClampNeg 0) &&& (255 : Int32))), .val (.int (p1 + (4 : Int32)))] [(.int (p1 + (4 : Int32))), (.int (p1 + (4 : Int32)))])) (fun t k => ?_) ?_
                        · show Steps p.tables e below (s₁.setTop (mkF m 220 #[.val (.ref a0), .val (.int p1), .val (.int ((bs.getD (p1).toNatClampNeg 0) &&& (255 : Int32))), .val (.int (4 : Int32)), .val (.int (144 : Int32)), .val (.int (191 : Int32)), .val (.int ((bs.getD ((p1 + (1 : Int32))).toNatClampNeg 0) &&& (255 : Int32))), .val (.int (p1 + (3 : Int32)))] [])) _
                          refine XS.iinc X0.here hx rfl (hb hby d5_220) rfl (l' := #[.val (.ref a0), .val (.int p1), .val (.int ((bs.getD (p1).toNatClampNeg 0) &&& (255 : Int32))), .val (.int (4 : Int32)), .val (.int (144 : Int32)), .val (.int (191 : Int32)), .val (.int ((bs.getD ((p1 + (1 : Int32))).toNatClampNeg 0) &&& (255 : Int32))), .val (.int (p1 + (4 : Int32)))]) (by rw [show p1 + (4 : Int32) = (p1 + (3 : Int32)) + (1 : Int32) from by rw [Int32.add_assoc]; rfl]; rfl) ?_
                          show Steps p.tables e below (s₁.setTop (mkF m 223 #[.val (.ref a0), .val (.int p1), .val (.int ((bs.getD (p1).toNatClampNeg 0) &&& (255 : Int32))), .val (.int (4 : Int32)), .val (.int (144 : Int32)), .val (.int (191 : Int32)), .val (.int ((bs.getD ((p1 + (1 : Int32))).toNatClampNeg 0) &&& (255 : Int32))), .val (.int (p1 + (4 : Int32)))] [])) _
                          refine XS.goto X0.here hx rfl (pc0 := 223) (pc' := 196) rfl (hb hby d5_223) (by decide) (by decide) ?_
                          show Steps p.tables e below (s₁.setTop (mkF m 196 #[.val (.ref a0), .val (.int p1), .val (.int ((bs.getD (p1).toNatClampNeg 0) &&& (255 : Int32))), .val (.int (4 : Int32)), .val (.int (144 : Int32)), .val (.int (191 : Int32)), .val (.int ((bs.getD ((p1 + (1 : Int32))).toNatClampNeg 0) &&& (255 : Int32))), .val (.int (p1 + (4 : Int32)))] [])) _
                          refine XS.iload X0.here hx rfl (hb hby d5_196) rfl ?_
                          show Steps p.tables e below (s₁.setTop (mkF m 198 #[.val (.ref a0), .val (.int p1), .val (.int ((bs.getD (p1).toNatClampNeg 0) &&& (255 : Int32))), .val (.int (4 : Int32)), .val (.int (144 : Int32)), .val (.int (191 : Int32)), .val (.int ((bs.getD ((p1 + (1 : Int32))).toNatClampNeg 0) &&& (255 : Int32))), .val (.int (p1 + (4 : Int32)))] [(.int (p1 + (4 : Int32)))])) _
                          refine XS.iloadN X0.here hx rfl (hb hby d5_198) rfl ?_
                          show Steps p.tables e below (s₁.setTop (mkF m 199 #[.val (.ref a0), .val (.int p1), .val (.int ((bs.getD (p1).toNatClampNeg 0) &&& (255 : Int32))), .val (.int (4 : Int32)), .val (.int (144 : Int32)), .val (.int (191 : Int32)), .val (.int ((bs.getD ((p1 + (1 : Int32))).toNatClampNeg 0) &&& (255 : Int32))), .val (.int (p1 + (4 : Int32)))] [(.int p1), (.int (p1 + (4 : Int32)))])) _
                          refine XS.iloadN X0.here hx rfl (hb hby d5_199) rfl ?_
                          show Steps p.tables e below (s₁.setTop (mkF m 200 #[.val (.ref a0), .val (.int p1), .val (.int ((bs.getD (p1).toNatClampNeg 0) &&& (255 : Int32))), .val (.int (4 : Int32)), .val (.int (144 : Int32)), .val (.int (191 : Int32)), .val (.int ((bs.getD ((p1 + (1 : Int32))).toNatClampNeg 0) &&& (255 : Int32))), .val (.int (p1 + (4 : Int32)))] [(.int (4 : Int32)), (.int p1), (.int (p1 + (4 : Int32)))])) _
                          refine XS.iadd X0.here hx rfl (hb hby d5_200) rfl ?_
                          exact k
                        refine own_go (B := s₁.setTop (mkF m 226 #[.val (.ref a0), .val (.int p1), .val (.int ((bs.getD (p1).toNatClampNeg 0) &&& (255 : Int32))), .val (.int (4 : Int32)), .val (.int (144 : Int32)), .val (.int (191 : Int32)), .val (.int ((bs.getD ((p1 + (1 : Int32))).toNatClampNeg 0) &&& (255 : Int32))), .val (.int (p1 + (4 : Int32)))] [])) (fun t k => ?_) ?_
                        · show Steps p.tables e below (s₁.setTop (mkF m 201 #[.val (.ref a0), .val (.int p1), .val (.int ((bs.getD (p1).toNatClampNeg 0) &&& (255 : Int32))), .val (.int (4 : Int32)), .val (.int (144 : Int32)), .val (.int (191 : Int32)), .val (.int ((bs.getD ((p1 + (1 : Int32))).toNatClampNeg 0) &&& (255 : Int32))), .val (.int (p1 + (4 : Int32)))] [(.int (p1 + (4 : Int32))), (.int (p1 + (4 : Int32)))])) _
                          refine XS.icmpYes X0.here hx rfl (pc0 := 201) (pc' := 226) rfl (hb hby d5_201) rfl (flt Int32.lt_irrefl).2.1 (by decide) (by decide) ?_
                          exact k
                        refine own_go (B := s₁.setTop (mkF m 227 #[.val (.ref a0), .val (.int p1), .val (.int ((bs.getD (p1).toNatClampNeg 0) &&& (255 : Int32))), .val (.int (4 : Int32)), .val (.int (144 : Int32)), .val (.int (191 : Int32)), .val (.int ((bs.getD ((p1 + (1 : Int32))).toNatClampNeg 0) &&& (255 : Int32))), .val (.int (p1 + (4 : Int32)))] [(.int (4 : Int32))])) (fun t k => ?_) ?_
                        · show Steps p.tables e below (s₁.setTop (mkF m 226 #[.val (.ref a0), .val (.int p1), .val (.int ((bs.getD (p1).toNatClampNeg 0) &&& (255 : Int32))), .val (.int (4 : Int32)), .val (.int (144 : Int32)), .val (.int (191 : Int32)), .val (.int ((bs.getD ((p1 + (1 : Int32))).toNatClampNeg 0) &&& (255 : Int32))), .val (.int (p1 + (4 : Int32)))] [])) _
                          refine XS.iloadN X0.here hx rfl (hb hby d5_226) rfl ?_
                          exact k
                        obtain ⟨fs, hr, hrun, hended, hW, hsame⟩ := X0.leave (v := some (.int (4 : Int32))) (fun h => by rw [Bd.returns] at h; cases h)
                        refine ⟨_, _, ?_, hrun, hended, _, _, rfl, ?_, ⟨_, rfl⟩, hW, hsame.mono (by decide) (by decide)⟩
                        · show Steps p.tables e below (s₁.setTop (mkF m 227 #[.val (.ref a0), .val (.int p1), .val (.int ((bs.getD (p1).toNatClampNeg 0) &&& (255 : Int32))), .val (.int (4 : Int32)), .val (.int (144 : Int32)), .val (.int (191 : Int32)), .val (.int ((bs.getD ((p1 + (1 : Int32))).toNatClampNeg 0) &&& (255 : Int32))), .val (.int (p1 + (4 : Int32)))] [(.int (4 : Int32))])) _
                          exact retI X0 hx Bd.returns (hb hby d5_227) hr
                        · show Q5 Z a0 p1 kk z bs h0 n0 _ s₁.heap _
                          rw [e0]
                          exact ⟨by simp only [own_seq, if_pos hpz, if_pos hz, if_neg hc12, if_neg hc31, if_pos hc38, if_pos hc57, if_neg hc110, if_pos hc119, if_neg hc159, if_neg hc179, if_neg hc186, if_pos hc215, if_pos hc215_1], N0, rfl⟩
                      · refine own_go (B := s₁.setTop (mkF m 218 #[.val (.ref a0), .val (.int p1), .val (.int ((bs.getD (p1).toNatClampNeg 0) &&& (255 : Int32))), .val (.int (4 : Int32)), .val (.int (144 : Int32)), .val (.int (191 : Int32)), .val (.int ((bs.getD ((p1 + (1 : Int32))).toNatClampNeg 0) &&& (255 : Int32))), .val (.int (p1 + (3 : Int32)))] [])) (fun t k => ?_) ?_
                        · show Steps p.tables e below (s₁.setTop (mkF m 215 #[.val (.ref a0), .val (.int p1), .val (.int ((bs.getD (p1).toNatClampNeg 0) &&& (255 : Int32))), .val (.int (4 : Int32)), .val (.int (144 : Int32)), .val (.int (191 : Int32)), .val (.int ((bs.getD ((p1 + (1 : Int32))).toNatClampNeg 0) &&& (255 : Int32))), .val (.int (p1 + (3 : Int32)))] [(.int (128 : Int32)), (.int ((bs.getD ((p1 + (3 : Int32))).toNatClampNeg 0) &&& (192 : Int32)))])) _
                          refine XS.icmpNo X0.here hx rfl (hb hby d5_215) rfl (feq hc215_1).1 ?_
                          exact k
                        refine own_go (B := s₁.setTop (mkF m 219 #[.val (.ref a0), .val (.int p1), .val (.int ((bs.getD (p1).toNatClampNeg 0) &&& (255 : Int32))), .val (.int (4 : Int32)), .val (.int (144 : Int32)), .val (.int (191 : Int32)), .val (.int ((bs.getD ((p1 + (1 : Int32))).toNatClampNeg 0) &&& (255 : Int32))), .val (.int (p1 + (3 : Int32)))] [(.int (0 : Int32))])) (fun t k => ?_) ?_
                        · show Steps p.tables e below (s₁.setTop (mkF m 218 #[.val (.ref a0), .val (.int p1), .val (.int ((bs.getD (p1).toNatClampNeg 0) &&& (255 : Int32))), .val (.int (4 : Int32)), .val (.int (144 : Int32)), .val (.int (191 : Int32)), .val (.int ((bs.getD ((p1 + (1 : Int32))).toNatClampNeg 0) &&& (255 : Int32))), .val (.int (p1 + (3 : Int32)))] [])) _
                          refine XS.iconst X0.here hx rfl (hb hby d5_218) ?_
                          exact k
                        obtain ⟨fs, hr, hrun, hended, hW, hsame⟩ := X0.leave (v := some (.int (0 : Int32))) (fun h => by rw [Bd.returns] at h; cases h)
                        refine ⟨_, _, ?_, hrun, hended, _, _, rfl, ?_, ⟨_, rfl⟩, hW, hsame.mono (by decide) (by decide)⟩
                        · show Steps p.tables e below (s₁.setTop (mkF m 219 #[.val (.ref a0), .val (.int p1), .val (.int ((bs.getD (p1).toNatClampNeg 0) &&& (255 : Int32))), .val (.int (4 : Int32)), .val (.int (144 : Int32)), .val (.int (191 : Int32)), .val (.int ((bs.getD ((p1 + (1 : Int32))).toNatClampNeg 0) &&& (255 : Int32))), .val (.int (p1 + (3 : Int32)))] [(.int (0 : Int32))])) _
                          exact retI X0 hx Bd.returns (hb hby d5_219) hr
                        · show Q5 Z a0 p1 kk z bs h0 n0 _ s₁.heap _
                          rw [e0]
                          exact ⟨by simp only [own_seq, if_pos hpz, if_pos hz, if_neg hc12, if_neg hc31, if_pos hc38, if_pos hc57, if_neg hc110, if_pos hc119, if_neg hc159, if_neg hc179, if_neg hc186, if_pos hc215, if_neg hc215_1], N0, rfl⟩
                    · refine own_go (B := s₁.setTop (mkF m 218 #[.val (.ref a0), .val (.int p1), .val (.int ((bs.getD (p1).toNatClampNeg 0) &&& (255 : Int32))), .val (.int (4 : Int32)), .val (.int (144 : Int32)), .val (.int (191 : Int32)), .val (.int ((bs.getD ((p1 + (1 : Int32))).toNatClampNeg 0) &&& (255 : Int32))), .val (.int (p1 + (2 : Int32)))] [])) (fun t k => ?_) ?_
                      · show Steps p.tables e below (s₁.setTop (mkF m 215 #[.val (.ref a0), .val (.int p1), .val (.int ((bs.getD (p1).toNatClampNeg 0) &&& (255 : Int32))), .val (.int (4 : Int32)), .val (.int (144 : Int32)), .val (.int (191 : Int32)), .val (.int ((bs.getD ((p1 + (1 : Int32))).toNatClampNeg 0) &&& (255 : Int32))), .val (.int (p1 + (2 : Int32)))] [(.int (128 : Int32)), (.int ((bs.getD ((p1 + (2 : Int32))).toNatClampNeg 0) &&& (192 : Int32)))])) _
                        refine XS.icmpNo X0.here hx rfl (hb hby d5_215) rfl (feq hc215).1 ?_
                        exact k
                      refine own_go (B := s₁.setTop (mkF m 219 #[.val (.ref a0), .val (.int p1), .val (.int ((bs.getD (p1).toNatClampNeg 0) &&& (255 : Int32))), .val (.int (4 : Int32)), .val (.int (144 : Int32)), .val (.int (191 : Int32)), .val (.int ((bs.getD ((p1 + (1 : Int32))).toNatClampNeg 0) &&& (255 : Int32))), .val (.int (p1 + (2 : Int32)))] [(.int (0 : Int32))])) (fun t k => ?_) ?_
                      · show Steps p.tables e below (s₁.setTop (mkF m 218 #[.val (.ref a0), .val (.int p1), .val (.int ((bs.getD (p1).toNatClampNeg 0) &&& (255 : Int32))), .val (.int (4 : Int32)), .val (.int (144 : Int32)), .val (.int (191 : Int32)), .val (.int ((bs.getD ((p1 + (1 : Int32))).toNatClampNeg 0) &&& (255 : Int32))), .val (.int (p1 + (2 : Int32)))] [])) _
                        refine XS.iconst X0.here hx rfl (hb hby d5_218) ?_
                        exact k
                      obtain ⟨fs, hr, hrun, hended, hW, hsame⟩ := X0.leave (v := some (.int (0 : Int32))) (fun h => by rw [Bd.returns] at h; cases h)
                      refine ⟨_, _, ?_, hrun, hended, _, _, rfl, ?_, ⟨_, rfl⟩, hW, hsame.mono (by decide) (by decide)⟩
                      · show Steps p.tables e below (s₁.setTop (mkF m 219 #[.val (.ref a0), .val (.int p1), .val (.int ((bs.getD (p1).toNatClampNeg 0) &&& (255 : Int32))), .val (.int (4 : Int32)), .val (.int (144 : Int32)), .val (.int (191 : Int32)), .val (.int ((bs.getD ((p1 + (1 : Int32))).toNatClampNeg 0) &&& (255 : Int32))), .val (.int (p1 + (2 : Int32)))] [(.int (0 : Int32))])) _
                        exact retI X0 hx Bd.returns (hb hby d5_219) hr
                      · show Q5 Z a0 p1 kk z bs h0 n0 _ s₁.heap _
                        rw [e0]
                        exact ⟨by simp only [own_seq, if_pos hpz, if_pos hz, if_neg hc12, if_neg hc31, if_pos hc38, if_pos hc57, if_neg hc110, if_pos hc119, if_neg hc159, if_neg hc179, if_neg hc186, if_neg hc215], N0, rfl⟩
            · refine own_go (B := s₁.setTop (mkF m 128 #[.val (.ref a0), .val (.int p1), .val (.int ((bs.getD (p1).toNatClampNeg 0) &&& (255 : Int32))), .val (.int (4 : Int32)), .val (.int (128 : Int32)), .val (.int (191 : Int32)), .unset, .unset] [])) (fun t k => ?_) ?_
              · show Steps p.tables e below (s₁.setTop (mkF m 119 #[.val (.ref a0), .val (.int p1), .val (.int ((bs.getD (p1).toNatClampNeg 0) &&& (255 : Int32))), .val (.int (4 : Int32)), .val (.int (128 : Int32)), .val (.int (191 : Int32)), .unset, .unset] [(.int (240 : Int32)), (.int ((bs.getD (p1).toNatClampNeg 0) &&& (255 : Int32)))])) _
                refine XS.icmpYes X0.here hx rfl (pc0 := 119) (pc' := 128) rfl (hb hby d5_119) rfl (feq hc119).2 (by decide) (by decide) ?_
                exact k
              refine own_go (B := s₁.setTop (mkF m 136 #[.val (.ref a0), .val (.int p1), .val (.int ((bs.getD (p1).toNatClampNeg 0) &&& (255 : Int32))), .val (.int (4 : Int32)), .val (.int (128 : Int32)), .val (.int (191 : Int32)), .unset, .unset] [(.int (244 : Int32)), (.int ((bs.getD (p1).toNatClampNeg 0) &&& (255 : Int32)))])) (fun t k => ?_) ?_
              · show Steps p.tables e below (s₁.setTop (mkF m 128 #[.val (.ref a0), .val (.int p1), .val (.int ((bs.getD (p1).toNatClampNeg 0) &&& (255 : Int32))), .val (.int (4 : Int32)), .val (.int (128 : Int32)), .val (.int (191 : Int32)), .unset, .unset] [])) _
                refine XS.iload X0.here hx rfl (hb hby d5_128) rfl ?_
                show Steps p.tables e below (s₁.setTop (mkF m 130 #[.val (.ref a0), .val (.int p1), .val (.int ((bs.getD (p1).toNatClampNeg 0) &&& (255 : Int32))), .val (.int (4 : Int32)), .val (.int (128 : Int32)), .val (.int (191 : Int32)), .unset, .unset] [(.int (128 : Int32))])) _
                refine XS.istore X0.here hx rfl (hb hby d5_130) rfl (l' := #[.val (.ref a0), .val (.int p1), .val (.int ((bs.getD (p1).toNatClampNeg 0) &&& (255 : Int32))), .val (.int (4 : Int32)), .val (.int (128 : Int32)), .val (.int (191 : Int32)), .unset, .unset]) rfl ?_
                show Steps p.tables e below (s₁.setTop (mkF m 132 #[.val (.ref a0), .val (.int p1), .val (.int ((bs.getD (p1).toNatClampNeg 0) &&& (255 : Int32))), .val (.int (4 : Int32)), .val (.int (128 : Int32)), .val (.int (191 : Int32)), .unset, .unset] [])) _
                refine XS.iloadN X0.here hx rfl (hb hby d5_132) rfl ?_
                show Steps p.tables e below (s₁.setTop (mkF m 133 #[.val (.ref a0), .val (.int p1), .val (.int ((bs.getD (p1).toNatClampNeg 0) &&& (255 : Int32))), .val (.int (4 : Int32)), .val (.int (128 : Int32)), .val (.int (191 : Int32)), .unset, .unset] [(.int ((bs.getD (p1).toNatClampNeg 0) &&& (255 : Int32)))])) _
                refine XS.sipush X0.here hx rfl (hb hby d5_133) ?_
                exact k
              by_cases hc136 : ((bs.getD (p1).toNatClampNeg 0) &&& (255 : Int32)) = (244 : Int32)
              · refine own_go (B := s₁.setTop (mkF m 139 #[.val (.ref a0), .val (.int p1), .val (.int ((bs.getD (p1).toNatClampNeg 0) &&& (255 : Int32))), .val (.int (4 : Int32)), .val (.int (128 : Int32)), .val (.int (191 : Int32)), .unset, .unset] [])) (fun t k => ?_) ?_
                · show Steps p.tables e below (s₁.setTop (mkF m 136 #[.val (.ref a0), .val (.int p1), .val (.int ((bs.getD (p1).toNatClampNeg 0) &&& (255 : Int32))), .val (.int (4 : Int32)), .val (.int (128 : Int32)), .val (.int (191 : Int32)), .unset, .unset] [(.int (244 : Int32)), (.int ((bs.getD (p1).toNatClampNeg 0) &&& (255 : Int32)))])) _
                  refine XS.icmpNo X0.here hx rfl (hb hby d5_136) rfl (teq hc136).2 ?_
                  exact k
                refine own_go (B := s₁.setTop (mkF m 158 #[.val (.ref a0), .val (.int p1), .val (.int ((bs.getD (p1).toNatClampNeg 0) &&& (255 : Int32))), .val (.int (4 : Int32)), .val (.int (128 : Int32)), .val (.int (143 : Int32)), .unset, .unset] [(.ref a0), (.int (p1 + (4 : Int32)))])) (fun t k => ?_) ?_
                · show Steps p.tables e below (s₁.setTop (mkF m 139 #[.val (.ref a0), .val (.int p1), .val (.int ((bs.getD (p1).toNatClampNeg 0) &&& (255 : Int32))), .val (.int (4 : Int32)), .val (.int (128 : Int32)), .val (.int (191 : Int32)), .unset, .unset] [])) _
                  refine XS.sipush X0.here hx rfl (hb hby d5_139) ?_
                  show Steps p.tables e below (s₁.setTop (mkF m 142 #[.val (.ref a0), .val (.int p1), .val (.int ((bs.getD (p1).toNatClampNeg 0) &&& (255 : Int32))), .val (.int (4 : Int32)), .val (.int (128 : Int32)), .val (.int (191 : Int32)), .unset, .unset] [(.int (143 : Int32))])) _
                  refine XS.goto X0.here hx rfl (pc0 := 142) (pc' := 147) rfl (hb hby d5_142) (by decide) (by decide) ?_
                  show Steps p.tables e below (s₁.setTop (mkF m 147 #[.val (.ref a0), .val (.int p1), .val (.int ((bs.getD (p1).toNatClampNeg 0) &&& (255 : Int32))), .val (.int (4 : Int32)), .val (.int (128 : Int32)), .val (.int (191 : Int32)), .unset, .unset] [(.int (143 : Int32))])) _
                  refine XS.istore X0.here hx rfl (hb hby d5_147) rfl (l' := #[.val (.ref a0), .val (.int p1), .val (.int ((bs.getD (p1).toNatClampNeg 0) &&& (255 : Int32))), .val (.int (4 : Int32)), .val (.int (128 : Int32)), .val (.int (143 : Int32)), .unset, .unset]) rfl ?_
                  show Steps p.tables e below (s₁.setTop (mkF m 149 #[.val (.ref a0), .val (.int p1), .val (.int ((bs.getD (p1).toNatClampNeg 0) &&& (255 : Int32))), .val (.int (4 : Int32)), .val (.int (128 : Int32)), .val (.int (143 : Int32)), .unset, .unset] [])) _
                  refine XS.goto X0.here hx rfl (pc0 := 149) (pc' := 154) rfl (hb hby d5_149) (by decide) (by decide) ?_
                  show Steps p.tables e below (s₁.setTop (mkF m 154 #[.val (.ref a0), .val (.int p1), .val (.int ((bs.getD (p1).toNatClampNeg 0) &&& (255 : Int32))), .val (.int (4 : Int32)), .val (.int (128 : Int32)), .val (.int (143 : Int32)), .unset, .unset] [])) _
                  refine XS.iloadN X0.here hx rfl (hb hby d5_154) rfl ?_
                  show Steps p.tables e below (s₁.setTop (mkF m 155 #[.val (.ref a0), .val (.int p1), .val (.int ((bs.getD (p1).toNatClampNeg 0) &&& (255 : Int32))), .val (.int (4 : Int32)), .val (.int (128 : Int32)), .val (.int (143 : Int32)), .unset, .unset] [(.int p1)])) _
                  refine XS.iloadN X0.here hx rfl (hb hby d5_155) rfl ?_
                  show Steps p.tables e below (s₁.setTop (mkF m 156 #[.val (.ref a0), .val (.int p1), .val (.int ((bs.getD (p1).toNatClampNeg 0) &&& (255 : Int32))), .val (.int (4 : Int32)), .val (.int (128 : Int32)), .val (.int (143 : Int32)), .unset, .unset] [(.int (4 : Int32)), (.int p1)])) _
                  refine XS.iadd X0.here hx rfl (hb hby d5_156) rfl ?_
                  show Steps p.tables e below (s₁.setTop (mkF m 157 #[.val (.ref a0), .val (.int p1), .val (.int ((bs.getD (p1).toNatClampNeg 0) &&& (255 : Int32))), .val (.int (4 : Int32)), .val (.int (128 : Int32)), .val (.int (143 : Int32)), .unset, .unset] [(.int (p1 + (4 : Int32)))])) _
                  refine XS.aloadN X0.here hx rfl (hb hby d5_157) rfl rfl ?_
                  exact k
                obtain ⟨cl_6, Ar_6, -, S_6, M_6, -, -⟩ := id V0
                refine own_go (B := s₁.setTop (mkF m 159 #[.val (.ref a0), .val (.int p1), .val (.int ((bs.getD (p1).toNatClampNeg 0) &&& (255 : Int32))), .val (.int (4 : Int32)), .val (.int (128 : Int32)), .val (.int (143 : Int32)), .unset, .unset] [(.int z), (.int (p1 + (4 : Int32)))])) (fun t k => X0.arraylength hx (by rw [(e0 : _ = _)]; exact Ar_6.1) (State.isArrayOf_alike hZ.alike Ar_6.2.1) (g := (mkF m 158 #[.val (.ref a0), .val (.int p1), .val (.int ((bs.getD (p1).toNatClampNeg 0) &&& (255 : Int32))), .val (.int (4 : Int32)), .val (.int (128 : Int32)), .val (.int (143 : Int32)), .unset, .unset] [(.ref a0), (.int (p1 + (4 : Int32)))])) rfl rfl (hb hby d5_158) t (by rw [len_of S_6 M_6]; exact k)) ?_
                by_cases hc159 : z < (p1 + (4 : Int32))
                · refine own_go (B := s₁.setTop (mkF m 162 #[.val (.ref a0), .val (.int p1), .val (.int ((bs.getD (p1).toNatClampNeg 0) &&& (255 : Int32))), .val (.int (4 : Int32)), .val (.int (128 : Int32)), .val (.int (143 : Int32)), .unset, .unset] [])) (fun t k => ?_) ?_
                  · show Steps p.tables e below (s₁.setTop (mkF m 159 #[.val (.ref a0), .val (.int p1), .val (.int ((bs.getD (p1).toNatClampNeg 0) &&& (255 : Int32))), .val (.int (4 : Int32)), .val (.int (128 : Int32)), .val (.int (143 : Int32)), .unset, .unset] [(.int z), (.int (p1 + (4 : Int32)))])) _
                    refine XS.icmpNo X0.here hx rfl (hb hby d5_159) rfl (tlt hc159).2.2.2 ?_
                    exact k
                  refine own_go (B := s₁.setTop (mkF m 163 #[.val (.ref a0), .val (.int p1), .val (.int ((bs.getD (p1).toNatClampNeg 0) &&& (255 : Int32))), .val (.int (4 : Int32)), .val (.int (128 : Int32)), .val (.int (143 : Int32)), .unset, .unset] [(.int (0 : Int32))])) (fun t k => ?_) ?_
                  · show Steps p.tables e below (s₁.setTop (mkF m 162 #[.val (.ref a0), .val (.int p1), .val (.int ((bs.getD (p1).toNatClampNeg 0) &&& (255 : Int32))), .val (.int (4 : Int32)), .val (.int (128 : Int32)), .val (.int (143 : Int32)), .unset, .unset] [])) _
                    refine XS.iconst X0.here hx rfl (hb hby d5_162) ?_
                    exact k
                  obtain ⟨fs, hr, hrun, hended, hW, hsame⟩ := X0.leave (v := some (.int (0 : Int32))) (fun h => by rw [Bd.returns] at h; cases h)
                  refine ⟨_, _, ?_, hrun, hended, _, _, rfl, ?_, ⟨_, rfl⟩, hW, hsame.mono (by decide) (by decide)⟩
                  · show Steps p.tables e below (s₁.setTop (mkF m 163 #[.val (.ref a0), .val (.int p1), .val (.int ((bs.getD (p1).toNatClampNeg 0) &&& (255 : Int32))), .val (.int (4 : Int32)), .val (.int (128 : Int32)), .val (.int (143 : Int32)), .unset, .unset] [(.int (0 : Int32))])) _
                    exact retI X0 hx Bd.returns (hb hby d5_163) hr
                  · show Q5 Z a0 p1 kk z bs h0 n0 _ s₁.heap _
                    rw [e0]
                    exact ⟨by simp only [own_seq, if_pos hpz, if_pos hz, if_neg hc12, if_neg hc31, if_pos hc38, if_pos hc57, if_neg hc110, if_neg hc119, if_pos hc136, if_pos hc159], N0, rfl⟩
                · refine own_go (B := s₁.setTop (mkF m 164 #[.val (.ref a0), .val (.int p1), .val (.int ((bs.getD (p1).toNatClampNeg 0) &&& (255 : Int32))), .val (.int (4 : Int32)), .val (.int (128 : Int32)), .val (.int (143 : Int32)), .unset, .unset] [])) (fun t k => ?_) ?_
                  · show Steps p.tables e below (s₁.setTop (mkF m 159 #[.val (.ref a0), .val (.int p1), .val (.int ((bs.getD (p1).toNatClampNeg 0) &&& (255 : Int32))), .val (.int (4 : Int32)), .val (.int (128 : Int32)), .val (.int (143 : Int32)), .unset, .unset] [(.int z), (.int (p1 + (4 : Int32)))])) _
                    refine XS.icmpYes X0.here hx rfl (pc0 := 159) (pc' := 164) rfl (hb hby d5_159) rfl (flt hc159).2.2.2 (by decide) (by decide) ?_
                    exact k
                  refine own_go (B := s₁.setTop (mkF m 168 #[.val (.ref a0), .val (.int p1), .val (.int ((bs.getD (p1).toNatClampNeg 0) &&& (255 : Int32))), .val (.int (4 : Int32)), .val (.int (128 : Int32)), .val (.int (143 : Int32)), .unset, .unset] [(.int (p1 + (1 : Int32))), (.ref a0)])) (fun t k => ?_) ?_
                  · show Steps p.tables e below (s₁.setTop (mkF m 164 #[.val (.ref a0), .val (.int p1), .val (.int ((bs.getD (p1).toNatClampNeg 0) &&& (255 : Int32))), .val (.int (4 : Int32)), .val (.int (128 : Int32)), .val (.int (143 : Int32)), .unset, .unset] [])) _
                    refine XS.aloadN X0.here hx rfl (hb hby d5_164) rfl rfl ?_
                    show Steps p.tables e below (s₁.setTop (mkF m 165 #[.val (.ref a0), .val (.int p1), .val (.int ((bs.getD (p1).toNatClampNeg 0) &&& (255 : Int32))), .val (.int (4 : Int32)), .val (.int (128 : Int32)), .val (.int (143 : Int32)), .unset, .unset] [(.ref a0)])) _
                    refine XS.iloadN X0.here hx rfl (hb hby d5_165) rfl ?_
                    show Steps p.tables e below (s₁.setTop (mkF m 166 #[.val (.ref a0), .val (.int p1), .val (.int ((bs.getD (p1).toNatClampNeg 0) &&& (255 : Int32))), .val (.int (4 : Int32)), .val (.int (128 : Int32)), .val (.int (143 : Int32)), .unset, .unset] [(.int p1), (.ref a0)])) _
                    refine XS.iconst X0.here hx rfl (hb hby d5_166) ?_
                    show Steps p.tables e below (s₁.setTop (mkF m 167 #[.val (.ref a0), .val (.int p1), .val (.int ((bs.getD (p1).toNatClampNeg 0) &&& (255 : Int32))), .val (.int (4 : Int32)), .val (.int (128 : Int32)), .val (.int (143 : Int32)), .unset, .unset] [(.int (1 : Int32)), (.int p1), (.ref a0)])) _
                    refine XS.iadd X0.here hx rfl (hb hby d5_167) rfl ?_
                    exact k
                  obtain ⟨cl_7, Ar_7, q_7, S_7, M_7, H_7, G_7⟩ := id V0
                  have hin_7 : ¬ ((p1 + (1 : Int32)) < 0 ∨ cl_7.slots.size ≤ ((p1 + (1 : Int32))).toNatClampNeg) := inb_of S_7 (own_inb p1 z (1 : Int32) (4 : Int32) hp hpz hz hc159 (by decide))
                  have hat_7 : cl_7.slots[((p1 + (1 : Int32))).toNatClampNeg]? = some (.int (bs.getD ((p1 + (1 : Int32))).toNatClampNeg 0)) := H_7.at hin_7 (own_map bs _)
                  refine own_go (B := s₁.setTop (mkF m 169 #[.val (.ref a0), .val (.int p1), .val (.int ((bs.getD (p1).toNatClampNeg 0) &&& (255 : Int32))), .val (.int (4 : Int32)), .val (.int (128 : Int32)), .val (.int (143 : Int32)), .unset, .unset] [(.int (bs.getD ((p1 + (1 : Int32))).toNatClampNeg 0))])) (fun t k => X0.baloadBytes hx (j := (p1 + (1 : Int32))) (v := (.int (bs.getD ((p1 + (1 : Int32))).toNatClampNeg 0))) (by rw [(e0 : _ = _)]; exact Ar_7.1) (State.isArrayOf_alike hZ.alike Ar_7.2.1) Ar_7.2.2 hin_7 hat_7 (g := (mkF m 168 #[.val (.ref a0), .val (.int p1), .val (.int ((bs.getD (p1).toNatClampNeg 0) &&& (255 : Int32))), .val (.int (4 : Int32)), .val (.int (128 : Int32)), .val (.int (143 : Int32)), .unset, .unset] [(.int (p1 + (1 : Int32))), (.ref a0)])) rfl rfl (hb hby d5_168) t k) ?_
                  refine own_go (B := s₁.setTop (mkF m 179 #[.val (.ref a0), .val (.int p1), .val (.int ((bs.getD (p1).toNatClampNeg 0) &&& (255 : Int32))), .val (.int (4 : Int32)), .val (.int (128 : Int32)), .val (.int (143 : Int32)), .val (.int ((bs.getD ((p1 + (1 : Int32))).toNatClampNeg 0) &&& (255 : Int32))), .unset] [(.int (128 : Int32)), (.int ((bs.getD ((p1 + (1 : Int32))).toNatClampNeg 0) &&& (255 : Int32)))])) (fun t k => ?_) ?_
                  · show Steps p.tables e below (s₁.setTop (mkF m 169 #[.val (.ref a0), .val (.int p1), .val (.int ((bs.getD (p1).toNatClampNeg 0) &&& (255 : Int32))), .val (.int (4 : Int32)), .val (.int (128 : Int32)), .val (.int (143 : Int32)), .unset, .unset] [(.int (bs.getD ((p1 + (1 : Int32))).toNatClampNeg 0))])) _
                    refine XS.sipush X0.here hx rfl (hb hby d5_169) ?_
                    show Steps p.tables e below (s₁.setTop (mkF m 172 #[.val (.ref a0), .val (.int p1), .val (.int ((bs.getD (p1).toNatClampNeg 0) &&& (255 : Int32))), .val (.int (4 : Int32)), .val (.int (128 : Int32)), .val (.int (143 : Int32)), .unset, .unset] [(.int (255 : Int32)), (.int (bs.getD ((p1 + (1 : Int32))).toNatClampNeg 0))])) _
                    refine XS.iand X0.here hx rfl (hb hby d5_172) rfl ?_
                    show Steps p.tables e below (s₁.setTop (mkF m 173 #[.val (.ref a0), .val (.int p1), .val (.int ((bs.getD (p1).toNatClampNeg 0) &&& (255 : Int32))), .val (.int (4 : Int32)), .val (.int (128 : Int32)), .val (.int (143 : Int32)), .unset, .unset] [(.int ((bs.getD ((p1 + (1 : Int32))).toNatClampNeg 0) &&& (255 : Int32)))])) _
                    refine XS.istore X0.here hx rfl (hb hby d5_173) rfl (l' := #[.val (.ref a0), .val (.int p1), .val (.int ((bs.getD (p1).toNatClampNeg 0) &&& (255 : Int32))), .val (.int (4 : Int32)), .val (.int (128 : Int32)), .val (.int (143 : Int32)), .val (.int ((bs.getD ((p1 + (1 : Int32))).toNatClampNeg 0) &&& (255 : Int32))), .unset]) rfl ?_
                    show Steps p.tables e below (s₁.setTop (mkF m 175 #[.val (.ref a0), .val (.int p1), .val (.int ((bs.getD (p1).toNatClampNeg 0) &&& (255 : Int32))), .val (.int (4 : Int32)), .val (.int (128 : Int32)), .val (.int (143 : Int32)), .val (.int ((bs.getD ((p1 + (1 : Int32))).toNatClampNeg 0) &&& (255 : Int32))), .unset] [])) _
                    refine XS.iload X0.here hx rfl (hb hby d5_175) rfl ?_
                    show Steps p.tables e below (s₁.setTop (mkF m 177 #[.val (.ref a0), .val (.int p1), .val (.int ((bs.getD (p1).toNatClampNeg 0) &&& (255 : Int32))), .val (.int (4 : Int32)), .val (.int (128 : Int32)), .val (.int (143 : Int32)), .val (.int ((bs.getD ((p1 + (1 : Int32))).toNatClampNeg 0) &&& (255 : Int32))), .unset] [(.int ((bs.getD ((p1 + (1 : Int32))).toNatClampNeg 0) &&& (255 : Int32)))])) _
                    refine XS.iload X0.here hx rfl (hb hby d5_177) rfl ?_
                    exact k
                  by_cases hc179 : ((bs.getD ((p1 + (1 : Int32))).toNatClampNeg 0) &&& (255 : Int32)) < (128 : Int32)
                  · refine own_go (B := s₁.setTop (mkF m 189 #[.val (.ref a0), .val (.int p1), .val (.int ((bs.getD (p1).toNatClampNeg 0) &&& (255 : Int32))), .val (.int (4 : Int32)), .val (.int (128 : Int32)), .val (.int (143 : Int32)), .val (.int ((bs.getD ((p1 + (1 : Int32))).toNatClampNeg 0) &&& (255 : Int32))), .unset] [])) (fun t k => ?_) ?_
                    · show Steps p.tables e below (s₁.setTop (mkF m 179 #[.val (.ref a0), .val (.int p1), .val (.int ((bs.getD (p1).toNatClampNeg 0) &&& (255 : Int32))), .val (.int (4 : Int32)), .val (.int (128 : Int32)), .val (.int (143 : Int32)), .val (.int ((bs.getD ((p1 + (1 : Int32))).toNatClampNeg 0) &&& (255 : Int32))), .unset] [(.int (128 : Int32)), (.int ((bs.getD ((p1 + (1 : Int32))).toNatClampNeg 0) &&& (255 : Int32)))])) _
                      refine XS.icmpYes X0.here hx rfl (pc0 := 179) (pc' := 189) rfl (hb hby d5_179) rfl (tlt hc179).1 (by decide) (by decide) ?_
                      exact k
                    refine own_go (B := s₁.setTop (mkF m 190 #[.val (.ref a0), .val (.int p1), .val (.int ((bs.getD (p1).toNatClampNeg 0) &&& (255 : Int32))), .val (.int (4 : Int32)), .val (.int (128 : Int32)), .val (.int (143 : Int32)), .val (.int ((bs.getD ((p1 + (1 : Int32))).toNatClampNeg 0) &&& (255 : Int32))), .unset] [(.int (0 : Int32))])) (fun t k => ?_) ?_
                    · show Steps p.tables e below (s₁.setTop (mkF m 189 #[.val (.ref a0), .val (.int p1), .val (.int ((bs.getD (p1).toNatClampNeg 0) &&& (255 : Int32))), .val (.int (4 : Int32)), .val (.int (128 : Int32)), .val (.int (143 : Int32)), .val (.int ((bs.getD ((p1 + (1 : Int32))).toNatClampNeg 0) &&& (255 : Int32))), .unset] [])) _
                      refine XS.iconst X0.here hx rfl (hb hby d5_189) ?_
                      exact k
                    obtain ⟨fs, hr, hrun, hended, hW, hsame⟩ := X0.leave (v := some (.int (0 : Int32))) (fun h => by rw [Bd.returns] at h; cases h)
                    refine ⟨_, _, ?_, hrun, hended, _, _, rfl, ?_, ⟨_, rfl⟩, hW, hsame.mono (by decide) (by decide)⟩
                    · show Steps p.tables e below (s₁.setTop (mkF m 190 #[.val (.ref a0), .val (.int p1), .val (.int ((bs.getD (p1).toNatClampNeg 0) &&& (255 : Int32))), .val (.int (4 : Int32)), .val (.int (128 : Int32)), .val (.int (143 : Int32)), .val (.int ((bs.getD ((p1 + (1 : Int32))).toNatClampNeg 0) &&& (255 : Int32))), .unset] [(.int (0 : Int32))])) _
                      exact retI X0 hx Bd.returns (hb hby d5_190) hr
                    · show Q5 Z a0 p1 kk z bs h0 n0 _ s₁.heap _
                      rw [e0]
                      exact ⟨by simp only [own_seq, if_pos hpz, if_pos hz, if_neg hc12, if_neg hc31, if_pos hc38, if_pos hc57, if_neg hc110, if_neg hc119, if_pos hc136, if_neg hc159, if_pos hc179], N0, rfl⟩
                  · refine own_go (B := s₁.setTop (mkF m 182 #[.val (.ref a0), .val (.int p1), .val (.int ((bs.getD (p1).toNatClampNeg 0) &&& (255 : Int32))), .val (.int (4 : Int32)), .val (.int (128 : Int32)), .val (.int (143 : Int32)), .val (.int ((bs.getD ((p1 + (1 : Int32))).toNatClampNeg 0) &&& (255 : Int32))), .unset] [])) (fun t k => ?_) ?_
                    · show Steps p.tables e below (s₁.setTop (mkF m 179 #[.val (.ref a0), .val (.int p1), .val (.int ((bs.getD (p1).toNatClampNeg 0) &&& (255 : Int32))), .val (.int (4 : Int32)), .val (.int (128 : Int32)), .val (.int (143 : Int32)), .val (.int ((bs.getD ((p1 + (1 : Int32))).toNatClampNeg 0) &&& (255 : Int32))), .unset] [(.int (128 : Int32)), (.int ((bs.getD ((p1 + (1 : Int32))).toNatClampNeg 0) &&& (255 : Int32)))])) _
                      refine XS.icmpNo X0.here hx rfl (hb hby d5_179) rfl (flt hc179).1 ?_
                      exact k
                    refine own_go (B := s₁.setTop (mkF m 186 #[.val (.ref a0), .val (.int p1), .val (.int ((bs.getD (p1).toNatClampNeg 0) &&& (255 : Int32))), .val (.int (4 : Int32)), .val (.int (128 : Int32)), .val (.int (143 : Int32)), .val (.int ((bs.getD ((p1 + (1 : Int32))).toNatClampNeg 0) &&& (255 : Int32))), .unset] [(.int (143 : Int32)), (.int ((bs.getD ((p1 + (1 : Int32))).toNatClampNeg 0) &&& (255 : Int32)))])) (fun t k => ?_) ?_
                    · show Steps p.tables e below (s₁.setTop (mkF m 182 #[.val (.ref a0), .val (.int p1), .val (.int ((bs.getD (p1).toNatClampNeg 0) &&& (255 : Int32))), .val (.int (4 : Int32)), .val (.int (128 : Int32)), .val (.int (143 : Int32)), .val (.int ((bs.getD ((p1 + (1 : Int32))).toNatClampNeg 0) &&& (255 : Int32))), .unset] [])) _
                      refine XS.iload X0.here hx rfl (hb hby d5_182) rfl ?_
                      show Steps p.tables e below (s₁.setTop (mkF m 184 #[.val (.ref a0), .val (.int p1), .val (.int ((bs.getD (p1).toNatClampNeg 0) &&& (255 : Int32))), .val (.int (4 : Int32)), .val (.int (128 : Int32)), .val (.int (143 : Int32)), .val (.int ((bs.getD ((p1 + (1 : Int32))).toNatClampNeg 0) &&& (255 : Int32))), .unset] [(.int ((bs.getD ((p1 + (1 : Int32))).toNatClampNeg 0) &&& (255 : Int32)))])) _
                      refine XS.iload X0.here hx rfl (hb hby d5_184) rfl ?_
                      exact k
                    by_cases hc186 : (143 : Int32) < ((bs.getD ((p1 + (1 : Int32))).toNatClampNeg 0) &&& (255 : Int32))
                    · refine own_go (B := s₁.setTop (mkF m 189 #[.val (.ref a0), .val (.int p1), .val (.int ((bs.getD (p1).toNatClampNeg 0) &&& (255 : Int32))), .val (.int (4 : Int32)), .val (.int (128 : Int32)), .val (.int (143 : Int32)), .val (.int ((bs.getD ((p1 + (1 : Int32))).toNatClampNeg 0) &&& (255 : Int32))), .unset] [])) (fun t k => ?_) ?_
                      · show Steps p.tables e below (s₁.setTop (mkF m 186 #[.val (.ref a0), .val (.int p1), .val (.int ((bs.getD (p1).toNatClampNeg 0) &&& (255 : Int32))), .val (.int (4 : Int32)), .val (.int (128 : Int32)), .val (.int (143 : Int32)), .val (.int ((bs.getD ((p1 + (1 : Int32))).toNatClampNeg 0) &&& (255 : Int32))), .unset] [(.int (143 : Int32)), (.int ((bs.getD ((p1 + (1 : Int32))).toNatClampNeg 0) &&& (255 : Int32)))])) _
                        refine XS.icmpNo X0.here hx rfl (hb hby d5_186) rfl (tlt hc186).2.2.2 ?_
                        exact k
                      refine own_go (B := s₁.setTop (mkF m 190 #[.val (.ref a0), .val (.int p1), .val (.int ((bs.getD (p1).toNatClampNeg 0) &&& (255 : Int32))), .val (.int (4 : Int32)), .val (.int (128 : Int32)), .val (.int (143 : Int32)), .val (.int ((bs.getD ((p1 + (1 : Int32))).toNatClampNeg 0) &&& (255 : Int32))), .unset] [(.int (0 : Int32))])) (fun t k => ?_) ?_
                      · show Steps p.tables e below (s₁.setTop (mkF m 189 #[.val (.ref a0), .val (.int p1), .val (.int ((bs.getD (p1).toNatClampNeg 0) &&& (255 : Int32))), .val (.int (4 : Int32)), .val (.int (128 : Int32)), .val (.int (143 : Int32)), .val (.int ((bs.getD ((p1 + (1 : Int32))).toNatClampNeg 0) &&& (255 : Int32))), .unset] [])) _
                        refine XS.iconst X0.here hx rfl (hb hby d5_189) ?_
                        exact k
                      obtain ⟨fs, hr, hrun, hended, hW, hsame⟩ := X0.leave (v := some (.int (0 : Int32))) (fun h => by rw [Bd.returns] at h; cases h)
                      refine ⟨_, _, ?_, hrun, hended, _, _, rfl, ?_, ⟨_, rfl⟩, hW, hsame.mono (by decide) (by decide)⟩
                      · show Steps p.tables e below (s₁.setTop (mkF m 190 #[.val (.ref a0), .val (.int p1), .val (.int ((bs.getD (p1).toNatClampNeg 0) &&& (255 : Int32))), .val (.int (4 : Int32)), .val (.int (128 : Int32)), .val (.int (143 : Int32)), .val (.int ((bs.getD ((p1 + (1 : Int32))).toNatClampNeg 0) &&& (255 : Int32))), .unset] [(.int (0 : Int32))])) _
                        exact retI X0 hx Bd.returns (hb hby d5_190) hr
                      · show Q5 Z a0 p1 kk z bs h0 n0 _ s₁.heap _
                        rw [e0]
                        exact ⟨by simp only [own_seq, if_pos hpz, if_pos hz, if_neg hc12, if_neg hc31, if_pos hc38, if_pos hc57, if_neg hc110, if_neg hc119, if_pos hc136, if_neg hc159, if_neg hc179, if_pos hc186], N0, rfl⟩
                    · refine own_go (B := s₁.setTop (mkF m 191 #[.val (.ref a0), .val (.int p1), .val (.int ((bs.getD (p1).toNatClampNeg 0) &&& (255 : Int32))), .val (.int (4 : Int32)), .val (.int (128 : Int32)), .val (.int (143 : Int32)), .val (.int ((bs.getD ((p1 + (1 : Int32))).toNatClampNeg 0) &&& (255 : Int32))), .unset] [])) (fun t k => ?_) ?_
                      · show Steps p.tables e below (s₁.setTop (mkF m 186 #[.val (.ref a0), .val (.int p1), .val (.int ((bs.getD (p1).toNatClampNeg 0) &&& (255 : Int32))), .val (.int (4 : Int32)), .val (.int (128 : Int32)), .val (.int (143 : Int32)), .val (.int ((bs.getD ((p1 + (1 : Int32))).toNatClampNeg 0) &&& (255 : Int32))), .unset] [(.int (143 : Int32)), (.int ((bs.getD ((p1 + (1 : Int32))).toNatClampNeg 0) &&& (255 : Int32)))])) _
                        refine XS.icmpYes X0.here hx rfl (pc0 := 186) (pc' := 191) rfl (hb hby d5_186) rfl (flt hc186).2.2.2 (by decide) (by decide) ?_
                        exact k
                      refine own_go (B := s₁.setTop (mkF m 201 #[.val (.ref a0), .val (.int p1), .val (.int ((bs.getD (p1).toNatClampNeg 0) &&& (255 : Int32))), .val (.int (4 : Int32)), .val (.int (128 : Int32)), .val (.int (143 : Int32)), .val (.int ((bs.getD ((p1 + (1 : Int32))).toNatClampNeg 0) &&& (255 : Int32))), .val (.int (p1 + (2 : Int32)))] [(.int (p1 + (4 : Int32))), (.int (p1 + (2 : Int32)))])) (fun t k => ?_) ?_
                      · show Steps p.tables e below (s₁.setTop (mkF m 191 #[.val (.ref a0), .val (.int p1), .val (.int ((bs.getD (p1).toNatClampNeg 0) &&& (255 : Int32))), .val (.int (4 : Int32)), .val (.int (128 : Int32)), .val (.int (143 : Int32)), .val (.int ((bs.getD ((p1 + (1 : Int32))).toNatClampNeg 0) &&& (255 : Int32))), .unset] [])) _
                        refine XS.iloadN X0.here hx rfl (hb hby d5_191) rfl ?_
                        show Steps p.tables e below (s₁.setTop (mkF m 192 #[.val (.ref a0), .val (.int p1), .val (.int ((bs.getD (p1).toNatClampNeg 0) &&& (255 : Int32))), .val (.int (4 : Int32)), .val (.int (128 : Int32)), .val (.int (143 : Int32)), .val (.int ((bs.getD ((p1 + (1 : Int32))).toNatClampNeg 0) &&& (255 : Int32))), .unset] [(.int p1)])) _
                        refine XS.iconst X0.here hx rfl (hb hby d5_192) ?_
                        show Steps p.tables e below (s₁.setTop (mkF m 193 #[.val (.ref a0), .val (.int p1), .val (.int ((bs.getD (p1).toNatClampNeg 0) &&& (255 : Int32))), .val (.int (4 : Int32)), .val (.int (128 : Int32)), .val (.int (143 : Int32)), .val (.int ((bs.getD ((p1 + (1 : Int32))).toNatClampNeg 0) &&& (255 : Int32))), .unset] [(.int (2 : Int32)), (.int p1)])) _
                        refine XS.iadd X0.here hx rfl (hb hby d5_193) rfl ?_
                        show Steps p.tables e below (s₁.setTop (mkF m 194 #[.val (.ref a0), .val (.int p1), .val (.int ((bs.getD (p1).toNatClampNeg 0) &&& (255 : Int32))), .val (.int (4 : Int32)), .val (.int (128 : Int32)), .val (.int (143 : Int32)), .val (.int ((bs.getD ((p1 + (1 : Int32))).toNatClampNeg 0) &&& (255 : Int32))), .unset] [(.int (p1 + (2 : Int32)))])) _
                        refine XS.istore X0.here hx rfl (hb hby d5_194) rfl (l' := #[.val (.ref a0), .val (.int p1), .val (.int ((bs.getD (p1).toNatClampNeg 0) &&& (255 : Int32))), .val (.int (4 : Int32)), .val (.int (128 : Int32)), .val (.int (143 : Int32)), .val (.int ((bs.getD ((p1 + (1 : Int32))).toNatClampNeg 0) &&& (255 : Int32))), .val (.int (p1 + (2 : Int32)))]) rfl ?_
                        show Steps p.tables e below (s₁.setTop (mkF m 196 #[.val (.ref a0), .val (.int p1), .val (.int ((bs.getD (p1).toNatClampNeg 0) &&& (255 : Int32))), .val (.int (4 : Int32)), .val (.int (128 : Int32)), .val (.int (143 : Int32)), .val (.int ((bs.getD ((p1 + (1 : Int32))).toNatClampNeg 0) &&& (255 : Int32))), .val (.int (p1 + (2 : Int32)))] [])) _
                        refine XS.iload X0.here hx rfl (hb hby d5_196) rfl ?_
                        show Steps p.tables e below (s₁.setTop (mkF m 198 #[.val (.ref a0), .val (.int p1), .val (.int ((bs.getD (p1).toNatClampNeg 0) &&& (255 : Int32))), .val (.int (4 : Int32)), .val (.int (128 : Int32)), .val (.int (143 : Int32)), .val (.int ((bs.getD ((p1 + (1 : Int32))).toNatClampNeg 0) &&& (255 : Int32))), .val (.int (p1 + (2 : Int32)))] [(.int (p1 + (2 : Int32)))])) _
                        refine XS.iloadN X0.here hx rfl (hb hby d5_198) rfl ?_
                        show Steps p.tables e below (s₁.setTop (mkF m 199 #[.val (.ref a0), .val (.int p1), .val (.int ((bs.getD (p1).toNatClampNeg 0) &&& (255 : Int32))), .val (.int (4 : Int32)), .val (.int (128 : Int32)), .val (.int (143 : Int32)), .val (.int ((bs.getD ((p1 + (1 : Int32))).toNatClampNeg 0) &&& (255 : Int32))), .val (.int (p1 + (2 : Int32)))] [(.int p1), (.int (p1 + (2 : Int32)))])) _
                        refine XS.iloadN X0.here hx rfl (hb hby d5_199) rfl ?_
                        show Steps p.tables e below (s₁.setTop (mkF m 200 #[.val (.ref a0), .val (.int p1), .val (.int ((bs.getD (p1).toNatClampNeg 0) &&& (255 : Int32))), .val (.int (4 : Int32)), .val (.int (128 : Int32)), .val (.int (143 : Int32)), .val (.int ((bs.getD ((p1 + (1 : Int32))).toNatClampNeg 0) &&& (255 : Int32))), .val (.int (p1 + (2 : Int32)))] [(.int (4 : Int32)), (.int p1), (.int (p1 + (2 : Int32)))])) _
                        refine XS.iadd X0.here hx rfl (hb hby d5_200) rfl ?_
                        exact k
                      refine own_go (B := s₁.setTop (mkF m 204 #[.val (.ref a0), .val (.int p1), .val (.int ((bs.getD (p1).toNatClampNeg 0) &&& (255 : Int32))), .val (.int (4 : Int32)), .val (.int (128 : Int32)), .val (.int (143 : Int32)), .val (.int ((bs.getD ((p1 + (1 : Int32))).toNatClampNeg 0) &&& (255 : Int32))), .val (.int (p1 + (2 : Int32)))] [])) (fun t k => ?_) ?_
                      · show Steps p.tables e below (s₁.setTop (mkF m 201 #[.val (.ref a0), .val (.int p1), .val (.int ((bs.getD (p1).toNatClampNeg 0) &&& (255 : Int32))), .val (.int (4 : Int32)), .val (.int (128 : Int32)), .val (.int (143 : Int32)), .val (.int ((bs.getD ((p1 + (1 : Int32))).toNatClampNeg 0) &&& (255 : Int32))), .val (.int (p1 + (2 : Int32)))] [(.int (p1 + (4 : Int32))), (.int (p1 + (2 : Int32)))])) _
                        refine XS.icmpNo X0.here hx rfl (hb hby d5_201) rfl (tlt (own_ltp p1 z 2 4 hp hpz hz (by decide))).2.1 ?_
                        exact k
                      refine own_go (B := s₁.setTop (mkF m 207 #[.val (.ref a0), .val (.int p1), .val (.int ((bs.getD (p1).toNatClampNeg 0) &&& (255 : Int32))), .val (.int (4 : Int32)), .val (.int (128 : Int32)), .val (.int (143 : Int32)), .val (.int ((bs.getD ((p1 + (1 : Int32))).toNatClampNeg 0) &&& (255 : Int32))), .val (.int (p1 + (2 : Int32)))] [(.int (p1 + (2 : Int32))), (.ref a0)])) (fun t k => ?_) ?_
                      · show Steps p.tables e below (s₁.setTop (mkF m 204 #[.val (.ref a0), .val (.int p1), .val (.int ((bs.getD (p1).toNatClampNeg 0) &&& (255 : Int32))), .val (.int (4 : Int32)), .val (.int (128 : Int32)), .val (.int (143 : Int32)), .val (.int ((bs.getD ((p1 + (1 : Int32))).toNatClampNeg 0) &&& (255 : Int32))), .val (.int (p1 + (2 : Int32)))] [])) _
                        refine XS.aloadN X0.here hx rfl (hb hby d5_204) rfl rfl ?_
                        show Steps p.tables e below (s₁.setTop (mkF m 205 #[.val (.ref a0), .val (.int p1), .val (.int ((bs.getD (p1).toNatClampNeg 0) &&& (255 : Int32))), .val (.int (4 : Int32)), .val (.int (128 : Int32)), .val (.int (143 : Int32)), .val (.int ((bs.getD ((p1 + (1 : Int32))).toNatClampNeg 0) &&& (255 : Int32))), .val (.int (p1 + (2 : Int32)))] [(.ref a0)])) _
                        refine XS.iload X0.here hx rfl (hb hby d5_205) rfl ?_
                        exact k
                      obtain ⟨cl_8, Ar_8, q_8, S_8, M_8, H_8, G_8⟩ := id V0
                      have hin_8 : ¬ ((p1 + (2 : Int32)) < 0 ∨ cl_8.slots.size ≤ ((p1 + (2 : Int32))).toNatClampNeg) := inb_of S_8 (own_inb p1 z (2 : Int32) (4 : Int32) hp hpz hz hc159 (by decide))
                      have hat_8 : cl_8.slots[((p1 + (2 : Int32))).toNatClampNeg]? = some (.int (bs.getD ((p1 + (2 : Int32))).toNatClampNeg 0)) := H_8.at hin_8 (own_map bs _)
                      refine own_go (B := s₁.setTop (mkF m 208 #[.val (.ref a0), .val (.int p1), .val (.int ((bs.getD (p1).toNatClampNeg 0) &&& (255 : Int32))), .val (.int (4 : Int32)), .val (.int (128 : Int32)), .val (.int (143 : Int32)), .val (.int ((bs.getD ((p1 + (1 : Int32))).toNatClampNeg 0) &&& (255 : Int32))), .val (.int (p1 + (2 : Int32)))] [(.int (bs.getD ((p1 + (2 : Int32))).toNatClampNeg 0))])) (fun t k => X0.baloadBytes hx (j := (p1 + (2 : Int32))) (v := (.int (bs.getD ((p1 + (2 : Int32))).toNatClampNeg 0))) (by rw [(e0 : _ = _)]; exact Ar_8.1) (State.isArrayOf_alike hZ.alike Ar_8.2.1) Ar_8.2.2 hin_8 hat_8 (g := (mkF m 207 #[.val (.ref a0), .val (.int p1), .val (.int ((bs.getD (p1).toNatClampNeg 0) &&& (255 : Int32))), .val (.int (4 : Int32)), .val (.int (128 : Int32)), .val (.int (143 : Int32)), .val (.int ((bs.getD ((p1 + (1 : Int32))).toNatClampNeg 0) &&& (255 : Int32))), .val (.int (p1 + (2 : Int32)))] [(.int (p1 + (2 : Int32))), (.ref a0)])) rfl rfl (hb hby d5_207) t k) ?_
                      refine own_go (B := s₁.setTop (mkF m 215 #[.val (.ref a0), .val (.int p1), .val (.int ((bs.getD (p1).toNatClampNeg 0) &&& (255 : Int32))), .val (.int (4 : Int32)), .val (.int (128 : Int32)), .val (.int (143 : Int32)), .val (.int ((bs.getD ((p1 + (1 : Int32))).toNatClampNeg 0) &&& (255 : Int32))), .val (.int (p1 + (2 : Int32)))] [(.int (128 : Int32)), (.int ((bs.getD ((p1 + (2 : Int32))).toNatClampNeg 0) &&& (192 : Int32)))])) (fun t k => ?_) ?_
                      · show Steps p.tables e below (s₁.setTop (mkF m 208 #[.val (.ref a0), .val (.int p1), .val (.int ((bs.getD (p1).toNatClampNeg 0) &&& (255 : Int32))), .val (.int (4 : Int32)), .val (.int (128 : Int32)), .val (.int (143 : Int32)), .val (.int ((bs.getD ((p1 + (1 : Int32))).toNatClampNeg 0) &&& (255 : Int32))), .val (.int (p1 + (2 : Int32)))] [(.int (bs.getD ((p1 + (2 : Int32))).toNatClampNeg 0))])) _
                        refine XS.sipush X0.here hx rfl (hb hby d5_208) ?_
                        show Steps p.tables e below (s₁.setTop (mkF m 211 #[.val (.ref a0), .val (.int p1), .val (.int ((bs.getD (p1).toNatClampNeg 0) &&& (255 : Int32))), .val (.int (4 : Int32)), .val (.int (128 : Int32)), .val (.int (143 : Int32)), .val (.int ((bs.getD ((p1 + (1 : Int32))).toNatClampNeg 0) &&& (255 : Int32))), .val (.int (p1 + (2 : Int32)))] [(.int (192 : Int32)), (.int (bs.getD ((p1 + (2 : Int32))).toNatClampNeg 0))])) _
                        refine XS.iand X0.here hx rfl (hb hby d5_211) rfl ?_
                        show Steps p.tables e below (s₁.setTop (mkF m 212 #[.val (.ref a0), .val (.int p1), .val (.int ((bs.getD (p1).toNatClampNeg 0) &&& (255 : Int32))), .val (.int (4 : Int32)), .val (.int (128 : Int32)), .val (.int (143 : Int32)), .val (.int ((bs.getD ((p1 + (1 : Int32))).toNatClampNeg 0) &&& (255 : Int32))), .val (.int (p1 + (2 : Int32)))] [(.int ((bs.getD ((p1 + (2 : Int32))).toNatClampNeg 0) &&& (192 : Int32)))])) _
                        refine XS.sipush X0.here hx rfl (hb hby d5_212) ?_
                        exact k
                      by_cases hc215 : ((bs.getD ((p1 + (2 : Int32))).toNatClampNeg 0) &&& (192 : Int32)) = (128 : Int32)
                      · refine own_go (B := s₁.setTop (mkF m 220 #[.val (.ref a0), .val (.int p1), .val (.int ((bs.getD (p1).toNatClampNeg 0) &&& (255 : Int32))), .val (.int (4 : Int32)), .val (.int (128 : Int32)), .val (.int (143 : Int32)), .val (.int ((bs.getD ((p1 + (1 : Int32))).toNatClampNeg 0) &&& (255 : Int32))), .val (.int (p1 + (2 : Int32)))] [])) (fun t k => ?_) ?_
                        · show Steps p.tables e below (s₁.setTop (mkF m 215 #[.val (.ref a0), .val (.int p1), .val (.int ((bs.getD (p1).toNatClampNeg 0) &&& (255 : Int32))), .val (.int (4 : Int32)), .val (.int (128 : Int32)), .val (.int (143 : Int32)), .val (.int ((bs.getD ((p1 + (1 : Int32))).toNatClampNeg 0) &&& (255 : Int32))), .val (.int (p1 + (2 : Int32)))] [(.int (128 : Int32)), (.int ((bs.getD ((p1 + (2 : Int32))).toNatClampNeg 0) &&& (192 : Int32)))])) _
                          refine XS.icmpYes X0.here hx rfl (pc0 := 215) (pc' := 220) rfl (hb hby d5_215) rfl (teq hc215).1 (by decide) (by decide) ?_
                          exact k
                        refine own_go (B := s₁.setTop (mkF m 201 #[.val (.ref a0), .val (.int p1), .val (.int ((bs.getD (p1).toNatClampNeg 0) &&& (255 : Int32))), .val (.int (4 : Int32)), .val (.int (128 : Int32)), .val (.int (143 : Int32)), .val (.int ((bs.getD ((p1 + (1 : Int32))).toNatClampNeg 0) &&& (255 : Int32))), .val (.int (p1 + (3 : Int32)))] [(.int (p1 + (4 : Int32))), (.int (p1 + (3 : Int32)))])) (fun t k => ?_) ?_
                        · show Steps p.tables e below (s₁.setTop (mkF m 220 #[.val (.ref a0), .val (.int p1), .val (.int ((bs.getD (p1).toNatClampNeg 0) &&& (255 : Int32))), .val (.int (4 : Int32)), .val (.int (128 : Int32)), .val (.int (143 : Int32)), .val (.int ((bs.getD ((p1 + (1 : Int32))).toNatClampNeg 0) &&& (255 : Int32))), .val (.int (p1 + (2 : Int32)))] [])) _
                          refine XS.iinc X0.here hx rfl (hb hby d5_220) rfl (l' := #[.val (.ref a0), .val (.int p1), .val (.int ((bs.getD (p1).toNatClampNeg 0) &&& (255 : Int32))), .val (.int (4 : Int32)), .val (.int (128 : Int32)), .val (.int (143 : Int32)), .val (.int ((bs.getD ((p1 + (1 : Int32))).toNatClampNeg 0) &&& (255 : Int32))), .val (.int (p1 + (3 : Int32)))]) (by rw [show p1 + (3 : Int32) = (p1 + (2 : Int32)) + (1 : Int32) from by rw [Int32.add_assoc]; rfl]; rfl) ?_
                          show Steps p.tables e below (s₁.setTop (mkF m 223 #[.val (.ref a0), .val (.int p1), .val (.int ((bs.getD (p1).toNatClampNeg 0) &&& (255 : Int32))), .val (.int (4 : Int32)), .val (.int (128 : Int32)), .val (.int (143 : Int32)), .val (.int ((bs.getD ((p1 + (1 : Int32))).toNatClampNeg 0) &&& (255 : Int32))), .val (.int (p1 + (3 : Int32)))] [])) _
                          refine XS.goto X0.here hx rfl (pc0 := 223) (pc' := 196) rfl (hb hby d5_223) (by decide) (by decide) ?_
                          show Steps p.tables e below (s₁.setTop (mkF m 196 #[.val (.ref a0), .val (.int p1), .val (.int ((bs.getD (p1).toNatClampNeg 0) &&& (255 : Int32))), .val (.int (4 : Int32)), .val (.int (128 : Int32)), .val (.int (143 : Int32)), .val (.int ((bs.getD ((p1 + (1 : Int32))).toNatClampNeg 0) &&& (255 : Int32))), .val (.int (p1 + (3 : Int32)))] [])) _
                          refine XS.iload X0.here hx rfl (hb hby d5_196) rfl ?_
                          show Steps p.tables e below (s₁.setTop (mkF m 198 #[.val (.ref a0), .val (.int p1), .val (.int ((bs.getD (p1).toNatClampNeg 0) &&& (255 : Int32))), .val (.int (4 : Int32)), .val (.int (128 : Int32)), .val (.int (143 : Int32)), .val (.int ((bs.getD ((p1 + (1 : Int32))).toNatClampNeg 0) &&& (255 : Int32))), .val (.int (p1 + (3 : Int32)))] [(.int (p1 + (3 : Int32)))])) _
                          refine XS.iloadN X0.here hx rfl (hb hby d5_198) rfl ?_
                          show Steps p.tables e below (s₁.setTop (mkF m 199 #[.val (.ref a0), .val (.int p1), .val (.int ((bs.getD (p1).toNatClampNeg 0) &&& (255 : Int32))), .val (.int (4 : Int32)), .val (.int (128 : Int32)), .val (.int (143 : Int32)), .val (.int ((bs.getD ((p1 + (1 : Int32))).toNatClampNeg 0) &&& (255 : Int32))), .val (.int (p1 + (3 : Int32)))] [(.int p1), (.int (p1 + (3 : Int32)))])) _
                          refine XS.iloadN X0.here hx rfl (hb hby d5_199) rfl ?_
                          show Steps p.tables e below (s₁.setTop (mkF m 200 #[.val (.ref a0), .val (.int p1), .val (.int ((bs.getD (p1).toNatClampNeg 0) &&& (255 : Int32))), .val (.int (4 : Int32)), .val (.int (128 : Int32)), .val (.int (143 : Int32)), .val (.int ((bs.getD ((p1 + (1 : Int32))).toNatClampNeg 0) &&& (255 : Int32))), .val (.int (p1 + (3 : Int32)))] [(.int (4 : Int32)), (.int p1), (.int (p1 + (3 : Int32)))])) _
                          refine XS.iadd X0.here hx rfl (hb hby d5_200) rfl ?_
                          exact k
                        refine own_go (B := s₁.setTop (mkF m 204 #[.val (.ref a0), .val (.int p1), .val (.int ((bs.getD (p1).toNatClampNeg 0) &&& (255 : Int32))), .val (.int (4 : Int32)), .val (.int (128 : Int32)), .val (.int (143 : Int32)), .val (.int ((bs.getD ((p1 + (1 : Int32))).toNatClampNeg 0) &&& (255 : Int32))), .val (.int (p1 + (3 : Int32)))] [])) (fun t k => ?_) ?_
                        · show Steps p.tables e below (s₁.setTop (mkF m 201 #[.val (.ref a0), .val (.int p1), .val (.int ((bs.getD (p1).toNatClampNeg 0) &&& (255 : Int32))), .val (.int (4 : Int32)), .val (.int (128 : Int32)), .val (.int (143 : Int32)), .val (.int ((bs.getD ((p1 + (1 : Int32))).toNatClampNeg 0) &&& (255 : Int32))), .val (.int (p1 + (3 : Int32)))] [(.int (p1 + (4 : Int32))), (.int (p1 + (3 : Int32)))])) _
                          refine XS.icmpNo X0.here hx rfl (hb hby d5_201) rfl (tlt (own_ltp p1 z 3 4 hp hpz hz (by decide))).2.1 ?_
                          exact k
                        refine own_go (B := s₁.setTop (mkF m 207 #[.val (.ref a0), .val (.int p1), .val (.int ((bs.getD (p1).toNatClampNeg 0) &&& (255 : Int32))), .val (.int (4 : Int32)), .val (.int (128 : Int32)), .val (.int (143 : Int32)), .val (.int ((bs.getD ((p1 + (1 : Int32))).toNatClampNeg 0) &&& (255 : Int32))), .val (.int (p1 + (3 : Int32)))] [(.int (p1 + (3 : Int32))), (.ref a0)])) (fun t k => ?_) ?_
                        · show Steps p.tables e below (s₁.setTop (mkF m 204 #[.val (.ref a0), .val (.int p1), .val (.int ((bs.getD (p1).toNatClampNeg 0) &&& (255 : Int32))), .val (.int (4 : Int32)), .val (.int (128 : Int32)), .val (.int (143 : Int32)), .val (.int ((bs.getD ((p1 + (1 : Int32))).toNatClampNeg 0) &&& (255 : Int32))), .val (.int (p1 + (3 : Int32)))] [])) _
                          refine XS.aloadN X0.here hx rfl (hb hby d5_204) rfl rfl ?_
                          show Steps p.tables e below (s₁.setTop (mkF m 205 #[.val (.ref a0), .val (.int p1), .val (.int ((bs.getD (p1).toNatClampNeg 0) &&& (255 : Int32))), .val (.int (4 : Int32)), .val (.int (128 : Int32)), .val (.int (143 : Int32)), .val (.int ((bs.getD ((p1 + (1 : Int32))).toNatClampNeg 0) &&& (255 : Int32))), .val (.int (p1 + (3 : Int32)))] [(.ref a0)])) _
                          refine XS.iload X0.here hx rfl (hb hby d5_205) rfl ?_
                          exact k
                        obtain ⟨cl_9, Ar_9, q_9, S_9, M_9, H_9, G_9⟩ := id V0
                        have hin_9 : ¬ ((p1 + (3 : Int32)) < 0 ∨ cl_9.slots.size ≤ ((p1 + (3 : Int32))).toNatClampNeg) := inb_of S_9 (own_inb p1 z (3 : Int32) (4 : Int32) hp hpz hz hc159 (by decide))
                        have hat_9 : cl_9.slots[((p1 + (3 : Int32))).toNatClampNeg]? = some (.int (bs.getD ((p1 + (3 : Int32))).toNatClampNeg 0)) := H_9.at hin_9 (own_map bs _)
                        refine own_go (B := s₁.setTop (mkF m 208 #[.val (.ref a0), .val (.int p1), .val (.int ((bs.getD (p1).toNatClampNeg 0) &&& (255 : Int32))), .val (.int (4 : Int32)), .val (.int (128 : Int32)), .val (.int (143 : Int32)), .val (.int ((bs.getD ((p1 + (1 : Int32))).toNatClampNeg 0) &&& (255 : Int32))), .val (.int (p1 + (3 : Int32)))] [(.int (bs.getD ((p1 + (3 : Int32))).toNatClampNeg 0))])) (fun t k => X0.baloadBytes hx (j := (p1 + (3 : Int32))) (v := (.int (bs.getD ((p1 + (3 : Int32))).toNatClampNeg 0))) (by rw [(e0 : _ = _)]; exact Ar_9.1) (State.isArrayOf_alike hZ.alike Ar_9.2.1) Ar_9.2.2 hin_9 hat_9 (g := (mkF m 207 #[.val (.ref a0), .val (.int p1), .val (.int ((bs.getD (p1).toNatClampNeg 0) &&& (255 : Int32))), .val (.int (4 : Int32)), .val (.int (128 : Int32)), .val (.int (143 : Int32)), .val (.int ((bs.getD ((p1 + (1 : Int32))).toNatClampNeg 0) &&& (255 : Int32))), .val (.int (p1 + (3 : Int32)))] [(.int (p1 + (3 : Int32))), (.ref a0)])) rfl rfl (hb hby d5_207) t k) ?_
                        refine own_go (B := s₁.setTop (mkF m 215 #[.val (.ref a0), .val (.int p1), .val (.int ((bs.getD (p1).toNatClampNeg 0) &&& (255 : Int32))), .val (.int (4 : Int32)), .val (.int (128 : Int32)), .val (.int (143 : Int32)), .val (.int ((bs.getD ((p1 + (1 : Int32))).toNatClampNeg 0) &&& (255 : Int32))), .val (.int (p1 + (3 : Int32)))] [(.int (128 : Int32)), (.int ((bs.getD ((p1 + (3 : Int32))).toNatClampNeg 0) &&& (192 : Int32)))])) (fun t k => ?_) ?_
                        · show Steps p.tables e below (s₁.setTop (mkF m 208 #[.val (.ref a0), .val (.int p1), .val (.int ((bs.getD (p1).toNatClampNeg 0) &&& (255 : Int32))), .val (.int (4 : Int32)), .val (.int (128 : Int32)), .val (.int (143 : Int32)), .val (.int ((bs.getD ((p1 + (1 : Int32))).toNatClampNeg 0) &&& (255 : Int32))), .val (.int (p1 + (3 : Int32)))] [(.int (bs.getD ((p1 + (3 : Int32))).toNatClampNeg 0))])) _
                          refine XS.sipush X0.here hx rfl (hb hby d5_208) ?_
                          show Steps p.tables e below (s₁.setTop (mkF m 211 #[.val (.ref a0), .val (.int p1), .val (.int ((bs.getD (p1).toNatClampNeg 0) &&& (255 : Int32))), .val (.int (4 : Int32)), .val (.int (128 : Int32)), .val (.int (143 : Int32)), .val (.int ((bs.getD ((p1 + (1 : Int32))).toNatClampNeg 0) &&& (255 : Int32))), .val (.int (p1 + (3 : Int32)))] [(.int (192 : Int32)), (.int (bs.getD ((p1 + (3 : Int32))).toNatClampNeg 0))])) _
                          refine XS.iand X0.here hx rfl (hb hby d5_211) rfl ?_
                          show Steps p.tables e below (s₁.setTop (mkF m 212 #[.val (.ref a0), .val (.int p1), .val (.int ((bs.getD (p1).toNatClampNeg 0) &&& (255 : Int32))), .val (.int (4 : Int32)), .val (.int (128 : Int32)), .val (.int (143 : Int32)), .val (.int ((bs.getD ((p1 + (1 : Int32))).toNatClampNeg 0) &&& (255 : Int32))), .val (.int (p1 + (3 : Int32)))] [(.int ((bs.getD ((p1 + (3 : Int32))).toNatClampNeg 0) &&& (192 : Int32)))])) _
                          refine XS.sipush X0.here hx rfl (hb hby d5_212) ?_
                          exact k
                        by_cases hc215_1 : ((bs.getD ((p1 + (3 : Int32))).toNatClampNeg 0) &&& (192 : Int32)) = (128 : Int32)
                        · refine own_go (B := s₁.setTop (mkF m 220 #[.val (.ref a0), .val (.int p1), .val (.int ((bs.getD (p1).toNatClampNeg 0) &&& (255 : Int32))), .val (.int (4 : Int32)), .val (.int (128 : Int32)), .val (.int (143 : Int32)), .val (.int ((bs.getD ((p1 + (1 : Int32))).toNatClampNeg 0) &&& (255 : Int32))), .val (.int (p1 + (3 : Int32)))] [])) (fun t k => ?_) ?_
                          · show Steps p.tables e below (s₁.setTop (mkF m 215 #[.val (.ref a0), .val (.int p1), .val (.int ((bs.getD (p1).toNatClampNeg 0) &&& (255 : Int32))), .val (.int (4 : Int32)), .val (.int (128 : Int32)), .val (.int (143 : Int32)), .val (.int ((bs.getD ((p1 + (1 : Int32))).toNatClampNeg 0) &&& (255 : Int32))), .val (.int (p1 + (3 : Int32)))] [(.int (128 : Int32)), (.int ((bs.getD ((p1 + (3 : Int32))).toNatClampNeg 0) &&& (192 : Int32)))])) _
                            refine XS.icmpYes X0.here hx rfl (pc0 := 215) (pc' := 220) rfl (hb hby d5_215) rfl (teq hc215_1).1 (by decide) (by decide) ?_
                            exact k
                          refine own_go (B := s₁.setTop (mkF m 201 #[.val (.ref a0), .val (.int p1), .val (.int ((bs.getD (p1).toNatClampNeg 0) &&& (255 : Int32))), .val (.int (4 : Int32)), .val (.int (128 : Int32)), .val (.int (143 : Int32)), .val (.int ((bs.getD ((p1 + (1 : Int32))).toNatClampNeg 0) &&& (255 : Int32))), .val (.int (p1 + (4 : Int32)))] [(.int (p1 + (4 : Int32))), (.int (p1 + (4 : Int32)))])) (fun t k => ?_) ?_
                          · show Steps p.tables e below (s₁.setTop (mkF m 220 #[.val (.ref a0), .val (.int p1), .val (.int ((bs.getD (p1).toNatClampNeg 0) &&& (255 : Int32))), .val (.int (4 : Int32)), .val (.int (128 : Int32)), .val (.int (143 : Int32)), .val (.int ((bs.getD ((p1 + (1 : Int32))).toNatClampNeg 0) &&& (255 : Int32))), .val (.int (p1 + (3 : Int32)))] [])) _
                            refine XS.iinc X0.here hx rfl (hb hby d5_220) rfl (l' := #[.val (.ref a0), .val (.int p1), .val (.int ((bs.getD (p1).toNatClampNeg 0) &&& (255 : Int32))), .val (.int (4 : Int32)), .val (.int (128 : Int32)), .val (.int (143 : Int32)), .val (.int ((bs.getD ((p1 + (1 : Int32))).toNatClampNeg 0) &&& (255 : Int32))), .val (.int (p1 + (4 : Int32)))]) (by rw [show p1 + (4 : Int32) = (p1 + (3 : Int32)) + (1 : Int32) from by rw [Int32.add_assoc]; rfl]; rfl) ?_
                            show Steps p.tables e below (s₁.setTop (mkF m 223 #[.val (.ref a0), .val (.int p1), .val (.int ((bs.getD (p1).toNatClampNeg 0) &&& (255 : Int32))), .val (.int (4 : Int32)), .val (.int (128 : Int32)), .val (.int (143 : Int32)), .val (.int ((bs.getD ((p1 + (1 : Int32))).toNatClampNeg 0) &&& (255 : Int32))), .val (.int (p1 + (4 : Int32)))] [])) _
                            refine XS.goto X0.here hx rfl (pc0 := 223) (pc' := 196) rfl (hb hby d5_223) (by decide) (by decide) ?_
                            show Steps p.tables e below (s₁.setTop (mkF m 196 #[.val (.ref a0), .val (.int p1), .val (.int ((bs.getD (p1).toNatClampNeg 0) &&& (255 : Int32))), .val (.int (4 : Int32)), .val (.int (128 : Int32)), .val (.int (143 : Int32)), .val (.int ((bs.getD ((p1 + (1 : Int32))).toNatClampNeg 0) &&& (255 : Int32))), .val (.int (p1 + (4 : Int32)))] [])) _
                            refine XS.iload X0.here hx rfl (hb hby d5_196) rfl ?_
                            show Steps p.tables e below (s₁.setTop (mkF m 198 #[.val (.ref a0), .val (.int p1), .val (.int ((bs.getD (p1).toNatClampNeg 0) &&& (255 : Int32))), .val (.int (4 : Int32)), .val (.int (128 : Int32)), .val (.int (143 : Int32)), .val (.int ((bs.getD ((p1 + (1 : Int32))).toNatClampNeg 0) &&& (255 : Int32))), .val (.int (p1 + (4 : Int32)))] [(.int (p1 + (4 : Int32)))])) _
                            refine XS.iloadN X0.here hx rfl (hb hby d5_198) rfl ?_
                            show Steps p.tables e below (s₁.setTop (mkF m 199 #[.val (.ref a0), .val (.int p1), .val (.int ((bs.getD (p1).toNatClampNeg 0) &&& (255 : Int32))), .val (.int (4 : Int32)), .val (.int (128 : Int32)), .val (.int (143 : Int32)), .val (.int ((bs.getD ((p1 + (1 : Int32))).toNatClampNeg 0) &&& (255 : Int32))), .val (.int (p1 + (4 : Int32)))] [(.int p1), (.int (p1 + (4 : Int32)))])) _
                            refine XS.iloadN X0.here hx rfl (hb hby d5_199) rfl ?_
                            show Steps p.tables e below (s₁.setTop (mkF m 200 #[.val (.ref a0), .val (.int p1), .val (.int ((bs.getD (p1).toNatClampNeg 0) &&& (255 : Int32))), .val (.int (4 : Int32)), .val (.int (128 : Int32)), .val (.int (143 : Int32)), .val (.int ((bs.getD ((p1 + (1 : Int32))).toNatClampNeg 0) &&& (255 : Int32))), .val (.int (p1 + (4 : Int32)))] [(.int (4 : Int32)), (.int p1), (.int (p1 + (4 : Int32)))])) _
                            refine XS.iadd X0.here hx rfl (hb hby d5_200) rfl ?_
                            exact k
                          refine own_go (B := s₁.setTop (mkF m 226 #[.val (.ref a0), .val (.int p1), .val (.int ((bs.getD (p1).toNatClampNeg 0) &&& (255 : Int32))), .val (.int (4 : Int32)), .val (.int (128 : Int32)), .val (.int (143 : Int32)), .val (.int ((bs.getD ((p1 + (1 : Int32))).toNatClampNeg 0) &&& (255 : Int32))), .val (.int (p1 + (4 : Int32)))] [])) (fun t k => ?_) ?_
                          · show Steps p.tables e below (s₁.setTop (mkF m 201 #[.val (.ref a0), .val (.int p1), .val (.int ((bs.getD (p1).toNatClampNeg 0) &&& (255 : Int32))), .val (.int (4 : Int32)), .val (.int (128 : Int32)), .val (.int (143 : Int32)), .val (.int ((bs.getD ((p1 + (1 : Int32))).toNatClampNeg 0) &&& (255 : Int32))), .val (.int (p1 + (4 : Int32)))] [(.int (p1 + (4 : Int32))), (.int (p1 + (4 : Int32)))])) _
                            refine XS.icmpYes X0.here hx rfl (pc0 := 201) (pc' := 226) rfl (hb hby d5_201) rfl (flt Int32.lt_irrefl).2.1 (by decide) (by decide) ?_
                            exact k
                          refine own_go (B := s₁.setTop (mkF m 227 #[.val (.ref a0), .val (.int p1), .val (.int ((bs.getD (p1).toNatClampNeg 0) &&& (255 : Int32))), .val (.int (4 : Int32)), .val (.int (128 : Int32)), .val (.int (143 : Int32)), .val (.int ((bs.getD ((p1 + (1 : Int32))).toNatClampNeg 0) &&& (255 : Int32))), .val (.int (p1 + (4 : Int32)))] [(.int (4 : Int32))])) (fun t k => ?_) ?_
                          · show Steps p.tables e below (s₁.setTop (mkF m 226 #[.val (.ref a0), .val (.int p1), .val (.int ((bs.getD (p1).toNatClampNeg 0) &&& (255 : Int32))), .val (.int (4 : Int32)), .val (.int (128 : Int32)), .val (.int (143 : Int32)), .val (.int ((bs.getD ((p1 + (1 : Int32))).toNatClampNeg 0) &&& (255 : Int32))), .val (.int (p1 + (4 : Int32)))] [])) _
                            refine XS.iloadN X0.here hx rfl (hb hby d5_226) rfl ?_
                            exact k
                          obtain ⟨fs, hr, hrun, hended, hW, hsame⟩ := X0.leave (v := some (.int (4 : Int32))) (fun h => by rw [Bd.returns] at h; cases h)
                          refine ⟨_, _, ?_, hrun, hended, _, _, rfl, ?_, ⟨_, rfl⟩, hW, hsame.mono (by decide) (by decide)⟩
                          · show Steps p.tables e below (s₁.setTop (mkF m 227 #[.val (.ref a0), .val (.int p1), .val (.int ((bs.getD (p1).toNatClampNeg 0) &&& (255 : Int32))), .val (.int (4 : Int32)), .val (.int (128 : Int32)), .val (.int (143 : Int32)), .val (.int ((bs.getD ((p1 + (1 : Int32))).toNatClampNeg 0) &&& (255 : Int32))), .val (.int (p1 + (4 : Int32)))] [(.int (4 : Int32))])) _
                            exact retI X0 hx Bd.returns (hb hby d5_227) hr
                          · show Q5 Z a0 p1 kk z bs h0 n0 _ s₁.heap _
                            rw [e0]
                            exact ⟨by simp only [own_seq, if_pos hpz, if_pos hz, if_neg hc12, if_neg hc31, if_pos hc38, if_pos hc57, if_neg hc110, if_neg hc119, if_pos hc136, if_neg hc159, if_neg hc179, if_neg hc186, if_pos hc215, if_pos hc215_1], N0, rfl⟩
                        · refine own_go (B := s₁.setTop (mkF m 218 #[.val (.ref a0), .val (.int p1), .val (.int ((bs.getD (p1).toNatClampNeg 0) &&& (255 : Int32))), .val (.int (4 : Int32)), .val (.int (128 : Int32)), .val (.int (143 : Int32)), .val (.int ((bs.getD ((p1 + (1 : Int32))).toNatClampNeg 0) &&& (255 : Int32))), .val (.int (p1 + (3 : Int32)))] [])) (fun t k => ?_) ?_
                          · show Steps p.tables e below (s₁.setTop (mkF m 215 #[.val (.ref a0), .val (.int p1), .val (.int ((bs.getD (p1).toNatClampNeg 0) &&& (255 : Int32))), .val (.int (4 : Int32)), .val (.int (128 : Int32)), .val (.int (143 : Int32)), .val (.int ((bs.getD ((p1 + (1 : Int32))).toNatClampNeg 0) &&& (255 : Int32))), .val (.int (p1 + (3 : Int32)))] [(.int (128 : Int32)), (.int ((bs.getD ((p1 + (3 : Int32))).toNatClampNeg 0) &&& (192 : Int32)))])) _
                            refine XS.icmpNo X0.here hx rfl (hb hby d5_215) rfl (feq hc215_1).1 ?_
                            exact k
                          refine own_go (B := s₁.setTop (mkF m 219 #[.val (.ref a0), .val (.int p1), .val (.int ((bs.getD (p1).toNatClampNeg 0) &&& (255 : Int32))), .val (.int (4 : Int32)), .val (.int (128 : Int32)), .val (.int (143 : Int32)), .val (.int ((bs.getD ((p1 + (1 : Int32))).toNatClampNeg 0) &&& (255 : Int32))), .val (.int (p1 + (3 : Int32)))] [(.int (0 : Int32))])) (fun t k => ?_) ?_
                          · show Steps p.tables e below (s₁.setTop (mkF m 218 #[.val (.ref a0), .val (.int p1), .val (.int ((bs.getD (p1).toNatClampNeg 0) &&& (255 : Int32))), .val (.int (4 : Int32)), .val (.int (128 : Int32)), .val (.int (143 : Int32)), .val (.int ((bs.getD ((p1 + (1 : Int32))).toNatClampNeg 0) &&& (255 : Int32))), .val (.int (p1 + (3 : Int32)))] [])) _
                            refine XS.iconst X0.here hx rfl (hb hby d5_218) ?_
                            exact k
                          obtain ⟨fs, hr, hrun, hended, hW, hsame⟩ := X0.leave (v := some (.int (0 : Int32))) (fun h => by rw [Bd.returns] at h; cases h)
                          refine ⟨_, _, ?_, hrun, hended, _, _, rfl, ?_, ⟨_, rfl⟩, hW, hsame.mono (by decide) (by decide)⟩
                          · show Steps p.tables e below (s₁.setTop (mkF m 219 #[.val (.ref a0), .val (.int p1), .val (.int ((bs.getD (p1).toNatClampNeg 0) &&& (255 : Int32))), .val (.int (4 : Int32)), .val (.int (128 : Int32)), .val (.int (143 : Int32)), .val (.int ((bs.getD ((p1 + (1 : Int32))).toNatClampNeg 0) &&& (255 : Int32))), .val (.int (p1 + (3 : Int32)))] [(.int (0 : Int32))])) _
                            exact retI X0 hx Bd.returns (hb hby d5_219) hr
                          · show Q5 Z a0 p1 kk z bs h0 n0 _ s₁.heap _
                            rw [e0]
                            exact ⟨by simp only [own_seq, if_pos hpz, if_pos hz, if_neg hc12, if_neg hc31, if_pos hc38, if_pos hc57, if_neg hc110, if_neg hc119, if_pos hc136, if_neg hc159, if_neg hc179, if_neg hc186, if_pos hc215, if_neg hc215_1], N0, rfl⟩
                      · refine own_go (B := s₁.setTop (mkF m 218 #[.val (.ref a0), .val (.int p1), .val (.int ((bs.getD (p1).toNatClampNeg 0) &&& (255 : Int32))), .val (.int (4 : Int32)), .val (.int (128 : Int32)), .val (.int (143 : Int32)), .val (.int ((bs.getD ((p1 + (1 : Int32))).toNatClampNeg 0) &&& (255 : Int32))), .val (.int (p1 + (2 : Int32)))] [])) (fun t k => ?_) ?_
                        · show Steps p.tables e below (s₁.setTop (mkF m 215 #[.val (.ref a0), .val (.int p1), .val (.int ((bs.getD (p1).toNatClampNeg 0) &&& (255 : Int32))), .val (.int (4 : Int32)), .val (.int (128 : Int32)), .val (.int (143 : Int32)), .val (.int ((bs.getD ((p1 + (1 : Int32))).toNatClampNeg 0) &&& (255 : Int32))), .val (.int (p1 + (2 : Int32)))] [(.int (128 : Int32)), (.int ((bs.getD ((p1 + (2 : Int32))).toNatClampNeg 0) &&& (192 : Int32)))])) _
                          refine XS.icmpNo X0.here hx rfl (hb hby d5_215) rfl (feq hc215).1 ?_
                          exact k
                        refine own_go (B := s₁.setTop (mkF m 219 #[.val (.ref a0), .val (.int p1), .val (.int ((bs.getD (p1).toNatClampNeg 0) &&& (255 : Int32))), .val (.int (4 : Int32)), .val (.int (128 : Int32)), .val (.int (143 : Int32)), .val (.int ((bs.getD ((p1 + (1 : Int32))).toNatClampNeg 0) &&& (255 : Int32))), .val (.int (p1 + (2 : Int32)))] [(.int (0 : Int32))])) (fun t k => ?_) ?_
                        · show Steps p.tables e below (s₁.setTop (mkF m 218 #[.val (.ref a0), .val (.int p1), .val (.int ((bs.getD (p1).toNatClampNeg 0) &&& (255 : Int32))), .val (.int (4 : Int32)), .val (.int (128 : Int32)), .val (.int (143 : Int32)), .val (.int ((bs.getD ((p1 + (1 : Int32))).toNatClampNeg 0) &&& (255 : Int32))), .val (.int (p1 + (2 : Int32)))] [])) _
                          refine XS.iconst X0.here hx rfl (hb hby d5_218) ?_
                          exact k
                        obtain ⟨fs, hr, hrun, hended, hW, hsame⟩ := X0.leave (v := some (.int (0 : Int32))) (fun h => by rw [Bd.returns] at h; cases h)
                        refine ⟨_, _, ?_, hrun, hended, _, _, rfl, ?_, ⟨_, rfl⟩, hW, hsame.mono (by decide) (by decide)⟩
                        · show Steps p.tables e below (s₁.setTop (mkF m 219 #[.val (.ref a0), .val (.int p1), .val (.int ((bs.getD (p1).toNatClampNeg 0) &&& (255 : Int32))), .val (.int (4 : Int32)), .val (.int (128 : Int32)), .val (.int (143 : Int32)), .val (.int ((bs.getD ((p1 + (1 : Int32))).toNatClampNeg 0) &&& (255 : Int32))), .val (.int (p1 + (2 : Int32)))] [(.int (0 : Int32))])) _
                          exact retI X0 hx Bd.returns (hb hby d5_219) hr
                        · show Q5 Z a0 p1 kk z bs h0 n0 _ s₁.heap _
                          rw [e0]
                          exact ⟨by simp only [own_seq, if_pos hpz, if_pos hz, if_neg hc12, if_neg hc31, if_pos hc38, if_pos hc57, if_neg hc110, if_neg hc119, if_pos hc136, if_neg hc159, if_neg hc179, if_neg hc186, if_neg hc215], N0, rfl⟩
              · refine own_go (B := s₁.setTop (mkF m 145 #[.val (.ref a0), .val (.int p1), .val (.int ((bs.getD (p1).toNatClampNeg 0) &&& (255 : Int32))), .val (.int (4 : Int32)), .val (.int (128 : Int32)), .val (.int (191 : Int32)), .unset, .unset] [])) (fun t k => ?_) ?_
                · show Steps p.tables e below (s₁.setTop (mkF m 136 #[.val (.ref a0), .val (.int p1), .val (.int ((bs.getD (p1).toNatClampNeg 0) &&& (255 : Int32))), .val (.int (4 : Int32)), .val (.int (128 : Int32)), .val (.int (191 : Int32)), .unset, .unset] [(.int (244 : Int32)), (.int ((bs.getD (p1).toNatClampNeg 0) &&& (255 : Int32)))])) _
                  refine XS.icmpYes X0.here hx rfl (pc0 := 136) (pc' := 145) rfl (hb hby d5_136) rfl (feq hc136).2 (by decide) (by decide) ?_
                  exact k
                refine own_go (B := s₁.setTop (mkF m 158 #[.val (.ref a0), .val (.int p1), .val (.int ((bs.getD (p1).toNatClampNeg 0) &&& (255 : Int32))), .val (.int (4 : Int32)), .val (.int (128 : Int32)), .val (.int (191 : Int32)), .unset, .unset] [(.ref a0), (.int (p1 + (4 : Int32)))])) (fun t k => ?_) ?_
                · show Steps p.tables e below (s₁.setTop (mkF m 145 #[.val (.ref a0), .val (.int p1), .val (.int ((bs.getD (p1).toNatClampNeg 0) &&& (255 : Int32))), .val (.int (4 : Int32)), .val (.int (128 : Int32)), .val (.int (191 : Int32)), .unset, .unset] [])) _
                  refine XS.iload X0.here hx rfl (hb hby d5_145) rfl ?_
                  show Steps p.tables e below (s₁.setTop (mkF m 147 #[.val (.ref a0), .val (.int p1), .val (.int ((bs.getD (p1).toNatClampNeg 0) &&& (255 : Int32))), .val (.int (4 : Int32)), .val (.int (128 : Int32)), .val (.int (191 : Int32)), .unset, .unset] [(.int (191 : Int32))])) _
                  refine XS.istore X0.here hx rfl (hb hby d5_147) rfl (l' := #[.val (.ref a0), .val (.int p1), .val (.int ((bs.getD (p1).toNatClampNeg 0) &&& (255 : Int32))), .val (.int (4 : Int32)), .val (.int (128 : Int32)), .val (.int (191 : Int32)), .unset, .unset]) rfl ?_
                  show Steps p.tables e below (s₁.setTop (mkF m 149 #[.val (.ref a0), .val (.int p1), .val (.int ((bs.getD (p1).toNatClampNeg 0) &&& (255 : Int32))), .val (.int (4 : Int32)), .val (.int (128 : Int32)), .val (.int (191 : Int32)), .unset, .unset] [])) _
                  refine XS.goto X0.here hx rfl (pc0 := 149) (pc' := 154) rfl (hb hby d5_149) (by decide) (by decide) ?_
                  show Steps p.tables e below (s₁.setTop (mkF m 154 #[.val (.ref a0), .val (.int p1), .val (.int ((bs.getD (p1).toNatClampNeg 0) &&& (255 : Int32))), .val (.int (4 : Int32)), .val (.int (128 : Int32)), .val (.int (191 : Int32)), .unset, .unset] [])) _
                  refine XS.iloadN X0.here hx rfl (hb hby d5_154) rfl ?_
                  show Steps p.tables e below (s₁.setTop (mkF m 155 #[.val (.ref a0), .val (.int p1), .val (.int ((bs.getD (p1).toNatClampNeg 0) &&& (255 : Int32))), .val (.int (4 : Int32)), .val (.int (128 : Int32)), .val (.int (191 : Int32)), .unset, .unset] [(.int p1)])) _
                  refine XS.iloadN X0.here hx rfl (hb hby d5_155) rfl ?_
                  show Steps p.tables e below (s₁.setTop (mkF m 156 #[.val (.ref a0), .val (.int p1), .val (.int ((bs.getD (p1).toNatClampNeg 0) &&& (255 : Int32))), .val (.int (4 : Int32)), .val (.int (128 : Int32)), .val (.int (191 : Int32)), .unset, .unset] [(.int (4 : Int32)), (.int p1)])) _
                  refine XS.iadd X0.here hx rfl (hb hby d5_156) rfl ?_
                  show Steps p.tables e below (s₁.setTop (mkF m 157 #[.val (.ref a0), .val (.int p1), .val (.int ((bs.getD (p1).toNatClampNeg 0) &&& (255 : Int32))), .val (.int (4 : Int32)), .val (.int (128 : Int32)), .val (.int (191 : Int32)), .unset, .unset] [(.int (p1 + (4 : Int32)))])) _
                  refine XS.aloadN X0.here hx rfl (hb hby d5_157) rfl rfl ?_
                  exact k
                obtain ⟨cl_10, Ar_10, -, S_10, M_10, -, -⟩ := id V0
                refine own_go (B := s₁.setTop (mkF m 159 #[.val (.ref a0), .val (.int p1), .val (.int ((bs.getD (p1).toNatClampNeg 0) &&& (255 : Int32))), .val (.int (4 : Int32)), .val (.int (128 : Int32)), .val (.int (191 : Int32)), .unset, .unset] [(.int z), (.int (p1 + (4 : Int32)))])) (fun t k => X0.arraylength hx (by rw [(e0 : _ = _)]; exact Ar_10.1) (State.isArrayOf_alike hZ.alike Ar_10.2.1) (g := (mkF m 158 #[.val (.ref a0), .val (.int p1), .val (.int ((bs.getD (p1).toNatClampNeg 0) &&& (255 : Int32))), .val (.int (4 : Int32)), .val (.int (128 : Int32)), .val (.int (191 : Int32)), .unset, .unset] [(.ref a0), (.int (p1 + (4 : Int32)))])) rfl rfl (hb hby d5_158) t (by rw [len_of S_10 M_10]; exact k)) ?_
                by_cases hc159 : z < (p1 + (4 : Int32))
                · refine own_go (B := s₁.setTop (mkF m 162 #[.val (.ref a0), .val (.int p1), .val (.int ((bs.getD (p1).toNatClampNeg 0) &&& (255 : Int32))), .val (.int (4 : Int32)), .val (.int (128 : Int32)), .val (.int (191 : Int32)), .unset, .unset] [])) (fun t k => ?_) ?_
                  · show Steps p.tables e below (s₁.setTop (mkF m 159 #[.val (.ref a0), .val (.int p1), .val (.int ((bs.getD (p1).toNatClampNeg 0) &&& (255 : Int32))), .val (.int (4 : Int32)), .val (.int (128 : Int32)), .val (.int (191 : Int32)), .unset, .unset] [(.int z), (.int (p1 + (4 : Int32)))])) _
                    refine XS.icmpNo X0.here hx rfl (hb hby d5_159) rfl (tlt hc159).2.2.2 ?_
                    exact k
                  refine own_go (B := s₁.setTop (mkF m 163 #[.val (.ref a0), .val (.int p1), .val (.int ((bs.getD (p1).toNatClampNeg 0) &&& (255 : Int32))), .val (.int (4 : Int32)), .val (.int (128 : Int32)), .val (.int (191 : Int32)), .unset, .unset] [(.int (0 : Int32))])) (fun t k => ?_) ?_
                  · show Steps p.tables e below (s₁.setTop (mkF m 162 #[.val (.ref a0), .val (.int p1), .val (.int ((bs.getD (p1).toNatClampNeg 0) &&& (255 : Int32))), .val (.int (4 : Int32)), .val (.int (128 : Int32)), .val (.int (191 : Int32)), .unset, .unset] [])) _
                    refine XS.iconst X0.here hx rfl (hb hby d5_162) ?_
                    exact k
                  obtain ⟨fs, hr, hrun, hended, hW, hsame⟩ := X0.leave (v := some (.int (0 : Int32))) (fun h => by rw [Bd.returns] at h; cases h)
                  refine ⟨_, _, ?_, hrun, hended, _, _, rfl, ?_, ⟨_, rfl⟩, hW, hsame.mono (by decide) (by decide)⟩
                  · show Steps p.tables e below (s₁.setTop (mkF m 163 #[.val (.ref a0), .val (.int p1), .val (.int ((bs.getD (p1).toNatClampNeg 0) &&& (255 : Int32))), .val (.int (4 : Int32)), .val (.int (128 : Int32)), .val (.int (191 : Int32)), .unset, .unset] [(.int (0 : Int32))])) _
                    exact retI X0 hx Bd.returns (hb hby d5_163) hr
                  · show Q5 Z a0 p1 kk z bs h0 n0 _ s₁.heap _
                    rw [e0]
                    exact ⟨by simp only [own_seq, if_pos hpz, if_pos hz, if_neg hc12, if_neg hc31, if_pos hc38, if_pos hc57, if_neg hc110, if_neg hc119, if_neg hc136, if_pos hc159], N0, rfl⟩
                · refine own_go (B := s₁.setTop (mkF m 164 #[.val (.ref a0), .val (.int p1), .val (.int ((bs.getD (p1).toNatClampNeg 0) &&& (255 : Int32))), .val (.int (4 : Int32)), .val (.int (128 : Int32)), .val (.int (191 : Int32)), .unset, .unset] [])) (fun t k => ?_) ?_
                  · show Steps p.tables e below (s₁.setTop (mkF m 159 #[.val (.ref a0), .val (.int p1), .val (.int ((bs.getD (p1).toNatClampNeg 0) &&& (255 : Int32))), .val (.int (4 : Int32)), .val (.int (128 : Int32)), .val (.int (191 : Int32)), .unset, .unset] [(.int z), (.int (p1 + (4 : Int32)))])) _
                    refine XS.icmpYes X0.here hx rfl (pc0 := 159) (pc' := 164) rfl (hb hby d5_159) rfl (flt hc159).2.2.2 (by decide) (by decide) ?_
                    exact k
                  refine own_go (B := s₁.setTop (mkF m 168 #[.val (.ref a0), .val (.int p1), .val (.int ((bs.getD (p1).toNatClampNeg 0) &&& (255 : Int32))), .val (.int (4 : Int32)), .val (.int (128 : Int32)), .val (.int (191 : Int32)), .unset, .unset] [(.int (p1 + (1 : Int32))), (.ref a0)])) (fun t k => ?_) ?_
                  · show Steps p.tables e below (s₁.setTop (mkF m 164 #[.val (.ref a0), .val (.int p1), .val (.int ((bs.getD (p1).toNatClampNeg 0) &&& (255 : Int32))), .val (.int (4 : Int32)), .val (.int (128 : Int32)), .val (.int (191 : Int32)), .unset, .unset] [])) _
                    refine XS.aloadN X0.here hx rfl (hb hby d5_164) rfl rfl ?_
                    show Steps p.tables e below (s₁.setTop (mkF m 165 #[.val (.ref a0), .val (.int p1), .val (.int ((bs.getD (p1).toNatClampNeg 0) &&& (255 : Int32))), .val (.int (4 : Int32)), .val (.int (128 : Int32)), .val (.int (191 : Int32)), .unset, .unset] [(.ref a0)])) _
                    refine XS.iloadN X0.here hx rfl (hb hby d5_165) rfl ?_
                    show Steps p.tables e below (s₁.setTop (mkF m 166 #[.val (.ref a0), .val (.int p1), .val (.int ((bs.getD (p1).toNatClampNeg 0) &&& (255 : Int32))), .val (.int (4 : Int32)), .val (.int (128 : Int32)), .val (.int (191 : Int32)), .unset, .unset] [(.int p1), (.ref a0)])) _
                    refine XS.iconst X0.here hx rfl (hb hby d5_166) ?_
                    show Steps p.tables e below (s₁.setTop (mkF m 167 #[.val (.ref a0), .val (.int p1), .val (.int ((bs.getD (p1).toNatClampNeg 0) &&& (255 : Int32))), .val (.int (4 : Int32)), .val (.int (128 : Int32)), .val (.int (191 : Int32)), .unset, .unset] [(.int (1 : Int32)), (.int p1), (.ref a0)])) _
                    refine XS.iadd X0.here hx rfl (hb hby d5_167) rfl ?_
                    exact k
                  obtain ⟨cl_11, Ar_11, q_11, S_11, M_11, H_11, G_11⟩ := id V0
                  have hin_11 : ¬ ((p1 + (1 : Int32)) < 0 ∨ cl_11.slots.size ≤ ((p1 + (1 : Int32))).toNatClampNeg) := inb_of S_11 (own_inb p1 z (1 : Int32) (4 : Int32) hp hpz hz hc159 (by decide))
                  have hat_11 : cl_11.slots[((p1 + (1 : Int32))).toNatClampNeg]? = some (.int (bs.getD ((p1 + (1 : Int32))).toNatClampNeg 0)) := H_11.at hin_11 (own_map bs _)
                  refine own_go (B := s₁.setTop (mkF m 169 #[.val (.ref a0), .val (.int p1), .val (.int ((bs.getD (p1).toNatClampNeg 0) &&& (255 : Int32))), .val (.int (4 : Int32)), .val (.int (128 : Int32)), .val (.int (191 : Int32)), .unset, .unset] [(.int (bs.getD ((p1 + (1 : Int32))).toNatClampNeg 0))])) (fun t k => X0.baloadBytes hx (j := (p1 + (1 : Int32))) (v := (.int (bs.getD ((p1 + (1 : Int32))).toNatClampNeg 0))) (by rw [(e0 : _ = _)]; exact Ar_11.1) (State.isArrayOf_alike hZ.alike Ar_11.2.1) Ar_11.2.2 hin_11 hat_11 (g := (mkF m 168 #[.val (.ref a0), .val (.int p1), .val (.int ((bs.getD (p1).toNatClampNeg 0) &&& (255 : Int32))), .val (.int (4 : Int32)), .val (.int (128 : Int32)), .val (.int (191 : Int32)), .unset, .unset] [(.int (p1 + (1 : Int32))), (.ref a0)])) rfl rfl (hb hby d5_168) t k) ?_
                  refine own_go (B := s₁.setTop (mkF m 179 #[.val (.ref a0), .val (.int p1), .val (.int ((bs.getD (p1).toNatClampNeg 0) &&& (255 : Int32))), .val (.int (4 : Int32)), .val (.int (128 : Int32)), .val (.int (191 : Int32)), .val (.int ((bs.getD ((p1 + (1 : Int32))).toNatClampNeg 0) &&& (255 : Int32))), .unset] [(.int (128 : Int32)), (.int ((bs.getD ((p1 + (1 : Int32))).toNatClampNeg 0) &&& (255 : Int32)))])) (fun t k => ?_) ?_
                  · show Steps p.tables e below (s₁.setTop (mkF m 169 #[.val (.ref a0), .val (.int p1), .val (.int ((bs.getD (p1).toNatClampNeg 0) &&& (255 : Int32))), .val (.int (4 : Int32)), .val (.int (128 : Int32)), .val (.int (191 : Int32)), .unset, .unset] [(.int (bs.getD ((p1 + (1 : Int32))).toNatClampNeg 0))])) _
                    refine XS.sipush X0.here hx rfl (hb hby d5_169) ?_
                    show Steps p.tables e below (s₁.setTop (mkF m 172 #[.val (.ref a0), .val (.int p1), .val (.int ((bs.getD (p1).toNatClampNeg 0) &&& (255 : Int32))), .val (.int (4 : Int32)), .val (.int (128 : Int32)), .val (.int (191 : Int32)), .unset, .unset] [(.int (255 : Int32)), (.int (bs.getD ((p1 + (1 : Int32))).toNatClampNeg 0))])) _
                    refine XS.iand X0.here hx rfl (hb hby d5_172) rfl ?_
                    show Steps p.tables e below (s₁.setTop (mkF m 173 #[.val (.ref a0), .val (.int p1), .val (.int ((bs.getD (p1).toNatClampNeg 0) &&& (255 : Int32))), .val (.int (4 : Int32)), .val (.int (128 : Int32)), .val (.int (191 : Int32)), .unset, .unset] [(.int ((bs.getD ((p1 + (1 : Int32))).toNatClampNeg 0) &&& (255 : Int32)))])) _
                    refine XS.istore X0.here hx rfl (hb hby d5_173) rfl (l' := #[.val (.ref a0), .val (.int p1), .val (.int ((bs.getD (p1).toNatClampNeg 0) &&& (255 : Int32))), .val (.int (4 : Int32)), .val (.int (128 : Int32)), .val (.int (191 : Int32)), .val (.int ((bs.getD ((p1 + (1 : Int32))).toNatClampNeg 0) &&& (255 : Int32))), .unset]) rfl ?_
                    show Steps p.tables e below (s₁.setTop (mkF m 175 #[.val (.ref a0), .val (.int p1), .val (.int ((bs.getD (p1).toNatClampNeg 0) &&& (255 : Int32))), .val (.int (4 : Int32)), .val (.int (128 : Int32)), .val (.int (191 : Int32)), .val (.int ((bs.getD ((p1 + (1 : Int32))).toNatClampNeg 0) &&& (255 : Int32))), .unset] [])) _
                    refine XS.iload X0.here hx rfl (hb hby d5_175) rfl ?_
                    show Steps p.tables e below (s₁.setTop (mkF m 177 #[.val (.ref a0), .val (.int p1), .val (.int ((bs.getD (p1).toNatClampNeg 0) &&& (255 : Int32))), .val (.int (4 : Int32)), .val (.int (128 : Int32)), .val (.int (191 : Int32)), .val (.int ((bs.getD ((p1 + (1 : Int32))).toNatClampNeg 0) &&& (255 : Int32))), .unset] [(.int ((bs.getD ((p1 + (1 : Int32))).toNatClampNeg 0) &&& (255 : Int32)))])) _
                    refine XS.iload X0.here hx rfl (hb hby d5_177) rfl ?_
                    exact k
                  by_cases hc179 : ((bs.getD ((p1 + (1 : Int32))).toNatClampNeg 0) &&& (255 : Int32)) < (128 : Int32)
                  · refine own_go (B := s₁.setTop (mkF m 189 #[.val (.ref a0), .val (.int p1), .val (.int ((bs.getD (p1).toNatClampNeg 0) &&& (255 : Int32))), .val (.int (4 : Int32)), .val (.int (128 : Int32)), .val (.int (191 : Int32)), .val (.int ((bs.getD ((p1 + (1 : Int32))).toNatClampNeg 0) &&& (255 : Int32))), .unset] [])) (fun t k => ?_) ?_
                    · show Steps p.tables e below (s₁.setTop (mkF m 179 #[.val (.ref a0), .val (.int p1), .val (.int ((bs.getD (p1).toNatClampNeg 0) &&& (255 : Int32))), .val (.int (4 : Int32)), .val (.int (128 : Int32)), .val (.int (191 : Int32)), .val (.int ((bs.getD ((p1 + (1 : Int32))).toNatClampNeg 0) &&& (255 : Int32))), .unset] [(.int (128 : Int32)), (.int ((bs.getD ((p1 + (1 : Int32))).toNatClampNeg 0) &&& (255 : Int32)))])) _
                      refine XS.icmpYes X0.here hx rfl (pc0 := 179) (pc' := 189) rfl (hb hby d5_179) rfl (tlt hc179).1 (by decide) (by decide) ?_
                      exact k
                    refine own_go (B := s₁.setTop (mkF m 190 #[.val (.ref a0), .val (.int p1), .val (.int ((bs.getD (p1).toNatClampNeg 0) &&& (255 : Int32))), .val (.int (4 : Int32)), .val (.int (128 : Int32)), .val (.int (191 : Int32)), .val (.int ((bs.getD ((p1 + (1 : Int32))).toNatClampNeg 0) &&& (255 : Int32))), .unset] [(.int (0 : Int32))])) (fun t k => ?_) ?_
                    · show Steps p.tables e below (s₁.setTop (mkF m 189 #[.val (.ref a0), .val (.int p1), .val (.int ((bs.getD (p1).toNatClampNeg 0) &&& (255 : Int32))), .val (.int (4 : Int32)), .val (.int (128 : Int32)), .val (.int (191 : Int32)), .val (.int ((bs.getD ((p1 + (1 : Int32))).toNatClampNeg 0) &&& (255 : Int32))), .unset] [])) _
                      refine XS.iconst X0.here hx rfl (hb hby d5_189) ?_
                      exact k
                    obtain ⟨fs, hr, hrun, hended, hW, hsame⟩ := X0.leave (v := some (.int (0 : Int32))) (fun h => by rw [Bd.returns] at h; cases h)
                    refine ⟨_, _, ?_, hrun, hended, _, _, rfl, ?_, ⟨_, rfl⟩, hW, hsame.mono (by decide) (by decide)⟩
                    · show Steps p.tables e below (s₁.setTop (mkF m 190 #[.val (.ref a0), .val (.int p1), .val (.int ((bs.getD (p1).toNatClampNeg 0) &&& (255 : Int32))), .val (.int (4 : Int32)), .val (.int (128 : Int32)), .val (.int (191 : Int32)), .val (.int ((bs.getD ((p1 + (1 : Int32))).toNatClampNeg 0) &&& (255 : Int32))), .unset] [(.int (0 : Int32))])) _
                      exact retI X0 hx Bd.returns (hb hby d5_190) hr
                    · show Q5 Z a0 p1 kk z bs h0 n0 _ s₁.heap _
                      rw [e0]
                      exact ⟨by simp only [own_seq, if_pos hpz, if_pos hz, if_neg hc12, if_neg hc31, if_pos hc38, if_pos hc57, if_neg hc110, if_neg hc119, if_neg hc136, if_neg hc159, if_pos hc179], N0, rfl⟩
                  · refine own_go (B := s₁.setTop (mkF m 182 #[.val (.ref a0), .val (.int p1), .val (.int ((bs.getD (p1).toNatClampNeg 0) &&& (255 : Int32))), .val (.int (4 : Int32)), .val (.int (128 : Int32)), .val (.int (191 : Int32)), .val (.int ((bs.getD ((p1 + (1 : Int32))).toNatClampNeg 0) &&& (255 : Int32))), .unset] [])) (fun t k => ?_) ?_
                    · show Steps p.tables e below (s₁.setTop (mkF m 179 #[.val (.ref a0), .val (.int p1), .val (.int ((bs.getD (p1).toNatClampNeg 0) &&& (255 : Int32))), .val (.int (4 : Int32)), .val (.int (128 : Int32)), .val (.int (191 : Int32)), .val (.int ((bs.getD ((p1 + (1 : Int32))).toNatClampNeg 0) &&& (255 : Int32))), .unset] [(.int (128 : Int32)), (.int ((bs.getD ((p1 + (1 : Int32))).toNatClampNeg 0) &&& (255 : Int32)))])) _
                      refine XS.icmpNo X0.here hx rfl (hb hby d5_179) rfl (flt hc179).1 ?_
                      exact k
                    refine own_go (B := s₁.setTop (mkF m 186 #[.val (.ref a0), .val (.int p1), .val (.int ((bs.getD (p1).toNatClampNeg 0) &&& (255 : Int32))), .val (.int (4 : Int32)), .val (.int (128 : Int32)), .val (.int (191 : Int32)), .val (.int ((bs.getD ((p1 + (1 : Int32))).toNatClampNeg 0) &&& (255 : Int32))), .unset] [(.int (191 : Int32)), (.int ((bs.getD ((p1 + (1 : Int32))).toNatClampNeg 0) &&& (255 : Int32)))])) (fun t k => ?_) ?_
                    · show Steps p.tables e below (s₁.setTop (mkF m 182 #[.val (.ref a0), .val (.int p1), .val (.int ((bs.getD (p1).toNatClampNeg 0) &&& (255 : Int32))), .val (.int (4 : Int32)), .val (.int (128 : Int32)), .val (.int (191 : Int32)), .val (.int ((bs.getD ((p1 + (1 : Int32))).toNatClampNeg 0) &&& (255 : Int32))), .unset] [])) _
                      refine XS.iload X0.here hx rfl (hb hby d5_182) rfl ?_
                      show Steps p.tables e below (s₁.setTop (mkF m 184 #[.val (.ref a0), .val (.int p1), .val (.int ((bs.getD (p1).toNatClampNeg 0) &&& (255 : Int32))), .val (.int (4 : Int32)), .val (.int (128 : Int32)), .val (.int (191 : Int32)), .val (.int ((bs.getD ((p1 + (1 : Int32))).toNatClampNeg 0) &&& (255 : Int32))), .unset] [(.int ((bs.getD ((p1 + (1 : Int32))).toNatClampNeg 0) &&& (255 : Int32)))])) _
                      refine XS.iload X0.here hx rfl (hb hby d5_184) rfl ?_
                      exact k
                    by_cases hc186 : (191 : Int32) < ((bs.getD ((p1 + (1 : Int32))).toNatClampNeg 0) &&& (255 : Int32))
                    · refine own_go (B := s₁.setTop (mkF m 189 #[.val (.ref a0), .val (.int p1), .val (.int ((bs.getD (p1).toNatClampNeg 0) &&& (255 : Int32))), .val (.int (4 : Int32)), .val (.int (128 : Int32)), .val (.int (191 : Int32)), .val (.int ((bs.getD ((p1 + (1 : Int32))).toNatClampNeg 0) &&& (255 : Int32))), .unset] [])) (fun t k => ?_) ?_
                      · show Steps p.tables e below (s₁.setTop (mkF m 186 #[.val (.ref a0), .val (.int p1), .val (.int ((bs.getD (p1).toNatClampNeg 0) &&& (255 : Int32))), .val (.int (4 : Int32)), .val (.int (128 : Int32)), .val (.int (191 : Int32)), .val (.int ((bs.getD ((p1 + (1 : Int32))).toNatClampNeg 0) &&& (255 : Int32))), .unset] [(.int (191 : Int32)), (.int ((bs.getD ((p1 + (1 : Int32))).toNatClampNeg 0) &&& (255 : Int32)))])) _
                        refine XS.icmpNo X0.here hx rfl (hb hby d5_186) rfl (tlt hc186).2.2.2 ?_
                        exact k
                      refine own_go (B := s₁.setTop (mkF m 190 #[.val (.ref a0), .val (.int p1), .val (.int ((bs.getD (p1).toNatClampNeg 0) &&& (255 : Int32))), .val (.int (4 : Int32)), .val (.int (128 : Int32)), .val (.int (191 : Int32)), .val (.int ((bs.getD ((p1 + (1 : Int32))).toNatClampNeg 0) &&& (255 : Int32))), .unset] [(.int (0 : Int32))])) (fun t k => ?_) ?_
                      · show Steps p.tables e below (s₁.setTop (mkF m 189 #[.val (.ref a0), .val (.int p1), .val (.int ((bs.getD (p1).toNatClampNeg 0) &&& (255 : Int32))), .val (.int (4 : Int32)), .val (.int (128 : Int32)), .val (.int (191 : Int32)), .val (.int ((bs.getD ((p1 + (1 : Int32))).toNatClampNeg 0) &&& (255 : Int32))), .unset] [])) _
                        refine XS.iconst X0.here hx rfl (hb hby d5_189) ?_
                        exact k
                      obtain ⟨fs, hr, hrun, hended, hW, hsame⟩ := X0.leave (v := some (.int (0 : Int32))) (fun h => by rw [Bd.returns] at h; cases h)
                      refine ⟨_, _, ?_, hrun, hended, _, _, rfl, ?_, ⟨_, rfl⟩, hW, hsame.mono (by decide) (by decide)⟩
                      · show Steps p.tables e below (s₁.setTop (mkF m 190 #[.val (.ref a0), .val (.int p1), .val (.int ((bs.getD (p1).toNatClampNeg 0) &&& (255 : Int32))), .val (.int (4 : Int32)), .val (.int (128 : Int32)), .val (.int (191 : Int32)), .val (.int ((bs.getD ((p1 + (1 : Int32))).toNatClampNeg 0) &&& (255 : Int32))), .unset] [(.int (0 : Int32))])) _
                        exact retI X0 hx Bd.returns (hb hby d5_190) hr
                      · show Q5 Z a0 p1 kk z bs h0 n0 _ s₁.heap _
                        rw [e0]
                        exact ⟨by simp only [own_seq, if_pos hpz, if_pos hz, if_neg hc12, if_neg hc31, if_pos hc38, if_pos hc57, if_neg hc110, if_neg hc119, if_neg hc136, if_neg hc159, if_neg hc179, if_pos hc186], N0, rfl⟩
                    · refine own_go (B := s₁.setTop (mkF m 191 #[.val (.ref a0), .val (.int p1), .val (.int ((bs.getD (p1).toNatClampNeg 0) &&& (255 : Int32))), .val (.int (4 : Int32)), .val (.int (128 : Int32)), .val (.int (191 : Int32)), .val (.int ((bs.getD ((p1 + (1 : Int32))).toNatClampNeg 0) &&& (255 : Int32))), .unset] [])) (fun t k => ?_) ?_
                      · show Steps p.tables e below (s₁.setTop (mkF m 186 #[.val (.ref a0), .val (.int p1), .val (.int ((bs.getD (p1).toNatClampNeg 0) &&& (255 : Int32))), .val (.int (4 : Int32)), .val (.int (128 : Int32)), .val (.int (191 : Int32)), .val (.int ((bs.getD ((p1 + (1 : Int32))).toNatClampNeg 0) &&& (255 : Int32))), .unset] [(.int (191 : Int32)), (.int ((bs.getD ((p1 + (1 : Int32))).toNatClampNeg 0) &&& (255 : Int32)))])) _
                        refine XS.icmpYes X0.here hx rfl (pc0 := 186) (pc' := 191) rfl (hb hby d5_186) rfl (flt hc186).2.2.2 (by decide) (by decide) ?_
                        exact k
                      refine own_go (B := s₁.setTop (mkF m 201 #[.val (.ref a0), .val (.int p1), .val (.int ((bs.getD (p1).toNatClampNeg 0) &&& (255 : Int32))), .val (.int (4 : Int32)), .val (.int (128 : Int32)), .val (.int (191 : Int32)), .val (.int ((bs.getD ((p1 + (1 : Int32))).toNatClampNeg 0) &&& (255 : Int32))), .val (.int (p1 + (2 : Int32)))] [(.int (p1 + (4 : Int32))), (.int (p1 + (2 : Int32)))])) (fun t k => ?_) ?_
                      · show Steps p.tables e below (s₁.setTop (mkF m 191 #[.val (.ref a0), .val (.int p1), .val (.int ((bs.getD (p1).toNatClampNeg 0) &&& (255 : Int32))), .val (.int (4 : Int32)), .val (.int (128 : Int32)), .val (.int (191 : Int32)), .val (.int ((bs.getD ((p1 + (1 : Int32))).toNatClampNeg 0) &&& (255 : Int32))), .unset] [])) _
                        refine XS.iloadN X0.here hx rfl (hb hby d5_191) rfl ?_
                        show Steps p.tables e below (s₁.setTop (mkF m 192 #[.val (.ref a0), .val (.int p1), .val (.int ((bs.getD (p1).toNatClampNeg 0) &&& (255 : Int32))), .val (.int (4 : Int32)), .val (.int (128 : Int32)), .val (.int (191 : Int32)), .val (.int ((bs.getD ((p1 + (1 : Int32))).toNatClampNeg 0) &&& (255 : Int32))), .unset] [(.int p1)])) _
                        refine XS.iconst X0.here hx rfl (hb hby d5_192) ?_
                        show Steps p.tables e below (s₁.setTop (mkF m 193 #[.val (.ref a0), .val (.int p1), .val (.int ((bs.getD (p1).toNatClampNeg 0) &&& (255 : Int32))), .val (.int (4 : Int32)), .val (.int (128 : Int32)), .val (.int (191 : Int32)), .val (.int ((bs.getD ((p1 + (1 : Int32))).toNatClampNeg 0) &&& (255 : Int32))), .unset] [(.int (2 : Int32)), (.int p1)])) _
                        refine XS.iadd X0.here hx rfl (hb hby d5_193) rfl ?_
                        show Steps p.tables e below (s₁.setTop (mkF m 194 #[.val (.ref a0), .val (.int p1), .val (.int ((bs.getD (p1).toNatClampNeg 0) &&& (255 : Int32))), .val (.int (4 : Int32)), .val (.int (128 : Int32)), .val (.int (191 : Int32)), .val (.int ((bs.getD ((p1 + (1 : Int32))).toNatClampNeg 0) &&& (255 : Int32))), .unset] [(.int (p1 + (2 : Int32)))])) _
                        refine XS.istore X0.here hx rfl (hb hby d5_194) rfl (l' := #[.val (.ref a0), .val (.int p1), .val (.int ((bs.getD (p1).toNatClampNeg 0) &&& (255 : Int32))), .val (.int (4 : Int32)), .val (.int (128 : Int32)), .val (.int (191 : Int32)), .val (.int ((bs.getD ((p1 + (1 : Int32))).toNatClampNeg 0) &&& (255 : Int32))), .val (.int (p1 + (2 : Int32)))]) rfl ?_
                        show Steps p.tables e below (s₁.setTop (mkF m 196 #[.val (.ref a0), .val (.int p1), .val (.int ((bs.getD (p1).toNatClampNeg 0) &&& (255 : Int32))), .val (.int (4 : Int32)), .val (.int (128 : Int32)), .val (.int (191 : Int32)), .val (.int ((bs.getD ((p1 + (1 : Int32))).toNatClampNeg 0) &&& (255 : Int32))), .val (.int (p1 + (2 : Int32)))] [])) _
                        refine XS.iload X0.here hx rfl (hb hby d5_196) rfl ?_
                        show Steps p.tables e below (s₁.setTop (mkF m 198 #[.val (.ref a0), .val (.int p1), .val (.int ((bs.getD (p1).toNatClampNeg 0) &&& (255 : Int32))), .val (.int (4 : Int32)), .val (.int (128 : Int32)), .val (.int (191 : Int32)), .val (.int ((bs.getD ((p1 + (1 : Int32))).toNatClampNeg 0) &&& (255 : Int32))), .val (.int (p1 + (2 : Int32)))] [(.int (p1 + (2 : Int32)))])) _
                        refine XS.iloadN X0.here hx rfl (hb hby d5_198) rfl ?_
                        show Steps p.tables e below (s₁.setTop (mkF m 199 #[.val (.ref a0), .val (.int p1), .val (.int ((bs.getD (p1).toNatClampNeg 0) &&& (255 : Int32))), .val (.int (4 : Int32)), .val (.int (128 : Int32)), .val (.int (191 : Int32)), .val (.int ((bs.getD ((p1 + (1 : Int32))).toNatClampNeg 0) &&& (255 : Int32))), .val (.int (p1 + (2 : Int32)))] [(.int p1), (.int (p1 + (2 : Int32)))])) _
                        refine XS.iloadN X0.here hx rfl (hb hby d5_199) rfl ?_
                        show Steps p.tables e below (s₁.setTop (mkF m 200 #[.val (.ref a0), .val (.int p1), .val (.int ((bs.getD (p1).toNatClampNeg 0) &&& (255 : Int32))), .val (.int (4 : Int32)), .val (.int (128 : Int32)), .val (.int (191 : Int32)), .val (.int ((bs.getD ((p1 + (1 : Int32))).toNatClampNeg 0) &&& (255 : Int32))), .val (.int (p1 + (2 : Int32)))] [(.int (4 : Int32)), (.int p1), (.int (p1 + (2 : Int32)))])) _
                        refine XS.iadd X0.here hx rfl (hb hby d5_200) rfl ?_
                        exact k
                      refine own_go (B := s₁.setTop (mkF m 204 #[.val (.ref a0), .val (.int p1), .val (.int ((bs.getD (p1).toNatClampNeg 0) &&& (255 : Int32))), .val (.int (4 : Int32)), .val (.int (128 : Int32)), .val (.int (191 : Int32)), .val (.int ((bs.getD ((p1 + (1 : Int32))).toNatClampNeg 0) &&& (255 : Int32))), .val (.int (p1 + (2 : Int32)))] [])) (fun t k => ?_) ?_
                      · show Steps p.tables e below (s₁.setTop (mkF m 201 #[.val (.ref a0), .val (.int p1), .val (.int ((bs.getD (p1).toNatClampNeg 0) &&& (255 : Int32))), .val (.int (4 : Int32)), .val (.int (128 : Int32)), .val (.int (191 : Int32)), .val (.int ((bs.getD ((p1 + (1 : Int32))).toNatClampNeg 0) &&& (255 : Int32))), .val (.int (p1 + (2 : Int32)))] [(.int (p1 + (4 : Int32))), (.int (p1 + (2 : Int32)))])) _
                        refine XS.icmpNo X0.here hx rfl (hb hby d5_201) rfl (tlt (own_ltp p1 z 2 4 hp hpz hz (by decide))).2.1 ?_
                        exact k
                      refine own_go (B := s₁.setTop (mkF m 207 #[.val (.ref a0), .val (.int p1), .val (.int ((bs.getD (p1).toNatClampNeg 0) &&& (255 : Int32))), .val (.int (4 : Int32)), .val (.int (128 : Int32)), .val (.int (191 : Int32)), .val (.int ((bs.getD ((p1 + (1 : Int32))).toNatClampNeg 0) &&& (255 : Int32))), .val (.int (p1 + (2 : Int32)))] [(.int (p1 + (2 : Int32))), (.ref a0)])) (fun t k => ?_) ?_
                      · show Steps p.tables e below (s₁.setTop (mkF m 204 #[.val (.ref a0), .val (.int p1), .val (.int ((bs.getD (p1).toNatClampNeg 0) &&& (255 : Int32))), .val (.int (4 : Int32)), .val (.int (128 : Int32)), .val (.int (191 : Int32)), .val (.int ((bs.getD ((p1 + (1 : Int32))).toNatClampNeg 0) &&& (255 : Int32))), .val (.int (p1 + (2 : Int32)))] [])) _
                        refine XS.aloadN X0.here hx rfl (hb hby d5_204) rfl rfl ?_
                        show Steps p.tables e below (s₁.setTop (mkF m 205 #[.val (.ref a0), .val (.int p1), .val (.int ((bs.getD (p1).toNatClampNeg 0) &&& (255 : Int32))), .val (.int (4 : Int32)), .val (.int (128 : Int32)), .val (.int (191 : Int32)), .val (.int ((bs.getD ((p1 + (1 : Int32))).toNatClampNeg 0) &&& (255 : Int32))), .val (.int (p1 + (2 : Int32)))] [(.ref a0)])) _
                        refine XS.iload X0.here hx rfl (hb hby d5_205) rfl ?_
                        exact k
                      obtain ⟨cl_12, Ar_12, q_12, S_12, M_12, H_12, G_12⟩ := id V0
                      have hin_12 : ¬ ((p1 + (2 : Int32)) < 0 ∨ cl_12.slots.size ≤ ((p1 + (2 : Int32))).toNatClampNeg) := inb_of S_12 (own_inb p1 z (2 : Int32) (4 : Int32) hp hpz hz hc159 (by decide))
                      have hat_12 : cl_12.slots[((p1 + (2 : Int32))).toNatClampNeg]? = some (.int (bs.getD ((p1 + (2 : Int32))).toNatClampNeg 0)) := H_12.at hin_12 (own_map bs _)
                      refine own_go (B := s₁.setTop (mkF m 208 #[.val (.ref a0), .val (.int p1), .val (.int ((bs.getD (p1).toNatClampNeg 0) &&& (255 : Int32))), .val (.int (4 : Int32)), .val (.int (128 : Int32)), .val (.int (191 : Int32)), .val (.int ((bs.getD ((p1 + (1 : Int32))).toNatClampNeg 0) &&& (255 : Int32))), .val (.int (p1 + (2 : Int32)))] [(.int (bs.getD ((p1 + (2 : Int32))).toNatClampNeg 0))])) (fun t k => X0.baloadBytes hx (j := (p1 + (2 : Int32))) (v := (.int (bs.getD ((p1 + (2 : Int32))).toNatClampNeg 0))) (by rw [(e0 : _ = _)]; exact Ar_12.1) (State.isArrayOf_alike hZ.alike Ar_12.2.1) Ar_12.2.2 hin_12 hat_12 (g := (mkF m 207 #[.val (.ref a0), .val (.int p1), .val (.int ((bs.getD (p1).toNatClampNeg 0) &&& (255 : Int32))), .val (.int (4 : Int32)), .val (.int (128 : Int32)), .val (.int (191 : Int32)), .val (.int ((bs.getD ((p1 + (1 : Int32))).toNatClampNeg 0) &&& (255 : Int32))), .val (.int (p1 + (2 : Int32)))] [(.int (p1 + (2 : Int32))), (.ref a0)])) rfl rfl (hb hby d5_207) t k) ?_
                      refine own_go (B := s₁.setTop (mkF m 215 #[.val (.ref a0), .val (.int p1), .val (.int ((bs.getD (p1).toNatClampNeg 0) &&& (255 : Int32))), .val (.int (4 : Int32)), .val (.int (128 : Int32)), .val (.int (191 : Int32)), .val (.int ((bs.getD ((p1 + (1 : Int32))).toNatClampNeg 0) &&& (255 : Int32))), .val (.int (p1 + (2 : Int32)))] [(.int (128 : Int32)), (.int ((bs.getD ((p1 + (2 : Int32))).toNatClampNeg 0) &&& (192 : Int32)))])) (fun t k => ?_) ?_
                      · show Steps p.tables e below (s₁.setTop (mkF m 208 #[.val (.ref a0), .val (.int p1), .val (.int ((bs.getD (p1).toNatClampNeg 0) &&& (255 : Int32))), .val (.int (4 : Int32)), .val (.int (128 : Int32)), .val (.int (191 : Int32)), .val (.int ((bs.getD ((p1 + (1 : Int32))).toNatClampNeg 0) &&& (255 : Int32))), .val (.int (p1 + (2 : Int32)))] [(.int (bs.getD ((p1 + (2 : Int32))).toNatClampNeg 0))])) _
                        refine XS.sipush X0.here hx rfl (hb hby d5_208) ?_
                        show Steps p.tables e below (s₁.setTop (mkF m 211 #[.val (.ref a0), .val (.int p1), .val (.int ((bs.getD (p1).toNatClampNeg 0) &&& (255 : Int32))), .val (.int (4 : Int32)), .val (.int (128 : Int32)), .val (.int (191 : Int32)), .val (.int ((bs.getD ((p1 + (1 : Int32))).toNatClampNeg 0) &&& (255 : Int32))), .val (.int (p1 + (2 : Int32)))] [(.int (192 : Int32)), (.int (bs.getD ((p1 + (2 : Int32))).toNatClampNeg 0))])) _
                        refine XS.iand X0.here hx rfl (hb hby d5_211) rfl ?_
                        show Steps p.tables e below (s₁.setTop (mkF m 212 #[.val (.ref a0), .val (.int p1), .val (.int ((bs.getD (p1).toNatClampNeg 0) &&& (255 : Int32))), .val (.int (4 : Int32)), .val (.int (128 : Int32)), .val (.int (191 : Int32)), .val (.int ((bs.getD ((p1 + (1 : Int32))).toNatClampNeg 0) &&& (255 : Int32))), .val (.int (p1 + (2 : Int32)))] [(.int ((bs.getD ((p1 + (2 : Int32))).toNatClampNeg 0) &&& (192 : Int32)))])) _
                        refine XS.sipush X0.here hx rfl (hb hby d5_212) ?_
                        exact k
                      by_cases hc215 : ((bs.getD ((p1 + (2 : Int32))).toNatClampNeg 0) &&& (192 : Int32)) = (128 : Int32)
                      · refine own_go (B := s₁.setTop (mkF m 220 #[.val (.ref a0), .val (.int p1), .val (.int ((bs.getD (p1).toNatClampNeg 0) &&& (255 : Int32))), .val (.int (4 : Int32)), .val (.int (128 : Int32)), .val (.int (191 : Int32)), .val (.int ((bs.getD ((p1 + (1 : Int32))).toNatClampNeg 0) &&& (255 : Int32))), .val (.int (p1 + (2 : Int32)))] [])) (fun t k => ?_) ?_
                        · show Steps p.tables e below (s₁.setTop (mkF m 215 #[.val (.ref a0), .val (.int p1), .val (.int ((bs.getD (p1).toNatClampNeg 0) &&& (255 : Int32))), .val (.int (4 : Int32)), .val (.int (128 : Int32)), .val (.int (191 : Int32)), .val (.int ((bs.getD ((p1 + (1 : Int32))).toNatClampNeg 0) &&& (255 : Int32))), .val (.int (p1 + (2 : Int32)))] [(.int (128 : Int32)), (.int ((bs.getD ((p1 + (2 : Int32))).toNatClampNeg 0) &&& (192 : Int32)))])) _
                          refine XS.icmpYes X0.here hx rfl (pc0 := 215) (pc' := 220) rfl (hb hby d5_215) rfl (teq hc215).1 (by decide) (by decide) ?_
                          exact k
                        refine own_go (B := s₁.setTop (mkF m 201 #[.val (.ref a0), .val (.int p1), .val (.int ((bs.getD (p1).toNatClampNeg 0) &&& (255 : Int32))), .val (.int (4 : Int32)), .val (.int (128 : Int32)), .val (.int (191 : Int32)), .val (.int ((bs.getD ((p1 + (1 : Int32))).toNatClampNeg 0) &&& (255 : Int32))), .val (.int (p1 + (3 : Int32)))] [(.int (p1 + (4 : Int32))), (.int (p1 + (3 : Int32)))])) (fun t k => ?_) ?_
                        · show Steps p.tables e below (s₁.setTop (mkF m 220 #[.val (.ref a0), .val (.int p1), .val (.int ((bs.getD (p1).toNatClampNeg 0) &&& (255 : Int32))), .val (.int (4 : Int32)), .val (.int (128 : Int32)), .val (.int (191 : Int32)), .val (.int ((bs.getD ((p1 + (1 : Int32))).toNatClampNeg 0) &&& (255 : Int32))), .val (.int (p1 + (2 : Int32)))] [])) _
                          refine XS.iinc X0.here hx rfl (hb hby d5_220) rfl (l' := #[.val (.ref a0), .val (.int p1), .val (.int ((bs.getD (p1).toNatClampNeg 0) &&& (255 : Int32))), .val (.int (4 : Int32)), .val (.int (128 : Int32)), .val (.int (191 : Int32)), .val (.int ((bs.getD ((p1 + (1 : Int32))).toNatClampNeg 0) &&& (255 : Int32))), .val (.int (p1 + (3 : Int32)))]) (by rw [show p1 + (3 : Int32) = (p1 + (2 : Int32)) + (1 : Int32) from by rw [Int32.add_assoc]; rfl]; rfl) ?_
                          show Steps p.tables e below (s₁.setTop (mkF m 223 #[.val (.ref a0), .val (.int p1), .val (.int ((bs.getD (p1).toNatClampNeg 0) &&& (255 : Int32))), .val (.int (4 : Int32)), .val (.int (128 : Int32)), .val (.int (191 : Int32)), .val (.int ((bs.getD ((p1 + (1 : Int32))).toNatClampNeg 0) &&& (255 : Int32))), .val (.int (p1 + (3 : Int32)))] [])) _
                          refine XS.goto X0.here hx rfl (pc0 := 223) (pc' := 196) rfl (hb hby d5_223) (by decide) (by decide) ?_
                          show Steps p.tables e below (s₁.setTop (mkF m 196 #[.val (.ref a0), .val (.int p1), .val (.int ((bs.getD (p1).toNatClampNeg 0) &&& (255 : Int32))), .val (.int (4 : Int32)), .val (.int (128 : Int32)), .val (.int (191 : Int32)), .val (.int ((bs.getD ((p1 + (1 : Int32))).toNatClampNeg 0) &&& (255 : Int32))), .val (.int (p1 + (3 : Int32)))] [])) _
                          refine XS.iload X0.here hx rfl (hb hby d5_196) rfl ?_
                          show Steps p.tables e below (s₁.setTop (mkF m 198 #[.val (.ref a0), .val (.int p1), .val (.int ((bs.getD (p1).toNatClampNeg 0) &&& (255 : Int32))), .val (.int (4 : Int32)), .val (.int (128 : Int32)), .val (.int (191 : Int32)), .val (.int ((bs.getD ((p1 + (1 : Int32))).toNatClampNeg 0) &&& (255 : Int32))), .val (.int (p1 + (3 : Int32)))] [(.int (p1 + (3 : Int32)))])) _
                          refine XS.iloadN X0.here hx rfl (hb hby d5_198) rfl ?_
                          show Steps p.tables e below (s₁.setTop (mkF m 199 #[.val (.ref a0), .val (.int p1), .val (.int ((bs.getD (p1).toNatClampNeg 0) &&& (255 : Int32))), .val (.int (4 : Int32)), .val (.int (128 : Int32)), .val (.int (191 : Int32)), .val (.int ((bs.getD ((p1 + (1 : Int32))).toNatClampNeg 0) &&& (255 : Int32))), .val (.int (p1 + (3 : Int32)))] [(.int p1), (.int (p1 + (3 : Int32)))])) _
                          refine XS.iloadN X0.here hx rfl (hb hby d5_199) rfl ?_
                          show Steps p.tables e below (s₁.setTop (mkF m 200 #[.val (.ref a0), .val (.int p1), .val (.int ((bs.getD (p1).toNatClampNeg 0) &&& (255 : Int32))), .val (.int (4 : Int32)), .val (.int (128 : Int32)), .val (.int (191 : Int32)), .val (.int ((bs.getD ((p1 + (1 : Int32))).toNatClampNeg 0) &&& (255 : Int32))), .val (.int (p1 + (3 : Int32)))] [(.int (4 : Int32)), (.int p1), (.int (p1 + (3 : Int32)))])) _
                          refine XS.iadd X0.here hx rfl (hb hby d5_200) rfl ?_
                          exact k
                        refine own_go (B := s₁.setTop (mkF m 204 #[.val (.ref a0), .val (.int p1), .val (.int ((bs.getD (p1).toNatClampNeg 0) &&& (255 : Int32))), .val (.int (4 : Int32)), .val (.int (128 : Int32)), .val (.int (191 : Int32)), .val (.int ((bs.getD ((p1 + (1 : Int32))).toNatClampNeg 0) &&& (255 : Int32))), .val (.int (p1 + (3 : Int32)))] [])) (fun t k => ?_) ?_
                        · show Steps p.tables e below (s₁.setTop (mkF m 201 #[.val (.ref a0), .val (.int p1), .val (.int ((bs.getD (p1).toNatClampNeg 0) &&& (255 : Int32))), .val (.int (4 : Int32)), .val (.int (128 : Int32)), .val (.int (191 : Int32)), .val (.int ((bs.getD ((p1 + (1 : Int32))).toNatClampNeg 0) &&& (255 : Int32))), .val (.int (p1 + (3 : Int32)))] [(.int (p1 + (4 : Int32))), (.int (p1 + (3 : Int32)))])) _
                          refine XS.icmpNo X0.here hx rfl (hb hby d5_201) rfl (tlt (own_ltp p1 z 3 4 hp hpz hz (by decide))).2.1 ?_
                          exact k
                        refine own_go (B := s₁.setTop (mkF m 207 #[.val (.ref a0), .val (.int p1), .val (.int ((bs.getD (p1).toNatClampNeg 0) &&& (255 : Int32))), .val (.int (4 : Int32)), .val (.int (128 : Int32)), .val (.int (191 : Int32)), .val (.int ((bs.getD ((p1 + (1 : Int32))).toNatClampNeg 0) &&& (255 : Int32))), .val (.int (p1 + (3 : Int32)))] [(.int (p1 + (3 : Int32))), (.ref a0)])) (fun t k => ?_) ?_
                        · show Steps p.tables e below (s₁.setTop (mkF m 204 #[.val (.ref a0), .val (.int p1), .val (.int ((bs.getD (p1).toNatClampNeg 0) &&& (255 : Int32))), .val (.int (4 : Int32)), .val (.int (128 : Int32)), .val (.int (191 : Int32)), .val (.int ((bs.getD ((p1 + (1 : Int32))).toNatClampNeg 0) &&& (255 : Int32))), .val (.int (p1 + (3 : Int32)))] [])) _
                          refine XS.aloadN X0.here hx rfl (hb hby d5_204) rfl rfl ?_
                          show Steps p.tables e below (s₁.setTop (mkF m 205 #[.val (.ref a0), .val (.int p1), .val (.int ((bs.getD (p1).toNatClampNeg 0) &&& (255 : Int32))), .val (.int (4 : Int32)), .val (.int (128 : Int32)), .val (.int (191 : Int32)), .val (.int ((bs.getD ((p1 + (1 : Int32))).toNatClampNeg 0) &&& (255 : Int32))), .val (.int (p1 + (3 : Int32)))] [(.ref a0)])) _
                          refine XS.iload X0.here hx rfl (hb hby d5_205) rfl ?_
                          exact k
                        obtain ⟨cl_13, Ar_13, q_13, S_13, M_13, H_13, G_13⟩ := id V0
                        have hin_13 : ¬ ((p1 + (3 : Int32)) < 0 ∨ cl_13.slots.size ≤ ((p1 + (3 : Int32))).toNatClampNeg) := inb_of S_13 (own_inb p1 z (3 : Int32) (4 : Int32) hp hpz hz hc159 (by decide))
                        have hat_13 : cl_13.slots[((p1 + (3 : Int32))).toNatClampNeg]? = some (.int (bs.getD ((p1 + (3 : Int32))).toNatClampNeg 0)) := H_13.at hin_13 (own_map bs _)
                        refine own_go (B := s₁.setTop (mkF m 208 #[.val (.ref a0), .val (.int p1), .val (.int ((bs.getD (p1).toNatClampNeg 0) &&& (255 : Int32))), .val (.int (4 : Int32)), .val (.int (128 : Int32)), .val (.int (191 : Int32)), .val (.int ((bs.getD ((p1 + (1 : Int32))).toNatClampNeg 0) &&& (255 : Int32))), .val (.int (p1 + (3 : Int32)))] [(.int (bs.getD ((p1 + (3 : Int32))).toNatClampNeg 0))])) (fun t k => X0.baloadBytes hx (j := (p1 + (3 : Int32))) (v := (.int (bs.getD ((p1 + (3 : Int32))).toNatClampNeg 0))) (by rw [(e0 : _ = _)]; exact Ar_13.1) (State.isArrayOf_alike hZ.alike Ar_13.2.1) Ar_13.2.2 hin_13 hat_13 (g := (mkF m 207 #[.val (.ref a0), .val (.int p1), .val (.int ((bs.getD (p1).toNatClampNeg 0) &&& (255 : Int32))), .val (.int (4 : Int32)), .val (.int (128 : Int32)), .val (.int (191 : Int32)), .val (.int ((bs.getD ((p1 + (1 : Int32))).toNatClampNeg 0) &&& (255 : Int32))), .val (.int (p1 + (3 : Int32)))] [(.int (p1 + (3 : Int32))), (.ref a0)])) rfl rfl (hb hby d5_207) t k) ?_
                        refine own_go (B := s₁.setTop (mkF m 215 #[.val (.ref a0), .val (.int p1), .val (.int ((bs.getD (p1).toNatClampNeg 0) &&& (255 : Int32))), .val (.int (4 : Int32)), .val (.int (128 : Int32)), .val (.int (191 : Int32)), .val (.int ((bs.getD ((p1 + (1 : Int32))).toNatClampNeg 0) &&& (255 : Int32))), .val (.int (p1 + (3 : Int32)))] [(.int (128 : Int32)), (.int ((bs.getD ((p1 + (3 : Int32))).toNatClampNeg 0) &&& (192 : Int32)))])) (fun t k => ?_) ?_
                        · show Steps p.tables e below (s₁.setTop (mkF m 208 #[.val (.ref a0), .val (.int p1), .val (.int ((bs.getD (p1).toNatClampNeg 0) &&& (255 : Int32))), .val (.int (4 : Int32)), .val (.int (128 : Int32)), .val (.int (191 : Int32)), .val (.int ((bs.getD ((p1 + (1 : Int32))).toNatClampNeg 0) &&& (255 : Int32))), .val (.int (p1 + (3 : Int32)))] [(.int (bs.getD ((p1 + (3 : Int32))).toNatClampNeg 0))])) _
                          refine XS.sipush X0.here hx rfl (hb hby d5_208) ?_
                          show Steps p.tables e below (s₁.setTop (mkF m 211 #[.val (.ref a0), .val (.int p1), .val (.int ((bs.getD (p1).toNatClampNeg 0) &&& (255 : Int32))), .val (.int (4 : Int32)), .val (.int (128 : Int32)), .val (.int (191 : Int32)), .val (.int ((bs.getD ((p1 + (1 : Int32))).toNatClampNeg 0) &&& (255 : Int32))), .val (.int (p1 + (3 : Int32)))] [(.int (192 : Int32)), (.int (bs.getD ((p1 + (3 : Int32))).toNatClampNeg 0))])) _
                          refine XS.iand X0.here hx rfl (hb hby d5_211) rfl ?_
                          show Steps p.tables e below (s₁.setTop (mkF m 212 #[.val (.ref a0), .val (.int p1), .val (.int ((bs.getD (p1).toNatClampNeg 0) &&& (255 : Int32))), .val (.int (4 : Int32)), .val (.int (128 : Int32)), .val (.int (191 : Int32)), .val (.int ((bs.getD ((p1 + (1 : Int32))).toNatClampNeg 0) &&& (255 : Int32))), .val (.int (p1 + (3 : Int32)))] [(.int ((bs.getD ((p1 + (3 : Int32))).toNatClampNeg 0) &&& (192 : Int32)))])) _
                          refine XS.sipush X0.here hx rfl (hb hby d5_212) ?_
                          exact k
                        by_cases hc215_1 : ((bs.getD ((p1 + (3 : Int32))).toNatClampNeg 0) &&& (192 : Int32)) = (128 : Int32)
                        · refine own_go (B := s₁.setTop (mkF m 220 #[.val (.ref a0), .val (.int p1), .val (.int ((bs.getD (p1).toNatClampNeg 0) &&& (255 : Int32))), .val (.int (4 : Int32)), .val (.int (128 : Int32)), .val (.int (191 : Int32)), .val (.int ((bs.getD ((p1 + (1 : Int32))).toNatClampNeg 0) &&& (255 : Int32))), .val (.int (p1 + (3 : Int32)))] [])) (fun t k => ?_) ?_
                          · show Steps p.tables e below (s₁.setTop (mkF m 215 #[.val (.ref a0), .val (.int p1), .val (.int ((bs.getD (p1).toNatClampNeg 0) &&& (255 : Int32))), .val (.int (4 : Int32)), .val (.int (128 : Int32)), .val (.int (191 : Int32)), .val (.int ((bs.getD ((p1 + (1 : Int32))).toNatClampNeg 0) &&& (255 : Int32))), .val (.int (p1 + (3 : Int32)))] [(.int (128 : Int32)), (.int ((bs.getD ((p1 + (3 : Int32))).toNatClampNeg 0) &&& (192 : Int32)))])) _
                            refine XS.icmpYes X0.here hx rfl (pc0 := 215) (pc' := 220) rfl (hb hby d5_215) rfl (teq hc215_1).1 (by decide) (by decide) ?_
                            exact k
                          refine own_go (B := s₁.setTop (mkF m 201 #[.val (.ref a0), .val (.int p1), .val (.int ((bs.getD (p1).toNatClampNeg 0) &&& (255 : Int32))), .val (.int (4 : Int32)), .val (.int (128 : Int32)), .val (.int (191 : Int32)), .val (.int ((bs.getD ((p1 + (1 : Int32))).toNatClampNeg 0) &&& (255 : Int32))), .val (.int (p1 + (4 : Int32)))] [(.int (p1 + (4 : Int32))), (.int (p1 + (4 : Int32)))])) (fun t k => ?_) ?_
                          · show Steps p.tables e below (s₁.setTop (mkF m 220 #[.val (.ref a0), .val (.int p1), .val (.int ((bs.getD (p1).toNatClampNeg 0) &&& (255 : Int32))), .val (.int (4 : Int32)), .val (.int (128 : Int32)), .val (.int (191 : Int32)), .val (.int ((bs.getD ((p1 + (1 : Int32))).toNatClampNeg 0) &&& (255 : Int32))), .val (.int (p1 + (3 : Int32)))] [])) _
                            refine XS.iinc X0.here hx rfl (hb hby d5_220) rfl (l' := #[.val (.ref a0), .val (.int p1), .val (.int ((bs.getD (p1).toNatClampNeg 0) &&& (255 : Int32))), .val (.int (4 : Int32)), .val (.int (128 : Int32)), .val (.int (191 : Int32)), .val (.int ((bs.getD ((p1 + (1 : Int32))).toNatClampNeg 0) &&& (255 : Int32))), .val (.int (p1 + (4 : Int32)))]) (by rw [show p1 + (4 : Int32) = (p1 + (3 : Int32)) + (1 : Int32) from by rw [Int32.add_assoc]; rfl]; rfl) ?_
                            show Steps p.tables e below (s₁.setTop (mkF m 223 #[.val (.ref a0), .val (.int p1), .val (.int ((bs.getD (p1).toNatClampNeg 0) &&& (255 : Int32))), .val (.int (4 : Int32)), .val (.int (128 : Int32)), .val (.int (191 : Int32)), .val (.int ((bs.getD ((p1 + (1 : Int32))).toNatClampNeg 0) &&& (255 : Int32))), .val (.int (p1 + (4 : Int32)))] [])) _
                            refine XS.goto X0.here hx rfl (pc0 := 223) (pc' := 196) rfl (hb hby d5_223) (by decide) (by decide) ?_
                            show Steps p.tables e below (s₁.setTop (mkF m 196 #[.val (.ref a0), .val (.int p1), .val (.int ((bs.getD (p1).toNatClampNeg 0) &&& (255 : Int32))), .val (.int (4 : Int32)), .val (.int (128 : Int32)), .val (.int (191 : Int32)), .val (.int ((bs.getD ((p1 + (1 : Int32))).toNatClampNeg 0) &&& (255 : Int32))), .val (.int (p1 + (4 : Int32)))] [])) _
                            refine XS.iload X0.here hx rfl (hb hby d5_196) rfl ?_
                            show Steps p.tables e below (s₁.setTop (mkF m 198 #[.val (.ref a0), .val (.int p1), .val (.int ((bs.getD (p1).toNatClampNeg 0) &&& (255 : Int32))), .val (.int (4 : Int32)), .val (.int (128 : Int32)), .val (.int (191 : Int32)), .val (.int ((bs.getD ((p1 + (1 : Int32))).toNatClampNeg 0) &&& (255 : Int32))), .val (.int (p1 + (4 : Int32)))] [(.int (p1 + (4 : Int32)))])) _
                            refine XS.iloadN X0.here hx rfl (hb hby d5_198) rfl ?_
                            show Steps p.tables e below (s₁.setTop (mkF m 199 #[.val (.ref a0), .val (.int p1), .val (.int ((bs.getD (p1).toNatClampNeg 0) &&& (255 : Int32))), .val (.int (4 : Int32)), .val (.int (128 : Int32)), .val (.int (191 : Int32)), .val (.int ((bs.getD ((p1 + (1 : Int32))).toNatClampNeg 0) &&& (255 : Int32))), .val (.int (p1 + (4 : Int32)))] [(.int p1), (.int (p1 + (4 : Int32)))])) _
                            refine XS.iloadN X0.here hx rfl (hb hby d5_199) rfl ?_
                            show Steps p.tables e below (s₁.setTop (mkF m 200 #[.val (.ref a0), .val (.int p1), .val (.int ((bs.getD (p1).toNatClampNeg 0) &&& (255 : Int32))), .val (.int (4 : Int32)), .val (.int (128 : Int32)), .val (.int (191 : Int32)), .val (.int ((bs.getD ((p1 + (1 : Int32))).toNatClampNeg 0) &&& (255 : Int32))), .val (.int (p1 + (4 : Int32)))] [(.int (4 : Int32)), (.int p1), (.int (p1 + (4 : Int32)))])) _
                            refine XS.iadd X0.here hx rfl (hb hby d5_200) rfl ?_
                            exact k
                          refine own_go (B := s₁.setTop (mkF m 226 #[.val (.ref a0), .val (.int p1), .val (.int ((bs.getD (p1).toNatClampNeg 0) &&& (255 : Int32))), .val (.int (4 : Int32)), .val (.int (128 : Int32)), .val (.int (191 : Int32)), .val (.int ((bs.getD ((p1 + (1 : Int32))).toNatClampNeg 0) &&& (255 : Int32))), .val (.int (p1 + (4 : Int32)))] [])) (fun t k => ?_) ?_
                          · show Steps p.tables e below (s₁.setTop (mkF m 201 #[.val (.ref a0), .val (.int p1), .val (.int ((bs.getD (p1).toNatClampNeg 0) &&& (255 : Int32))), .val (.int (4 : Int32)), .val (.int (128 : Int32)), .val (.int (191 : Int32)), .val (.int ((bs.getD ((p1 + (1 : Int32))).toNatClampNeg 0) &&& (255 : Int32))), .val (.int (p1 + (4 : Int32)))] [(.int (p1 + (4 : Int32))), (.int (p1 + (4 : Int32)))])) _
                            refine XS.icmpYes X0.here hx rfl (pc0 := 201) (pc' := 226) rfl (hb hby d5_201) rfl (flt Int32.lt_irrefl).2.1 (by decide) (by decide) ?_
                            exact k
                          refine own_go (B := s₁.setTop (mkF m 227 #[.val (.ref a0), .val (.int p1), .val (.int ((bs.getD (p1).toNatClampNeg 0) &&& (255 : Int32))), .val (.int (4 : Int32)), .val (.int (128 : Int32)), .val (.int (191 : Int32)), .val (.int ((bs.getD ((p1 + (1 : Int32))).toNatClampNeg 0) &&& (255 : Int32))), .val (.int (p1 + (4 : Int32)))] [(.int (4 : Int32))])) (fun t k => ?_) ?_
                          · show Steps p.tables e below (s₁.setTop (mkF m 226 #[.val (.ref a0), .val (.int p1), .val (.int ((bs.getD (p1).toNatClampNeg 0) &&& (255 : Int32))), .val (.int (4 : Int32)), .val (.int (128 : Int32)), .val (.int (191 : Int32)), .val (.int ((bs.getD ((p1 + (1 : Int32))).toNatClampNeg 0) &&& (255 : Int32))), .val (.int (p1 + (4 : Int32)))] [])) _
                            refine XS.iloadN X0.here hx rfl (hb hby d5_226) rfl ?_
                            exact k
                          obtain ⟨fs, hr, hrun, hended, hW, hsame⟩ := X0.leave (v := some (.int (4 : Int32))) (fun h => by rw [Bd.returns] at h; cases h)
                          refine ⟨_, _, ?_, hrun, hended, _, _, rfl, ?_, ⟨_, rfl⟩, hW, hsame.mono (by decide) (by decide)⟩
                          · show Steps p.tables e below (s₁.setTop (mkF m 227 #[.val (.ref a0), .val (.int p1), .val (.int ((bs.getD (p1).toNatClampNeg 0) &&& (255 : Int32))), .val (.int (4 : Int32)), .val (.int (128 : Int32)), .val (.int (191 : Int32)), .val (.int ((bs.getD ((p1 + (1 : Int32))).toNatClampNeg 0) &&& (255 : Int32))), .val (.int (p1 + (4 : Int32)))] [(.int (4 : Int32))])) _
                            exact retI X0 hx Bd.returns (hb hby d5_227) hr
                          · show Q5 Z a0 p1 kk z bs h0 n0 _ s₁.heap _
                            rw [e0]
                            exact ⟨by simp only [own_seq, if_pos hpz, if_pos hz, if_neg hc12, if_neg hc31, if_pos hc38, if_pos hc57, if_neg hc110, if_neg hc119, if_neg hc136, if_neg hc159, if_neg hc179, if_neg hc186, if_pos hc215, if_pos hc215_1], N0, rfl⟩
                        · refine own_go (B := s₁.setTop (mkF m 218 #[.val (.ref a0), .val (.int p1), .val (.int ((bs.getD (p1).toNatClampNeg 0) &&& (255 : Int32))), .val (.int (4 : Int32)), .val (.int (128 : Int32)), .val (.int (191 : Int32)), .val (.int ((bs.getD ((p1 + (1 : Int32))).toNatClampNeg 0) &&& (255 : Int32))), .val (.int (p1 + (3 : Int32)))] [])) (fun t k => ?_) ?_
                          · show Steps p.tables e below (s₁.setTop (mkF m 215 #[.val (.ref a0), .val (.int p1), .val (.int ((bs.getD (p1).toNatClampNeg 0) &&& (255 : Int32))), .val (.int (4 : Int32)), .val (.int (128 : Int32)), .val (.int (191 : Int32)), .val (.int ((bs.getD ((p1 + (1 : Int32))).toNatClampNeg 0) &&& (255 : Int32))), .val (.int (p1 + (3 : Int32)))] [(.int (128 : Int32)), (.int ((bs.getD ((p1 + (3 : Int32))).toNatClampNeg 0) &&& (192 : Int32)))])) _
                            refine XS.icmpNo X0.here hx rfl (hb hby d5_215) rfl (feq hc215_1).1 ?_
                            exact k
                          refine own_go (B := s₁.setTop (mkF m 219 #[.val (.ref a0), .val (.int p1), .val (.int ((bs.getD (p1).toNatClampNeg 0) &&& (255 : Int32))), .val (.int (4 : Int32)), .val (.int (128 : Int32)), .val (.int (191 : Int32)), .val (.int ((bs.getD ((p1 + (1 : Int32))).toNatClampNeg 0) &&& (255 : Int32))), .val (.int (p1 + (3 : Int32)))] [(.int (0 : Int32))])) (fun t k => ?_) ?_
                          · show Steps p.tables e below (s₁.setTop (mkF m 218 #[.val (.ref a0), .val (.int p1), .val (.int ((bs.getD (p1).toNatClampNeg 0) &&& (255 : Int32))), .val (.int (4 : Int32)), .val (.int (128 : Int32)), .val (.int (191 : Int32)), .val (.int ((bs.getD ((p1 + (1 : Int32))).toNatClampNeg 0) &&& (255 : Int32))), .val (.int (p1 + (3 : Int32)))] [])) _
                            refine XS.iconst X0.here hx rfl (hb hby d5_218) ?_
                            exact k
                          obtain ⟨fs, hr, hrun, hended, hW, hsame⟩ := X0.leave (v := some (.int (0 : Int32))) (fun h => by rw [Bd.returns] at h; cases h)
                          refine ⟨_, _, ?_, hrun, hended, _, _, rfl, ?_, ⟨_, rfl⟩, hW, hsame.mono (by decide) (by decide)⟩
                          · show Steps p.tables e below (s₁.setTop (mkF m 219 #[.val (.ref a0), .val (.int p1), .val (.int ((bs.getD (p1).toNatClampNeg 0) &&& (255 : Int32))), .val (.int (4 : Int32)), .val (.int (128 : Int32)), .val (.int (191 : Int32)), .val (.int ((bs.getD ((p1 + (1 : Int32))).toNatClampNeg 0) &&& (255 : Int32))), .val (.int (p1 + (3 : Int32)))] [(.int (0 : Int32))])) _
                            exact retI X0 hx Bd.returns (hb hby d5_219) hr
                          · show Q5 Z a0 p1 kk z bs h0 n0 _ s₁.heap _
                            rw [e0]
                            exact ⟨by simp only [own_seq, if_pos hpz, if_pos hz, if_neg hc12, if_neg hc31, if_pos hc38, if_pos hc57, if_neg hc110, if_neg hc119, if_neg hc136, if_neg hc159, if_neg hc179, if_neg hc186, if_pos hc215, if_neg hc215_1], N0, rfl⟩
                      · refine own_go (B := s₁.setTop (mkF m 218 #[.val (.ref a0), .val (.int p1), .val (.int ((bs.getD (p1).toNatClampNeg 0) &&& (255 : Int32))), .val (.int (4 : Int32)), .val (.int (128 : Int32)), .val (.int (191 : Int32)), .val (.int ((bs.getD ((p1 + (1 : Int32))).toNatClampNeg 0) &&& (255 : Int32))), .val (.int (p1 + (2 : Int32)))] [])) (fun t k => ?_) ?_
                        · show Steps p.tables e below (s₁.setTop (mkF m 215 #[.val (.ref a0), .val (.int p1), .val (.int ((bs.getD (p1).toNatClampNeg 0) &&& (255 : Int32))), .val (.int (4 : Int32)), .val (.int (128 : Int32)), .val (.int (191 : Int32)), .val (.int ((bs.getD ((p1 + (1 : Int32))).toNatClampNeg 0) &&& (255 : Int32))), .val (.int (p1 + (2 : Int32)))] [(.int (128 : Int32)), (.int ((bs.getD ((p1 + (2 : Int32))).toNatClampNeg 0) &&& (192 : Int32)))])) _
                          refine XS.icmpNo X0.here hx rfl (hb hby d5_215) rfl (feq hc215).1 ?_
                          exact k
                        refine own_go (B := s₁.setTop (mkF m 219 #[.val (.ref a0), .val (.int p1), .val (.int ((bs.getD (p1).toNatClampNeg 0) &&& (255 : Int32))), .val (.int (4 : Int32)), .val (.int (128 : Int32)), .val (.int (191 : Int32)), .val (.int ((bs.getD ((p1 + (1 : Int32))).toNatClampNeg 0) &&& (255 : Int32))), .val (.int (p1 + (2 : Int32)))] [(.int (0 : Int32))])) (fun t k => ?_) ?_
                        · show Steps p.tables e below (s₁.setTop (mkF m 218 #[.val (.ref a0), .val (.int p1), .val (.int ((bs.getD (p1).toNatClampNeg 0) &&& (255 : Int32))), .val (.int (4 : Int32)), .val (.int (128 : Int32)), .val (.int (191 : Int32)), .val (.int ((bs.getD ((p1 + (1 : Int32))).toNatClampNeg 0) &&& (255 : Int32))), .val (.int (p1 + (2 : Int32)))] [])) _
                          refine XS.iconst X0.here hx rfl (hb hby d5_218) ?_
                          exact k
                        obtain ⟨fs, hr, hrun, hended, hW, hsame⟩ := X0.leave (v := some (.int (0 : Int32))) (fun h => by rw [Bd.returns] at h; cases h)
                        refine ⟨_, _, ?_, hrun, hended, _, _, rfl, ?_, ⟨_, rfl⟩, hW, hsame.mono (by decide) (by decide)⟩
                        · show Steps p.tables e below (s₁.setTop (mkF m 219 #[.val (.ref a0), .val (.int p1), .val (.int ((bs.getD (p1).toNatClampNeg 0) &&& (255 : Int32))), .val (.int (4 : Int32)), .val (.int (128 : Int32)), .val (.int (191 : Int32)), .val (.int ((bs.getD ((p1 + (1 : Int32))).toNatClampNeg 0) &&& (255 : Int32))), .val (.int (p1 + (2 : Int32)))] [(.int (0 : Int32))])) _
                          exact retI X0 hx Bd.returns (hb hby d5_219) hr
                        · show Q5 Z a0 p1 kk z bs h0 n0 _ s₁.heap _
                          rw [e0]
                          exact ⟨by simp only [own_seq, if_pos hpz, if_pos hz, if_neg hc12, if_neg hc31, if_pos hc38, if_pos hc57, if_neg hc110, if_neg hc119, if_neg hc136, if_neg hc159, if_neg hc179, if_neg hc186, if_neg hc215], N0, rfl⟩
        · refine own_go (B := s₁.setTop (mkF m 60 #[.val (.ref a0), .val (.int p1), .val (.int ((bs.getD (p1).toNatClampNeg 0) &&& (255 : Int32))), .unset, .val (.int (128 : Int32)), .val (.int (191 : Int32)), .unset, .unset] [])) (fun t k => ?_) ?_
          · show Steps p.tables e below (s₁.setTop (mkF m 57 #[.val (.ref a0), .val (.int p1), .val (.int ((bs.getD (p1).toNatClampNeg 0) &&& (255 : Int32))), .unset, .val (.int (128 : Int32)), .val (.int (191 : Int32)), .unset, .unset] [(.int (239 : Int32)), (.int ((bs.getD (p1).toNatClampNeg 0) &&& (255 : Int32)))])) _
            refine XS.icmpNo X0.here hx rfl (hb hby d5_57) rfl (flt hc57).2.2.1 ?_
            exact k
          refine own_go (B := s₁.setTop (mkF m 66 #[.val (.ref a0), .val (.int p1), .val (.int ((bs.getD (p1).toNatClampNeg 0) &&& (255 : Int32))), .val (.int (3 : Int32)), .val (.int (128 : Int32)), .val (.int (191 : Int32)), .unset, .unset] [(.int (224 : Int32)), (.int ((bs.getD (p1).toNatClampNeg 0) &&& (255 : Int32)))])) (fun t k => ?_) ?_
          · show Steps p.tables e below (s₁.setTop (mkF m 60 #[.val (.ref a0), .val (.int p1), .val (.int ((bs.getD (p1).toNatClampNeg 0) &&& (255 : Int32))), .unset, .val (.int (128 : Int32)), .val (.int (191 : Int32)), .unset, .unset] [])) _
            refine XS.iconst X0.here hx rfl (hb hby d5_60) ?_
            show Steps p.tables e below (s₁.setTop (mkF m 61 #[.val (.ref a0), .val (.int p1), .val (.int ((bs.getD (p1).toNatClampNeg 0) &&& (255 : Int32))), .unset, .val (.int (128 : Int32)), .val (.int (191 : Int32)), .unset, .unset] [(.int (3 : Int32))])) _
            refine XS.istoreN X0.here hx rfl (hb hby d5_61) rfl (l' := #[.val (.ref a0), .val (.int p1), .val (.int ((bs.getD (p1).toNatClampNeg 0) &&& (255 : Int32))), .val (.int (3 : Int32)), .val (.int (128 : Int32)), .val (.int (191 : Int32)), .unset, .unset]) rfl ?_
            show Steps p.tables e below (s₁.setTop (mkF m 62 #[.val (.ref a0), .val (.int p1), .val (.int ((bs.getD (p1).toNatClampNeg 0) &&& (255 : Int32))), .val (.int (3 : Int32)), .val (.int (128 : Int32)), .val (.int (191 : Int32)), .unset, .unset] [])) _
            refine XS.iloadN X0.here hx rfl (hb hby d5_62) rfl ?_
            show Steps p.tables e below (s₁.setTop (mkF m 63 #[.val (.ref a0), .val (.int p1), .val (.int ((bs.getD (p1).toNatClampNeg 0) &&& (255 : Int32))), .val (.int (3 : Int32)), .val (.int (128 : Int32)), .val (.int (191 : Int32)), .unset, .unset] [(.int ((bs.getD (p1).toNatClampNeg 0) &&& (255 : Int32)))])) _
            refine XS.sipush X0.here hx rfl (hb hby d5_63) ?_
            exact k
          by_cases hc66 : ((bs.getD (p1).toNatClampNeg 0) &&& (255 : Int32)) = (224 : Int32)
          · refine own_go (B := s₁.setTop (mkF m 69 #[.val (.ref a0), .val (.int p1), .val (.int ((bs.getD (p1).toNatClampNeg 0) &&& (255 : Int32))), .val (.int (3 : Int32)), .val (.int (128 : Int32)), .val (.int (191 : Int32)), .unset, .unset] [])) (fun t k => ?_) ?_
            · show Steps p.tables e below (s₁.setTop (mkF m 66 #[.val (.ref a0), .val (.int p1), .val (.int ((bs.getD (p1).toNatClampNeg 0) &&& (255 : Int32))), .val (.int (3 : Int32)), .val (.int (128 : Int32)), .val (.int (191 : Int32)), .unset, .unset] [(.int (224 : Int32)), (.int ((bs.getD (p1).toNatClampNeg 0) &&& (255 : Int32)))])) _
              refine XS.icmpNo X0.here hx rfl (hb hby d5_66) rfl (teq hc66).2 ?_
              exact k
            refine own_go (B := s₁.setTop (mkF m 83 #[.val (.ref a0), .val (.int p1), .val (.int ((bs.getD (p1).toNatClampNeg 0) &&& (255 : Int32))), .val (.int (3 : Int32)), .val (.int (160 : Int32)), .val (.int (191 : Int32)), .unset, .unset] [(.int (237 : Int32)), (.int ((bs.getD (p1).toNatClampNeg 0) &&& (255 : Int32)))])) (fun t k => ?_) ?_
            · show Steps p.tables e below (s₁.setTop (mkF m 69 #[.val (.ref a0), .val (.int p1), .val (.int ((bs.getD (p1).toNatClampNeg 0) &&& (255 : Int32))), .val (.int (3 : Int32)), .val (.int (128 : Int32)), .val (.int (191 : Int32)), .unset, .unset] [])) _
              refine XS.sipush X0.here hx rfl (hb hby d5_69) ?_
              show Steps p.tables e below (s₁.setTop (mkF m 72 #[.val (.ref a0), .val (.int p1), .val (.int ((bs.getD (p1).toNatClampNeg 0) &&& (255 : Int32))), .val (.int (3 : Int32)), .val (.int (128 : Int32)), .val (.int (191 : Int32)), .unset, .unset] [(.int (160 : Int32))])) _
              refine XS.goto X0.here hx rfl (pc0 := 72) (pc' := 77) rfl (hb hby d5_72) (by decide) (by decide) ?_
              show Steps p.tables e below (s₁.setTop (mkF m 77 #[.val (.ref a0), .val (.int p1), .val (.int ((bs.getD (p1).toNatClampNeg 0) &&& (255 : Int32))), .val (.int (3 : Int32)), .val (.int (128 : Int32)), .val (.int (191 : Int32)), .unset, .unset] [(.int (160 : Int32))])) _
              refine XS.istore X0.here hx rfl (hb hby d5_77) rfl (l' := #[.val (.ref a0), .val (.int p1), .val (.int ((bs.getD (p1).toNatClampNeg 0) &&& (255 : Int32))), .val (.int (3 : Int32)), .val (.int (160 : Int32)), .val (.int (191 : Int32)), .unset, .unset]) rfl ?_
              show Steps p.tables e below (s₁.setTop (mkF m 79 #[.val (.ref a0), .val (.int p1), .val (.int ((bs.getD (p1).toNatClampNeg 0) &&& (255 : Int32))), .val (.int (3 : Int32)), .val (.int (160 : Int32)), .val (.int (191 : Int32)), .unset, .unset] [])) _
              refine XS.iloadN X0.here hx rfl (hb hby d5_79) rfl ?_
              show Steps p.tables e below (s₁.setTop (mkF m 80 #[.val (.ref a0), .val (.int p1), .val (.int ((bs.getD (p1).toNatClampNeg 0) &&& (255 : Int32))), .val (.int (3 : Int32)), .val (.int (160 : Int32)), .val (.int (191 : Int32)), .unset, .unset] [(.int ((bs.getD (p1).toNatClampNeg 0) &&& (255 : Int32)))])) _
              refine XS.sipush X0.here hx rfl (hb hby d5_80) ?_
              exact k
            refine own_go (B := s₁.setTop (mkF m 92 #[.val (.ref a0), .val (.int p1), .val (.int ((bs.getD (p1).toNatClampNeg 0) &&& (255 : Int32))), .val (.int (3 : Int32)), .val (.int (160 : Int32)), .val (.int (191 : Int32)), .unset, .unset] [])) (fun t k => ?_) ?_
            · show Steps p.tables e below (s₁.setTop (mkF m 83 #[.val (.ref a0), .val (.int p1), .val (.int ((bs.getD (p1).toNatClampNeg 0) &&& (255 : Int32))), .val (.int (3 : Int32)), .val (.int (160 : Int32)), .val (.int (191 : Int32)), .unset, .unset] [(.int (237 : Int32)), (.int ((bs.getD (p1).toNatClampNeg 0) &&& (255 : Int32)))])) _
              refine XS.icmpYes X0.here hx rfl (pc0 := 83) (pc' := 92) rfl (hb hby d5_83) rfl (feq (by have q0 := hc12; have q1 := hc31; have q2 := hc38; have q3 := hc57; have q4 := hc66; simp only [own_i, own_eqi] at q0 q1 q2 q3 q4 ⊢; have c0 : (128 : Int32).toInt = 128 := rfl; have c1 : (194 : Int32).toInt = 194 := rfl; have c2 : (223 : Int32).toInt = 223 := rfl; have c3 : (224 : Int32).toInt = 224 := rfl; have c4 : (237 : Int32).toInt = 237 := rfl; have c5 : (239 : Int32).toInt = 239 := rfl; omega : ¬ (((bs.getD (p1).toNatClampNeg 0) &&& (255 : Int32)) = (237 : Int32)))).2 (by decide) (by decide) ?_
              exact k
            refine own_go (B := s₁.setTop (mkF m 158 #[.val (.ref a0), .val (.int p1), .val (.int ((bs.getD (p1).toNatClampNeg 0) &&& (255 : Int32))), .val (.int (3 : Int32)), .val (.int (160 : Int32)), .val (.int (191 : Int32)), .unset, .unset] [(.ref a0), (.int (p1 + (3 : Int32)))])) (fun t k => ?_) ?_
            · show Steps p.tables e below (s₁.setTop (mkF m 92 #[.val (.ref a0), .val (.int p1), .val (.int ((bs.getD (p1).toNatClampNeg 0) &&& (255 : Int32))), .val (.int (3 : Int32)), .val (.int (160 : Int32)), .val (.int (191 : Int32)), .unset, .unset] [])) _
              refine XS.iload X0.here hx rfl (hb hby d5_92) rfl ?_
              show Steps p.tables e below (s₁.setTop (mkF m 94 #[.val (.ref a0), .val (.int p1), .val (.int ((bs.getD (p1).toNatClampNeg 0) &&& (255 : Int32))), .val (.int (3 : Int32)), .val (.int (160 : Int32)), .val (.int (191 : Int32)), .unset, .unset] [(.int (191 : Int32))])) _
              refine XS.istore X0.here hx rfl (hb hby d5_94) rfl (l' := #[.val (.ref a0), .val (.int p1), .val (.int ((bs.getD (p1).toNatClampNeg 0) &&& (255 : Int32))), .val (.int (3 : Int32)), .val (.int (160 : Int32)), .val (.int (191 : Int32)), .unset, .unset]) rfl ?_
              show Steps p.tables e below (s₁.setTop (mkF m 96 #[.val (.ref a0), .val (.int p1), .val (.int ((bs.getD (p1).toNatClampNeg 0) &&& (255 : Int32))), .val (.int (3 : Int32)), .val (.int (160 : Int32)), .val (.int (191 : Int32)), .unset, .unset] [])) _
              refine XS.goto X0.here hx rfl (pc0 := 96) (pc' := 154) rfl (hb hby d5_96) (by decide) (by decide) ?_
              show Steps p.tables e below (s₁.setTop (mkF m 154 #[.val (.ref a0), .val (.int p1), .val (.int ((bs.getD (p1).toNatClampNeg 0) &&& (255 : Int32))), .val (.int (3 : Int32)), .val (.int (160 : Int32)), .val (.int (191 : Int32)), .unset, .unset] [])) _
              refine XS.iloadN X0.here hx rfl (hb hby d5_154) rfl ?_
              show Steps p.tables e below (s₁.setTop (mkF m 155 #[.val (.ref a0), .val (.int p1), .val (.int ((bs.getD (p1).toNatClampNeg 0) &&& (255 : Int32))), .val (.int (3 : Int32)), .val (.int (160 : Int32)), .val (.int (191 : Int32)), .unset, .unset] [(.int p1)])) _
              refine XS.iloadN X0.here hx rfl (hb hby d5_155) rfl ?_
              show Steps p.tables e below (s₁.setTop (mkF m 156 #[.val (.ref a0), .val (.int p1), .val (.int ((bs.getD (p1).toNatClampNeg 0) &&& (255 : Int32))), .val (.int (3 : Int32)), .val (.int (160 : Int32)), .val (.int (191 : Int32)), .unset, .unset] [(.int (3 : Int32)), (.int p1)])) _
              refine XS.iadd X0.here hx rfl (hb hby d5_156) rfl ?_
              show Steps p.tables e below (s₁.setTop (mkF m 157 #[.val (.ref a0), .val (.int p1), .val (.int ((bs.getD (p1).toNatClampNeg 0) &&& (255 : Int32))), .val (.int (3 : Int32)), .val (.int (160 : Int32)), .val (.int (191 : Int32)), .unset, .unset] [(.int (p1 + (3 : Int32)))])) _
              refine XS.aloadN X0.here hx rfl (hb hby d5_157) rfl rfl ?_
              exact k
            obtain ⟨cl_14, Ar_14, -, S_14, M_14, -, -⟩ := id V0
            refine own_go (B := s₁.setTop (mkF m 159 #[.val (.ref a0), .val (.int p1), .val (.int ((bs.getD (p1).toNatClampNeg 0) &&& (255 : Int32))), .val (.int (3 : Int32)), .val (.int (160 : Int32)), .val (.int (191 : Int32)), .unset, .unset] [(.int z), (.int (p1 + (3 : Int32)))])) (fun t k => X0.arraylength hx (by rw [(e0 : _ = _)]; exact Ar_14.1) (State.isArrayOf_alike hZ.alike Ar_14.2.1) (g := (mkF m 158 #[.val (.ref a0), .val (.int p1), .val (.int ((bs.getD (p1).toNatClampNeg 0) &&& (255 : Int32))), .val (.int (3 : Int32)), .val (.int (160 : Int32)), .val (.int (191 : Int32)), .unset, .unset] [(.ref a0), (.int (p1 + (3 : Int32)))])) rfl rfl (hb hby d5_158) t (by rw [len_of S_14 M_14]; exact k)) ?_
            by_cases hc159 : z < (p1 + (3 : Int32))
            · refine own_go (B := s₁.setTop (mkF m 162 #[.val (.ref a0), .val (.int p1), .val (.int ((bs.getD (p1).toNatClampNeg 0) &&& (255 : Int32))), .val (.int (3 : Int32)), .val (.int (160 : Int32)), .val (.int (191 : Int32)), .unset, .unset] [])) (fun t k => ?_) ?_
              · show Steps p.tables e below (s₁.setTop (mkF m 159 #[.val (.ref a0), .val (.int p1), .val (.int ((bs.getD (p1).toNatClampNeg 0) &&& (255 : Int32))), .val (.int (3 : Int32)), .val (.int (160 : Int32)), .val (.int (191 : Int32)), .unset, .unset] [(.int z), (.int (p1 + (3 : Int32)))])) _
                refine XS.icmpNo X0.here hx rfl (hb hby d5_159) rfl (tlt hc159).2.2.2 ?_
                exact k
              refine own_go (B := s₁.setTop (mkF m 163 #[.val (.ref a0), .val (.int p1), .val (.int ((bs.getD (p1).toNatClampNeg 0) &&& (255 : Int32))), .val (.int (3 : Int32)), .val (.int (160 : Int32)), .val (.int (191 : Int32)), .unset, .unset] [(.int (0 : Int32))])) (fun t k => ?_) ?_
              · show Steps p.tables e below (s₁.setTop (mkF m 162 #[.val (.ref a0), .val (.int p1), .val (.int ((bs.getD (p1).toNatClampNeg 0) &&& (255 : Int32))), .val (.int (3 : Int32)), .val (.int (160 : Int32)), .val (.int (191 : Int32)), .unset, .unset] [])) _
                refine XS.iconst X0.here hx rfl (hb hby d5_162) ?_
                exact k
              obtain ⟨fs, hr, hrun, hended, hW, hsame⟩ := X0.leave (v := some (.int (0 : Int32))) (fun h => by rw [Bd.returns] at h; cases h)
              refine ⟨_, _, ?_, hrun, hended, _, _, rfl, ?_, ⟨_, rfl⟩, hW, hsame.mono (by decide) (by decide)⟩
              · show Steps p.tables e below (s₁.setTop (mkF m 163 #[.val (.ref a0), .val (.int p1), .val (.int ((bs.getD (p1).toNatClampNeg 0) &&& (255 : Int32))), .val (.int (3 : Int32)), .val (.int (160 : Int32)), .val (.int (191 : Int32)), .unset, .unset] [(.int (0 : Int32))])) _
                exact retI X0 hx Bd.returns (hb hby d5_163) hr
              · show Q5 Z a0 p1 kk z bs h0 n0 _ s₁.heap _
                rw [e0]
                exact ⟨by simp only [own_seq, if_pos hpz, if_pos hz, if_neg hc12, if_neg hc31, if_pos hc38, if_neg hc57, if_pos hc66, if_pos hc159], N0, rfl⟩
            · refine own_go (B := s₁.setTop (mkF m 164 #[.val (.ref a0), .val (.int p1), .val (.int ((bs.getD (p1).toNatClampNeg 0) &&& (255 : Int32))), .val (.int (3 : Int32)), .val (.int (160 : Int32)), .val (.int (191 : Int32)), .unset, .unset] [])) (fun t k => ?_) ?_
              · show Steps p.tables e below (s₁.setTop (mkF m 159 #[.val (.ref a0), .val (.int p1), .val (.int ((bs.getD (p1).toNatClampNeg 0) &&& (255 : Int32))), .val (.int (3 : Int32)), .val (.int (160 : Int32)), .val (.int (191 : Int32)), .unset, .unset] [(.int z), (.int (p1 + (3 : Int32)))])) _
                refine XS.icmpYes X0.here hx rfl (pc0 := 159) (pc' := 164) rfl (hb hby d5_159) rfl (flt hc159).2.2.2 (by decide) (by decide) ?_
                exact k
              refine own_go (B := s₁.setTop (mkF m 168 #[.val (.ref a0), .val (.int p1), .val (.int ((bs.getD (p1).toNatClampNeg 0) &&& (255 : Int32))), .val (.int (3 : Int32)), .val (.int (160 : Int32)), .val (.int (191 : Int32)), .unset, .unset] [(.int (p1 + (1 : Int32))), (.ref a0)])) (fun t k => ?_) ?_
              · show Steps p.tables e below (s₁.setTop (mkF m 164 #[.val (.ref a0), .val (.int p1), .val (.int ((bs.getD (p1).toNatClampNeg 0) &&& (255 : Int32))), .val (.int (3 : Int32)), .val (.int (160 : Int32)), .val (.int (191 : Int32)), .unset, .unset] [])) _
                refine XS.aloadN X0.here hx rfl (hb hby d5_164) rfl rfl ?_
                show Steps p.tables e below (s₁.setTop (mkF m 165 #[.val (.ref a0), .val (.int p1), .val (.int ((bs.getD (p1).toNatClampNeg 0) &&& (255 : Int32))), .val (.int (3 : Int32)), .val (.int (160 : Int32)), .val (.int (191 : Int32)), .unset, .unset] [(.ref a0)])) _
                refine XS.iloadN X0.here hx rfl (hb hby d5_165) rfl ?_
                show Steps p.tables e below (s₁.setTop (mkF m 166 #[.val (.ref a0), .val (.int p1), .val (.int ((bs.getD (p1).toNatClampNeg 0) &&& (255 : Int32))), .val (.int (3 : Int32)), .val (.int (160 : Int32)), .val (.int (191 : Int32)), .unset, .unset] [(.int p1), (.ref a0)])) _
                refine XS.iconst X0.here hx rfl (hb hby d5_166) ?_
                show Steps p.tables e below (s₁.setTop (mkF m 167 #[.val (.ref a0), .val (.int p1), .val (.int ((bs.getD (p1).toNatClampNeg 0) &&& (255 : Int32))), .val (.int (3 : Int32)), .val (.int (160 : Int32)), .val (.int (191 : Int32)), .unset, .unset] [(.int (1 : Int32)), (.int p1), (.ref a0)])) _
                refine XS.iadd X0.here hx rfl (hb hby d5_167) rfl ?_
                exact k
              obtain ⟨cl_15, Ar_15, q_15, S_15, M_15, H_15, G_15⟩ := id V0
              have hin_15 : ¬ ((p1 + (1 : Int32)) < 0 ∨ cl_15.slots.size ≤ ((p1 + (1 : Int32))).toNatClampNeg) := inb_of S_15 (own_inb p1 z (1 : Int32) (3 : Int32) hp hpz hz hc159 (by decide))
              have hat_15 : cl_15.slots[((p1 + (1 : Int32))).toNatClampNeg]? = some (.int (bs.getD ((p1 + (1 : Int32))).toNatClampNeg 0)) := H_15.at hin_15 (own_map bs _)
              refine own_go (B := s₁.setTop (mkF m 169 #[.val (.ref a0), .val (.int p1), .val (.int ((bs.getD (p1).toNatClampNeg 0) &&& (255 : Int32))), .val (.int (3 : Int32)), .val (.int (160 : Int32)), .val (.int (191 : Int32)), .unset, .unset] [(.int (bs.getD ((p1 + (1 : Int32))).toNatClampNeg 0))])) (fun t k => X0.baloadBytes hx (j := (p1 + (1 : Int32))) (v := (.int (bs.getD ((p1 + (1 : Int32))).toNatClampNeg 0))) (by rw [(e0 : _ = _)]; exact Ar_15.1) (State.isArrayOf_alike hZ.alike Ar_15.2.1) Ar_15.2.2 hin_15 hat_15 (g := (mkF m 168 #[.val (.ref a0), .val (.int p1), .val (.int ((bs.getD (p1).toNatClampNeg 0) &&& (255 : Int32))), .val (.int (3 : Int32)), .val (.int (160 : Int32)), .val (.int (191 : Int32)), .unset, .unset] [(.int (p1 + (1 : Int32))), (.ref a0)])) rfl rfl (hb hby d5_168) t k) ?_
              refine own_go (B := s₁.setTop (mkF m 179 #[.val (.ref a0), .val (.int p1), .val (.int ((bs.getD (p1).toNatClampNeg 0) &&& (255 : Int32))), .val (.int (3 : Int32)), .val (.int (160 : Int32)), .val (.int (191 : Int32)), .val (.int ((bs.getD ((p1 + (1 : Int32))).toNatClampNeg 0) &&& (255 : Int32))), .unset] [(.int (160 : Int32)), (.int ((bs.getD ((p1 + (1 : Int32))).toNatClampNeg 0) &&& (255 : Int32)))])) (fun t k => ?_) ?_
              · show Steps p.tables e below (s₁.setTop (mkF m 169 #[.val (.ref a0), .val (.int p1), .val (.int ((bs.getD (p1).toNatClampNeg 0) &&& (255 : Int32))), .val (.int (3 : Int32)), .val (.int (160 : Int32)), .val (.int (191 : Int32)), .unset, .unset] [(.int (bs.getD ((p1 + (1 : Int32))).toNatClampNeg 0))])) _
                refine XS.sipush X0.here hx rfl (hb hby d5_169) ?_
                show Steps p.tables e below (s₁.setTop (mkF m 172 #[.val (.ref a0), .val (.int p1), .val (.int ((bs.getD (p1).toNatClampNeg 0) &&& (255 : Int32))), .val (.int (3 : Int32)), .val (.int (160 : Int32)), .val (.int (191 : Int32)), .unset, .unset] [(.int (255 : Int32)), (.int (bs.getD ((p1 + (1 : Int32))).toNatClampNeg 0))])) _
                refine XS.iand X0.here hx rfl (hb hby d5_172) rfl ?_
                show Steps p.tables e below (s₁.setTop (mkF m 173 #[.val (.ref a0), .val (.int p1), .val (.int ((bs.getD (p1).toNatClampNeg 0) &&& (255 : Int32))), .val (.int (3 : Int32)), .val (.int (160 : Int32)), .val (.int (191 : Int32)), .unset, .unset] [(.int ((bs.getD ((p1 + (1 : Int32))).toNatClampNeg 0) &&& (255 : Int32)))])) _
                refine XS.istore X0.here hx rfl (hb hby d5_173) rfl (l' := #[.val (.ref a0), .val (.int p1), .val (.int ((bs.getD (p1).toNatClampNeg 0) &&& (255 : Int32))), .val (.int (3 : Int32)), .val (.int (160 : Int32)), .val (.int (191 : Int32)), .val (.int ((bs.getD ((p1 + (1 : Int32))).toNatClampNeg 0) &&& (255 : Int32))), .unset]) rfl ?_
                show Steps p.tables e below (s₁.setTop (mkF m 175 #[.val (.ref a0), .val (.int p1), .val (.int ((bs.getD (p1).toNatClampNeg 0) &&& (255 : Int32))), .val (.int (3 : Int32)), .val (.int (160 : Int32)), .val (.int (191 : Int32)), .val (.int ((bs.getD ((p1 + (1 : Int32))).toNatClampNeg 0) &&& (255 : Int32))), .unset] [])) _
                refine XS.iload X0.here hx rfl (hb hby d5_175) rfl ?_
                show Steps p.tables e below (s₁.setTop (mkF m 177 #[.val (.ref a0), .val (.int p1), .val (.int ((bs.getD (p1).toNatClampNeg 0) &&& (255 : Int32))), .val (.int (3 : Int32)), .val (.int (160 : Int32)), .val (.int (191 : Int32)), .val (.int ((bs.getD ((p1 + (1 : Int32))).toNatClampNeg 0) &&& (255 : Int32))), .unset] [(.int ((bs.getD ((p1 + (1 : Int32))).toNatClampNeg 0) &&& (255 : Int32)))])) _
                refine XS.iload X0.here hx rfl (hb hby d5_177) rfl ?_
                exact k
              by_cases hc179 : ((bs.getD ((p1 + (1 : Int32))).toNatClampNeg 0) &&& (255 : Int32)) < (160 : Int32)
              · refine own_go (B := s₁.setTop (mkF m 189 #[.val (.ref a0), .val (.int p1), .val (.int ((bs.getD (p1).toNatClampNeg 0) &&& (255 : Int32))), .val (.int (3 : Int32)), .val (.int (160 : Int32)), .val (.int (191 : Int32)), .val (.int ((bs.getD ((p1 + (1 : Int32))).toNatClampNeg 0) &&& (255 : Int32))), .unset] [])) (fun t k => ?_) ?_
                · show Steps p.tables e below (s₁.setTop (mkF m 179 #[.val (.ref a0), .val (.int p1), .val (.int ((bs.getD (p1).toNatClampNeg 0) &&& (255 : Int32))), .val (.int (3 : Int32)), .val (.int (160 : Int32)), .val (.int (191 : Int32)), .val (.int ((bs.getD ((p1 + (1 : Int32))).toNatClampNeg 0) &&& (255 : Int32))), .unset] [(.int (160 : Int32)), (.int ((bs.getD ((p1 + (1 : Int32))).toNatClampNeg 0) &&& (255 : Int32)))])) _
                  refine XS.icmpYes X0.here hx rfl (pc0 := 179) (pc' := 189) rfl (hb hby d5_179) rfl (tlt hc179).1 (by decide) (by decide) ?_
                  exact k
                refine own_go (B := s₁.setTop (mkF m 190 #[.val (.ref a0), .val (.int p1), .val (.int ((bs.getD (p1).toNatClampNeg 0) &&& (255 : Int32))), .val (.int (3 : Int32)), .val (.int (160 : Int32)), .val (.int (191 : Int32)), .val (.int ((bs.getD ((p1 + (1 : Int32))).toNatClampNeg 0) &&& (255 : Int32))), .unset] [(.int (0 : Int32))])) (fun t k => ?_) ?_
                · show Steps p.tables e below (s₁.setTop (mkF m 189 #[.val (.ref a0), .val (.int p1), .val (.int ((bs.getD (p1).toNatClampNeg 0) &&& (255 : Int32))), .val (.int (3 : Int32)), .val (.int (160 : Int32)), .val (.int (191 : Int32)), .val (.int ((bs.getD ((p1 + (1 : Int32))).toNatClampNeg 0) &&& (255 : Int32))), .unset] [])) _
                  refine XS.iconst X0.here hx rfl (hb hby d5_189) ?_
                  exact k
                obtain ⟨fs, hr, hrun, hended, hW, hsame⟩ := X0.leave (v := some (.int (0 : Int32))) (fun h => by rw [Bd.returns] at h; cases h)
                refine ⟨_, _, ?_, hrun, hended, _, _, rfl, ?_, ⟨_, rfl⟩, hW, hsame.mono (by decide) (by decide)⟩
                · show Steps p.tables e below (s₁.setTop (mkF m 190 #[.val (.ref a0), .val (.int p1), .val (.int ((bs.getD (p1).toNatClampNeg 0) &&& (255 : Int32))), .val (.int (3 : Int32)), .val (.int (160 : Int32)), .val (.int (191 : Int32)), .val (.int ((bs.getD ((p1 + (1 : Int32))).toNatClampNeg 0) &&& (255 : Int32))), .unset] [(.int (0 : Int32))])) _
                  exact retI X0 hx Bd.returns (hb hby d5_190) hr
                · show Q5 Z a0 p1 kk z bs h0 n0 _ s₁.heap _
                  rw [e0]
                  exact ⟨by simp only [own_seq, if_pos hpz, if_pos hz, if_neg hc12, if_neg hc31, if_pos hc38, if_neg hc57, if_pos hc66, if_neg hc159, if_pos hc179], N0, rfl⟩
              · refine own_go (B := s₁.setTop (mkF m 182 #[.val (.ref a0), .val (.int p1), .val (.int ((bs.getD (p1).toNatClampNeg 0) &&& (255 : Int32))), .val (.int (3 : Int32)), .val (.int (160 : Int32)), .val (.int (191 : Int32)), .val (.int ((bs.getD ((p1 + (1 : Int32))).toNatClampNeg 0) &&& (255 : Int32))), .unset] [])) (fun t k => ?_) ?_
                · show Steps p.tables e below (s₁.setTop (mkF m 179 #[.val (.ref a0), .val (.int p1), .val (.int ((bs.getD (p1).toNatClampNeg 0) &&& (255 : Int32))), .val (.int (3 : Int32)), .val (.int (160 : Int32)), .val (.int (191 : Int32)), .val (.int ((bs.getD ((p1 + (1 : Int32))).toNatClampNeg 0) &&& (255 : Int32))), .unset] [(.int (160 : Int32)), (.int ((bs.getD ((p1 + (1 : Int32))).toNatClampNeg 0) &&& (255 : Int32)))])) _
                  refine XS.icmpNo X0.here hx rfl (hb hby d5_179) rfl (flt hc179).1 ?_
                  exact k
                refine own_go (B := s₁.setTop (mkF m 186 #[.val (.ref a0), .val (.int p1), .val (.int ((bs.getD (p1).toNatClampNeg 0) &&& (255 : Int32))), .val (.int (3 : Int32)), .val (.int (160 : Int32)), .val (.int (191 : Int32)), .val (.int ((bs.getD ((p1 + (1 : Int32))).toNatClampNeg 0) &&& (255 : Int32))), .unset] [(.int (191 : Int32)), (.int ((bs.getD ((p1 + (1 : Int32))).toNatClampNeg 0) &&& (255 : Int32)))])) (fun t k => ?_) ?_
                · show Steps p.tables e below (s₁.setTop (mkF m 182 #[.val (.ref a0), .val (.int p1), .val (.int ((bs.getD (p1).toNatClampNeg 0) &&& (255 : Int32))), .val (.int (3 : Int32)), .val (.int (160 : Int32)), .val (.int (191 : Int32)), .val (.int ((bs.getD ((p1 + (1 : Int32))).toNatClampNeg 0) &&& (255 : Int32))), .unset] [])) _
                  refine XS.iload X0.here hx rfl (hb hby d5_182) rfl ?_
                  show Steps p.tables e below (s₁.setTop (mkF m 184 #[.val (.ref a0), .val (.int p1), .val (.int ((bs.getD (p1).toNatClampNeg 0) &&& (255 : Int32))), .val (.int (3 : Int32)), .val (.int (160 : Int32)), .val (.int (191 : Int32)), .val (.int ((bs.getD ((p1 + (1 : Int32))).toNatClampNeg 0) &&& (255 : Int32))), .unset] [(.int ((bs.getD ((p1 + (1 : Int32))).toNatClampNeg 0) &&& (255 : Int32)))])) _
                  refine XS.iload X0.here hx rfl (hb hby d5_184) rfl ?_
                  exact k
                by_cases hc186 : (191 : Int32) < ((bs.getD ((p1 + (1 : Int32))).toNatClampNeg 0) &&& (255 : Int32))
                · refine own_go (B := s₁.setTop (mkF m 189 #[.val (.ref a0), .val (.int p1), .val (.int ((bs.getD (p1).toNatClampNeg 0) &&& (255 : Int32))), .val (.int (3 : Int32)), .val (.int (160 : Int32)), .val (.int (191 : Int32)), .val (.int ((bs.getD ((p1 + (1 : Int32))).toNatClampNeg 0) &&& (255 : Int32))), .unset] [])) (fun t k => ?_) ?_
                  · show Steps p.tables e below (s₁.setTop (mkF m 186 #[.val (.ref a0), .val (.int p1), .val (.int ((bs.getD (p1).toNatClampNeg 0) &&& (255 : Int32))), .val (.int (3 : Int32)), .val (.int (160 : Int32)), .val (.int (191 : Int32)), .val (.int ((bs.getD ((p1 + (1 : Int32))).toNatClampNeg 0) &&& (255 : Int32))), .unset] [(.int (191 : Int32)), (.int ((bs.getD ((p1 + (1 : Int32))).toNatClampNeg 0) &&& (255 : Int32)))])) _
                    refine XS.icmpNo X0.here hx rfl (hb hby d5_186) rfl (tlt hc186).2.2.2 ?_
                    exact k
                  refine own_go (B := s₁.setTop (mkF m 190 #[.val (.ref a0), .val (.int p1), .val (.int ((bs.getD (p1).toNatClampNeg 0) &&& (255 : Int32))), .val (.int (3 : Int32)), .val (.int (160 : Int32)), .val (.int (191 : Int32)), .val (.int ((bs.getD ((p1 + (1 : Int32))).toNatClampNeg 0) &&& (255 : Int32))), .unset] [(.int (0 : Int32))])) (fun t k => ?_) ?_
                  · show Steps p.tables e below (s₁.setTop (mkF m 189 #[.val (.ref a0), .val (.int p1), .val (.int ((bs.getD (p1).toNatClampNeg 0) &&& (255 : Int32))), .val (.int (3 : Int32)), .val (.int (160 : Int32)), .val (.int (191 : Int32)), .val (.int ((bs.getD ((p1 + (1 : Int32))).toNatClampNeg 0) &&& (255 : Int32))), .unset] [])) _
                    refine XS.iconst X0.here hx rfl (hb hby d5_189) ?_
                    exact k
                  obtain ⟨fs, hr, hrun, hended, hW, hsame⟩ := X0.leave (v := some (.int (0 : Int32))) (fun h => by rw [Bd.returns] at h; cases h)
                  refine ⟨_, _, ?_, hrun, hended, _, _, rfl, ?_, ⟨_, rfl⟩, hW, hsame.mono (by decide) (by decide)⟩
                  · show Steps p.tables e below (s₁.setTop (mkF m 190 #[.val (.ref a0), .val (.int p1), .val (.int ((bs.getD (p1).toNatClampNeg 0) &&& (255 : Int32))), .val (.int (3 : Int32)), .val (.int (160 : Int32)), .val (.int (191 : Int32)), .val (.int ((bs.getD ((p1 + (1 : Int32))).toNatClampNeg 0) &&& (255 : Int32))), .unset] [(.int (0 : Int32))])) _
                    exact retI X0 hx Bd.returns (hb hby d5_190) hr
                  · show Q5 Z a0 p1 kk z bs h0 n0 _ s₁.heap _
                    rw [e0]
                    exact ⟨by simp only [own_seq, if_pos hpz, if_pos hz, if_neg hc12, if_neg hc31, if_pos hc38, if_neg hc57, if_pos hc66, if_neg hc159, if_neg hc179, if_pos hc186], N0, rfl⟩
                · refine own_go (B := s₁.setTop (mkF m 191 #[.val (.ref a0), .val (.int p1), .val (.int ((bs.getD (p1).toNatClampNeg 0) &&& (255 : Int32))), .val (.int (3 : Int32)), .val (.int (160 : Int32)), .val (.int (191 : Int32)), .val (.int ((bs.getD ((p1 + (1 : Int32))).toNatClampNeg 0) &&& (255 : Int32))), .unset] [])) (fun t k => ?_) ?_
                  · show Steps p.tables e below (s₁.setTop (mkF m 186 #[.val (.ref a0), .val (.int p1), .val (.int ((bs.getD (p1).toNatClampNeg 0) &&& (255 : Int32))), .val (.int (3 : Int32)), .val (.int (160 : Int32)), .val (.int (191 : Int32)), .val (.int ((bs.getD ((p1 + (1 : Int32))).toNatClampNeg 0) &&& (255 : Int32))), .unset] [(.int (191 : Int32)), (.int ((bs.getD ((p1 + (1 : Int32))).toNatClampNeg 0) &&& (255 : Int32)))])) _
                    refine XS.icmpYes X0.here hx rfl (pc0 := 186) (pc' := 191) rfl (hb hby d5_186) rfl (flt hc186).2.2.2 (by decide) (by decide) ?_
                    exact k
                  refine own_go (B := s₁.setTop (mkF m 201 #[.val (.ref a0), .val (.int p1), .val (.int ((bs.getD (p1).toNatClampNeg 0) &&& (255 : Int32))), .val (.int (3 : Int32)), .val (.int (160 : Int32)), .val (.int (191 : Int32)), .val (.int ((bs.getD ((p1 + (1 : Int32))).toNatClampNeg 0) &&& (255 : Int32))), .val (.int (p1 + (2 : Int32)))] [(.int (p1 + (3 : Int32))), (.int (p1 + (2 : Int32)))])) (fun t k => ?_) ?_
                  · show Steps p.tables e below (s₁.setTop (mkF m 191 #[.val (.ref a0), .val (.int p1), .val (.int ((bs.getD (p1).toNatClampNeg 0) &&& (255 : Int32))), .val (.int (3 : Int32)), .val (.int (160 : Int32)), .val (.int (191 : Int32)), .val (.int ((bs.getD ((p1 + (1 : Int32))).toNatClampNeg 0) &&& (255 : Int32))), .unset] [])) _
                    refine XS.iloadN X0.here hx rfl (hb hby d5_191) rfl ?_
                    show Steps p.tables e below (s₁.setTop (mkF m 192 #[.val (.ref a0), .val (.int p1), .val (.int ((bs.getD (p1).toNatClampNeg 0) &&& (255 : Int32))), .val (.int (3 : Int32)), .val (.int (160 : Int32)), .val (.int (191 : Int32)), .val (.int ((bs.getD ((p1 + (1 : Int32))).toNatClampNeg 0) &&& (255 : Int32))), .unset] [(.int p1)])) _
                    refine XS.iconst X0.here hx rfl (hb hby d5_192) ?_
                    show Steps p.tables e below (s₁.setTop (mkF m 193 #[.val (.ref a0), .val (.int p1), .val (.int ((bs.getD (p1).toNatClampNeg 0) &&& (255 : Int32))), .val (.int (3 : Int32)), .val (.int (160 : Int32)), .val (.int (191 : Int32)), .val (.int ((bs.getD ((p1 + (1 : Int32))).toNatClampNeg 0) &&& (255 : Int32))), .unset] [(.int (2 : Int32)), (.int p1)])) _
                    refine XS.iadd X0.here hx rfl (hb hby d5_193) rfl ?_
                    show Steps p.tables e below (s₁.setTop (mkF m 194 #[.val (.ref a0), .val (.int p1), .val (.int ((bs.getD (p1).toNatClampNeg 0) &&& (255 : Int32))), .val (.int (3 : Int32)), .val (.int (160 : Int32)), .val (.int (191 : Int32)), .val (.int ((bs.getD ((p1 + (1 : Int32))).toNatClampNeg 0) &&& (255 : Int32))), .unset] [(.int (p1 + (2 : Int32)))])) _
                    refine XS.istore X0.here hx rfl (hb hby d5_194) rfl (l' := #[.val (.ref a0), .val (.int p1), .val (.int ((bs.getD (p1).toNatClampNeg 0) &&& (255 : Int32))), .val (.int (3 : Int32)), .val (.int (160 : Int32)), .val (.int (191 : Int32)), .val (.int ((bs.getD ((p1 + (1 : Int32))).toNatClampNeg 0) &&& (255 : Int32))), .val (.int (p1 + (2 : Int32)))]) rfl ?_
                    show Steps p.tables e below (s₁.setTop (mkF m 196 #[.val (.ref a0), .val (.int p1), .val (.int ((bs.getD (p1).toNatClampNeg 0) &&& (255 : Int32))), .val (.int (3 : Int32)), .val (.int (160 : Int32)), .val (.int (191 : Int32)), .val (.int ((bs.getD ((p1 + (1 : Int32))).toNatClampNeg 0) &&& (255 : Int32))), .val (.int (p1 + (2 : Int32)))] [])) _
                    refine XS.iload X0.here hx rfl (hb hby d5_196) rfl ?_
                    show Steps p.tables e below (s₁.setTop (mkF m 198 #[.val (.ref a0), .val (.int p1), .val (.int ((bs.getD (p1).toNatClampNeg 0) &&& (255 : Int32))), .val (.int (3 : Int32)), .val (.int (160 : Int32)), .val (.int (191 : Int32)), .val (.int ((bs.getD ((p1 + (1 : Int32))).toNatClampNeg 0) &&& (255 : Int32))), .val (.int (p1 + (2 : Int32)))] [(.int (p1 + (2 : Int32)))])) _
                    refine XS.iloadN X0.here hx rfl (hb hby d5_198) rfl ?_
                    show Steps p.tables e below (s₁.setTop (mkF m 199 #[.val (.ref a0), .val (.int p1), .val (.int ((bs.getD (p1).toNatClampNeg 0) &&& (255 : Int32))), .val (.int (3 : Int32)), .val (.int (160 : Int32)), .val (.int (191 : Int32)), .val (.int ((bs.getD ((p1 + (1 : Int32))).toNatClampNeg 0) &&& (255 : Int32))), .val (.int (p1 + (2 : Int32)))] [(.int p1), (.int (p1 + (2 : Int32)))])) _
                    refine XS.iloadN X0.here hx rfl (hb hby d5_199) rfl ?_
                    show Steps p.tables e below (s₁.setTop (mkF m 200 #[.val (.ref a0), .val (.int p1), .val (.int ((bs.getD (p1).toNatClampNeg 0) &&& (255 : Int32))), .val (.int (3 : Int32)), .val (.int (160 : Int32)), .val (.int (191 : Int32)), .val (.int ((bs.getD ((p1 + (1 : Int32))).toNatClampNeg 0) &&& (255 : Int32))), .val (.int (p1 + (2 : Int32)))] [(.int (3 : Int32)), (.int p1), (.int (p1 + (2 : Int32)))])) _
                    refine XS.iadd X0.here hx rfl (hb hby d5_200) rfl ?_
                    exact k
                  refine own_go (B := s₁.setTop (mkF m 204 #[.val (.ref a0), .val (.int p1), .val (.int ((bs.getD (p1).toNatClampNeg 0) &&& (255 : Int32))), .val (.int (3 : Int32)), .val (.int (160 : Int32)), .val (.int (191 : Int32)), .val (.int ((bs.getD ((p1 + (1 : Int32))).toNatClampNeg 0) &&& (255 : Int32))), .val (.int (p1 + (2 : Int32)))] [])) (fun t k => ?_) ?_
                  · show Steps p.tables e below (s₁.setTop (mkF m 201 #[.val (.ref a0), .val (.int p1), .val (.int ((bs.getD (p1).toNatClampNeg 0) &&& (255 : Int32))), .val (.int (3 : Int32)), .val (.int (160 : Int32)), .val (.int (191 : Int32)), .val (.int ((bs.getD ((p1 + (1 : Int32))).toNatClampNeg 0) &&& (255 : Int32))), .val (.int (p1 + (2 : Int32)))] [(.int (p1 + (3 : Int32))), (.int (p1 + (2 : Int32)))])) _
                    refine XS.icmpNo X0.here hx rfl (hb hby d5_201) rfl (tlt (own_ltp p1 z 2 3 hp hpz hz (by decide))).2.1 ?_
                    exact k
                  refine own_go (B := s₁.setTop (mkF m 207 #[.val (.ref a0), .val (.int p1), .val (.int ((bs.getD (p1).toNatClampNeg 0) &&& (255 : Int32))), .val (.int (3 : Int32)), .val (.int (160 : Int32)), .val (.int (191 : Int32)), .val (.int ((bs.getD ((p1 + (1 : Int32))).toNatClampNeg 0) &&& (255 : Int32))), .val (.int (p1 + (2 : Int32)))] [(.int (p1 + (2 : Int32))), (.ref a0)])) (fun t k => ?_) ?_
                  · show Steps p.tables e below (s₁.setTop (mkF m 204 #[.val (.ref a0), .val (.int p1), .val (.int ((bs.getD (p1).toNatClampNeg 0) &&& (255 : Int32))), .val (.int (3 : Int32)), .val (.int (160 : Int32)), .val (.int (191 : Int32)), .val (.int ((bs.getD ((p1 + (1 : Int32))).toNatClampNeg 0) &&& (255 : Int32))), .val (.int (p1 + (2 : Int32)))] [])) _
                    refine XS.aloadN X0.here hx rfl (hb hby d5_204) rfl rfl ?_
                    show Steps p.tables e below (s₁.setTop (mkF m 205 #[.val (.ref a0), .val (.int p1), .val (.int ((bs.getD (p1).toNatClampNeg 0) &&& (255 : Int32))), .val (.int (3 : Int32)), .val (.int (160 : Int32)), .val (.int (191 : Int32)), .val (.int ((bs.getD ((p1 + (1 : Int32))).toNatClampNeg 0) &&& (255 : Int32))), .val (.int (p1 + (2 : Int32)))] [(.ref a0)])) _
                    refine XS.iload X0.here hx rfl (hb hby d5_205) rfl ?_
                    exact k
                  obtain ⟨cl_16, Ar_16, q_16, S_16, M_16, H_16, G_16⟩ := id V0
                  have hin_16 : ¬ ((p1 + (2 : Int32)) < 0 ∨ cl_16.slots.size ≤ ((p1 + (2 : Int32))).toNatClampNeg) := inb_of S_16 (own_inb p1 z (2 : Int32) (3 : Int32) hp hpz hz hc159 (by decide))
                  have hat_16 : cl_16.slots[((p1 + (2 : Int32))).toNatClampNeg]? = some (.int (bs.getD ((p1 + (2 : Int32))).toNatClampNeg 0)) := H_16.at hin_16 (own_map bs _)
                  refine own_go (B := s₁.setTop (mkF m 208 #[.val (.ref a0), .val (.int p1), .val (.int ((bs.getD (p1).toNatClampNeg 0) &&& (255 : Int32))), .val (.int (3 : Int32)), .val (.int (160 : Int32)), .val (.int (191 : Int32)), .val (.int ((bs.getD ((p1 + (1 : Int32))).toNatClampNeg 0) &&& (255 : Int32))), .val (.int (p1 + (2 : Int32)))] [(.int (bs.getD ((p1 + (2 : Int32))).toNatClampNeg 0))])) (fun t k => X0.baloadBytes hx (j := (p1 + (2 : Int32))) (v := (.int (bs.getD ((p1 + (2 : Int32))).toNatClampNeg 0))) (by rw [(e0 : _ = _)]; exact Ar_16.1) (State.isArrayOf_alike hZ.alike Ar_16.2.1) Ar_16.2.2 hin_16 hat_16 (g := (mkF m 207 #[.val (.ref a0), .val (.int p1), .val (.int ((bs.getD (p1).toNatClampNeg 0) &&& (255 : Int32))), .val (.int (3 : Int32)), .val (.int (160 : Int32)), .val (.int (191 : Int32)), .val (.int ((bs.getD ((p1 + (1 : Int32))).toNatClampNeg 0) &&& (255 : Int32))), .val (.int (p1 + (2 : Int32)))] [(.int (p1 + (2 : Int32))), (.ref a0)])) rfl rfl (hb hby d5_207) t k) ?_
                  refine own_go (B := s₁.setTop (mkF m 215 #[.val (.ref a0), .val (.int p1), .val (.int ((bs.getD (p1).toNatClampNeg 0) &&& (255 : Int32))), .val (.int (3 : Int32)), .val (.int (160 : Int32)), .val (.int (191 : Int32)), .val (.int ((bs.getD ((p1 + (1 : Int32))).toNatClampNeg 0) &&& (255 : Int32))), .val (.int (p1 + (2 : Int32)))] [(.int (128 : Int32)), (.int ((bs.getD ((p1 + (2 : Int32))).toNatClampNeg 0) &&& (192 : Int32)))])) (fun t k => ?_) ?_
                  · show Steps p.tables e below (s₁.setTop (mkF m 208 #[.val (.ref a0), .val (.int p1), .val (.int ((bs.getD (p1).toNatClampNeg 0) &&& (255 : Int32))), .val (.int (3 : Int32)), .val (.int (160 : Int32)), .val (.int (191 : Int32)), .val (.int ((bs.getD ((p1 + (1 : Int32))).toNatClampNeg 0) &&& (255 : Int32))), .val (.int (p1 + (2 : Int32)))] [(.int (bs.getD ((p1 + (2 : Int32))).toNatClampNeg 0))])) _
                    refine XS.sipush X0.here hx rfl (hb hby d5_208) ?_
                    show Steps p.tables e below (s₁.setTop (mkF m 211 #[.val (.ref a0), .val (.int p1), .val (.int ((bs.getD (p1).toNatClampNeg 0) &&& (255 : Int32))), .val (.int (3 : Int32)), .val (.int (160 : Int32)), .val (.int (191 : Int32)), .val (.int ((bs.getD ((p1 + (1 : Int32))).toNatClampNeg 0) &&& (255 : Int32))), .val (.int (p1 + (2 : Int32)))] [(.int (192 : Int32)), (.int (bs.getD ((p1 + (2 : Int32))).toNatClampNeg 0))])) _
                    refine XS.iand X0.here hx rfl (hb hby d5_211) rfl ?_
                    show Steps p.tables e below (s₁.setTop (mkF m 212 #[.val (.ref a0), .val (.int p1), .val (.int ((bs.getD (p1).toNatClampNeg 0) &&& (255 : Int32))), .val (.int (3 : Int32)), .val (.int (160 : Int32)), .val (.int (191 : Int32)), .val (.int ((bs.getD ((p1 + (1 : Int32))).toNatClampNeg 0) &&& (255 : Int32))), .val (.int (p1 + (2 : Int32)))] [(.int ((bs.getD ((p1 + (2 : Int32))).toNatClampNeg 0) &&& (192 : Int32)))])) _
                    refine XS.sipush X0.here hx rfl (hb hby d5_212) ?_
                    exact k
                  by_cases hc215 : ((bs.getD ((p1 + (2 : Int32))).toNatClampNeg 0) &&& (192 : Int32)) = (128 : Int32)
                  · refine own_go (B := s₁.setTop (mkF m 220 #[.val (.ref a0), .val (.int p1), .val (.int ((bs.getD (p1).toNatClampNeg 0) &&& (255 : Int32))), .val (.int (3 : Int32)), .val (.int (160 : Int32)), .val (.int (191 : Int32)), .val (.int ((bs.getD ((p1 + (1 : Int32))).toNatClampNeg 0) &&& (255 : Int32))), .val (.int (p1 + (2 : Int32)))] [])) (fun t k => ?_) ?_
                    · show Steps p.tables e below (s₁.setTop (mkF m 215 #[.val (.ref a0), .val (.int p1), .val (.int ((bs.getD (p1).toNatClampNeg 0) &&& (255 : Int32))), .val (.int (3 : Int32)), .val (.int (160 : Int32)), .val (.int (191 : Int32)), .val (.int ((bs.getD ((p1 + (1 : Int32))).toNatClampNeg 0) &&& (255 : Int32))), .val (.int (p1 + (2 : Int32)))] [(.int (128 : Int32)), (.int ((bs.getD ((p1 + (2 : Int32))).toNatClampNeg 0) &&& (192 : Int32)))])) _
                      refine XS.icmpYes X0.here hx rfl (pc0 := 215) (pc' := 220) rfl (hb hby d5_215) rfl (teq hc215).1 (by decide) (by decide) ?_
                      exact k
                    refine own_go (B := s₁.setTop (mkF m 201 #[.val (.ref a0), .val (.int p1), .val (.int ((bs.getD (p1).toNatClampNeg 0) &&& (255 : Int32))), .val (.int (3 : Int32)), .val (.int (160 : Int32)), .val (.int (191 : Int32)), .val (.int ((bs.getD ((p1 + (1 : Int32))).toNatClampNeg 0) &&& (255 : Int32))), .val (.int (p1 + (3 : Int32)))] [(.int (p1 + (3 : Int32))), (.int (p1 + (3 : Int32)))])) (fun t k => ?_) ?_
                    · show Steps p.tables e below (s₁.setTop (mkF m 220 #[.val (.ref a0), .val (.int p1), .val (.int ((bs.getD (p1).toNatClampNeg 0) &&& (255 : Int32))), .val (.int (3 : Int32)), .val (.int (160 : Int32)), .val (.int (191 : Int32)), .val (.int ((bs.getD ((p1 + (1 : Int32))).toNatClampNeg 0) &&& (255 : Int32))), .val (.int (p1 + (2 : Int32)))] [])) _
                      refine XS.iinc X0.here hx rfl (hb hby d5_220) rfl (l' := #[.val (.ref a0), .val (.int p1), .val (.int ((bs.getD (p1).toNatClampNeg 0) &&& (255 : Int32))), .val (.int (3 : Int32)), .val (.int (160 : Int32)), .val (.int (191 : Int32)), .val (.int ((bs.getD ((p1 + (1 : Int32))).toNatClampNeg 0) &&& (255 : Int32))), .val (.int (p1 + (3 : Int32)))]) (by rw [show p1 + (3 : Int32) = (p1 + (2 : Int32)) + (1 : Int32) from by rw [Int32.add_assoc]; rfl]; rfl) ?_
                      show Steps p.tables e below (s₁.setTop (mkF m 223 #[.val (.ref a0), .val (.int p1), .val (.int ((bs.getD (p1).toNatClampNeg 0) &&& (255 : Int32))), .val (.int (3 : Int32)), .val (.int (160 : Int32)), .val (.int (191 : Int32)), .val (.int ((bs.getD ((p1 + (1 : Int32))).toNatClampNeg 0) &&& (255 : Int32))), .val (.int (p1 + (3 : Int32)))] [])) _
                      refine XS.goto X0.here hx rfl (pc0 := 223) (pc' := 196) rfl (hb hby d5_223) (by decide) (by decide) ?_
                      show Steps p.tables e below (s₁.setTop (mkF m 196 #[.val (.ref a0), .val (.int p1), .val (.int ((bs.getD (p1).toNatClampNeg 0) &&& (255 : Int32))), .val (.int (3 : Int32)), .val (.int (160 : Int32)), .val (.int (191 : Int32)), .val (.int ((bs.getD ((p1 + (1 : Int32))).toNatClampNeg 0) &&& (255 : Int32))), .val (.int (p1 + (3 : Int32)))] [])) _
                      refine XS.iload X0.here hx rfl (hb hby d5_196) rfl ?_
                      show Steps p.tables e below (s₁.setTop (mkF m 198 #[.val (.ref a0), .val (.int p1), .val (.int ((bs.getD (p1).toNatClampNeg 0) &&& (255 : Int32))), .val (.int (3 : Int32)), .val (.int (160 : Int32)), .val (.int (191 : Int32)), .val (.int ((bs.getD ((p1 + (1 : Int32))).toNatClampNeg 0) &&& (255 : Int32))), .val (.int (p1 + (3 : Int32)))] [(.int (p1 + (3 : Int32)))])) _
                      refine XS.iloadN X0.here hx rfl (hb hby d5_198) rfl ?_
                      show Steps p.tables e below (s₁.setTop (mkF m 199 #[.val (.ref a0), .val (.int p1), .val (.int ((bs.getD (p1).toNatClampNeg 0) &&& (255 : Int32))), .val (.int (3 : Int32)), .val (.int (160 : Int32)), .val (.int (191 : Int32)), .val (.int ((bs.getD ((p1 + (1 : Int32))).toNatClampNeg 0) &&& (255 : Int32))), .val (.int (p1 + (3 : Int32)))] [(.int p1), (.int (p1 + (3 : Int32)))])) _
                      refine XS.iloadN X0.here hx rfl (hb hby d5_199) rfl ?_
                      show Steps p.tables e below (s₁.setTop (mkF m 200 #[.val (.ref a0), .val (.int p1), .val (.int ((bs.getD (p1).toNatClampNeg 0) &&& (255 : Int32))), .val (.int (3 : Int32)), .val (.int (160 : Int32)), .val (.int (191 : Int32)), .val (.int ((bs.getD ((p1 + (1 : Int32))).toNatClampNeg 0) &&& (255 : Int32))), .val (.int (p1 + (3 : Int32)))] [(.int (3 : Int32)), (.int p1), (.int (p1 + (3 : Int32)))])) _
                      refine XS.iadd X0.here hx rfl (hb hby d5_200) rfl ?_
                      exact k
                    refine own_go (B := s₁.setTop (mkF m 226 #[.val (.ref a0), .val (.int p1), .val (.int ((bs.getD (p1).toNatClampNeg 0) &&& (255 : Int32))), .val (.int (3 : Int32)), .val (.int (160 : Int32)), .val (.int (191 : Int32)), .val (.int ((bs.getD ((p1 + (1 : Int32))).toNatClampNeg 0) &&& (255 : Int32))), .val (.int (p1 + (3 : Int32)))] [])) (fun t k => ?_) ?_
                    · show Steps p.tables e below (s₁.setTop (mkF m 201 #[.val (.ref a0), .val (.int p1), .val (.int ((bs.getD (p1).toNatClampNeg 0) &&& (255 : Int32))), .val (.int (3 : Int32)), .val (.int (160 : Int32)), .val (.int (191 : Int32)), .val (.int ((bs.getD ((p1 + (1 : Int32))).toNatClampNeg 0) &&& (255 : Int32))), .val (.int (p1 + (3 : Int32)))] [(.int (p1 + (3 : Int32))), (.int (p1 + (3 : Int32)))])) _
                      refine XS.icmpYes X0.here hx rfl (pc0 := 201) (pc' := 226) rfl (hb hby d5_201) rfl (flt Int32.lt_irrefl).2.1 (by decide) (by decide) ?_
                      exact k
                    refine own_go (B := s₁.setTop (mkF m 227 #[.val (.ref a0), .val (.int p1), .val (.int ((bs.getD (p1).toNatClampNeg 0) &&& (255 : Int32))), .val (.int (3 : Int32)), .val (.int (160 : Int32)), .val (.int (191 : Int32)), .val (.int ((bs.getD ((p1 + (1 : Int32))).toNatClampNeg 0) &&& (255 : Int32))), .val (.int (p1 + (3 : Int32)))] [(.int (3 : Int32))])) (fun t k => ?_) ?_
                    · show Steps p.tables e below (s₁.setTop (mkF m 226 #[.val (.ref a0), .val (.int p1), .val (.int ((bs.getD (p1).toNatClampNeg 0) &&& (255 : Int32))), .val (.int (3 : Int32)), .val (.int (160 : Int32)), .val (.int (191 : Int32)), .val (.int ((bs.getD ((p1 + (1 : Int32))).toNatClampNeg 0) &&& (255 : Int32))), .val (.int (p1 + (3 : Int32)))] [])) _
                      refine XS.iloadN X0.here hx rfl (hb hby d5_226) rfl ?_
                      exact k
                    obtain ⟨fs, hr, hrun, hended, hW, hsame⟩ := X0.leave (v := some (.int (3 : Int32))) (fun h => by rw [Bd.returns] at h; cases h)
                    refine ⟨_, _, ?_, hrun, hended, _, _, rfl, ?_, ⟨_, rfl⟩, hW, hsame.mono (by decide) (by decide)⟩
                    · show Steps p.tables e below (s₁.setTop (mkF m 227 #[.val (.ref a0), .val (.int p1), .val (.int ((bs.getD (p1).toNatClampNeg 0) &&& (255 : Int32))), .val (.int (3 : Int32)), .val (.int (160 : Int32)), .val (.int (191 : Int32)), .val (.int ((bs.getD ((p1 + (1 : Int32))).toNatClampNeg 0) &&& (255 : Int32))), .val (.int (p1 + (3 : Int32)))] [(.int (3 : Int32))])) _
                      exact retI X0 hx Bd.returns (hb hby d5_227) hr
                    · show Q5 Z a0 p1 kk z bs h0 n0 _ s₁.heap _
                      rw [e0]
                      exact ⟨by simp only [own_seq, if_pos hpz, if_pos hz, if_neg hc12, if_neg hc31, if_pos hc38, if_neg hc57, if_pos hc66, if_neg hc159, if_neg hc179, if_neg hc186, if_pos hc215], N0, rfl⟩
                  · refine own_go (B := s₁.setTop (mkF m 218 #[.val (.ref a0), .val (.int p1), .val (.int ((bs.getD (p1).toNatClampNeg 0) &&& (255 : Int32))), .val (.int (3 : Int32)), .val (.int (160 : Int32)), .val (.int (191 : Int32)), .val (.int ((bs.getD ((p1 + (1 : Int32))).toNatClampNeg 0) &&& (255 : Int32))), .val (.int (p1 + (2 : Int32)))] [])) (fun t k => ?_) ?_
                    · show Steps p.tables e below (s₁.setTop (mkF m 215 #[.val (.ref a0), .val (.int p1), .val (.int ((bs.getD (p1).toNatClampNeg 0) &&& (255 : Int32))), .val (.int (3 : Int32)), .val (.int (160 : Int32)), .val (.int (191 : Int32)), .val (.int ((bs.getD ((p1 + (1 : Int32))).toNatClampNeg 0) &&& (255 : Int32))), .val (.int (p1 + (2 : Int32)))] [(.int (128 : Int32)), (.int ((bs.getD ((p1 + (2 : Int32))).toNatClampNeg 0) &&& (192 : Int32)))])) _
                      refine XS.icmpNo X0.here hx rfl (hb hby d5_215) rfl (feq hc215).1 ?_
                      exact k
                    refine own_go (B := s₁.setTop (mkF m 219 #[.val (.ref a0), .val (.int p1), .val (.int ((bs.getD (p1).toNatClampNeg 0) &&& (255 : Int32))), .val (.int (3 : Int32)), .val (.int (160 : Int32)), .val (.int (191 : Int32)), .val (.int ((bs.getD ((p1 + (1 : Int32))).toNatClampNeg 0) &&& (255 : Int32))), .val (.int (p1 + (2 : Int32)))] [(.int (0 : Int32))])) (fun t k => ?_) ?_
                    · show Steps p.tables e below (s₁.setTop (mkF m 218 #[.val (.ref a0), .val (.int p1), .val (.int ((bs.getD (p1).toNatClampNeg 0) &&& (255 : Int32))), .val (.int (3 : Int32)), .val (.int (160 : Int32)), .val (.int (191 : Int32)), .val (.int ((bs.getD ((p1 + (1 : Int32))).toNatClampNeg 0) &&& (255 : Int32))), .val (.int (p1 + (2 : Int32)))] [])) _
                      refine XS.iconst X0.here hx rfl (hb hby d5_218) ?_
                      exact k
                    obtain ⟨fs, hr, hrun, hended, hW, hsame⟩ := X0.leave (v := some (.int (0 : Int32))) (fun h => by rw [Bd.returns] at h; cases h)
                    refine ⟨_, _, ?_, hrun, hended, _, _, rfl, ?_, ⟨_, rfl⟩, hW, hsame.mono (by decide) (by decide)⟩
                    · show Steps p.tables e below (s₁.setTop (mkF m 219 #[.val (.ref a0), .val (.int p1), .val (.int ((bs.getD (p1).toNatClampNeg 0) &&& (255 : Int32))), .val (.int (3 : Int32)), .val (.int (160 : Int32)), .val (.int (191 : Int32)), .val (.int ((bs.getD ((p1 + (1 : Int32))).toNatClampNeg 0) &&& (255 : Int32))), .val (.int (p1 + (2 : Int32)))] [(.int (0 : Int32))])) _
                      exact retI X0 hx Bd.returns (hb hby d5_219) hr
                    · show Q5 Z a0 p1 kk z bs h0 n0 _ s₁.heap _
                      rw [e0]
                      exact ⟨by simp only [own_seq, if_pos hpz, if_pos hz, if_neg hc12, if_neg hc31, if_pos hc38, if_neg hc57, if_pos hc66, if_neg hc159, if_neg hc179, if_neg hc186, if_neg hc215], N0, rfl⟩
          · refine own_go (B := s₁.setTop (mkF m 75 #[.val (.ref a0), .val (.int p1), .val (.int ((bs.getD (p1).toNatClampNeg 0) &&& (255 : Int32))), .val (.int (3 : Int32)), .val (.int (128 : Int32)), .val (.int (191 : Int32)), .unset, .unset] [])) (fun t k => ?_) ?_
            · show Steps p.tables e below (s₁.setTop (mkF m 66 #[.val (.ref a0), .val (.int p1), .val (.int ((bs.getD (p1).toNatClampNeg 0) &&& (255 : Int32))), .val (.int (3 : Int32)), .val (.int (128 : Int32)), .val (.int (191 : Int32)), .unset, .unset] [(.int (224 : Int32)), (.int ((bs.getD (p1).toNatClampNeg 0) &&& (255 : Int32)))])) _
              refine XS.icmpYes X0.here hx rfl (pc0 := 66) (pc' := 75) rfl (hb hby d5_66) rfl (feq hc66).2 (by decide) (by decide) ?_
              exact k
            refine own_go (B := s₁.setTop (mkF m 83 #[.val (.ref a0), .val (.int p1), .val (.int ((bs.getD (p1).toNatClampNeg 0) &&& (255 : Int32))), .val (.int (3 : Int32)), .val (.int (128 : Int32)), .val (.int (191 : Int32)), .unset, .unset] [(.int (237 : Int32)), (.int ((bs.getD (p1).toNatClampNeg 0) &&& (255 : Int32)))])) (fun t k => ?_) ?_
            · show Steps p.tables e below (s₁.setTop (mkF m 75 #[.val (.ref a0), .val (.int p1), .val (.int ((bs.getD (p1).toNatClampNeg 0) &&& (255 : Int32))), .val (.int (3 : Int32)), .val (.int (128 : Int32)), .val (.int (191 : Int32)), .unset, .unset] [])) _
              refine XS.iload X0.here hx rfl (hb hby d5_75) rfl ?_
              show Steps p.tables e below (s₁.setTop (mkF m 77 #[.val (.ref a0), .val (.int p1), .val (.int ((bs.getD (p1).toNatClampNeg 0) &&& (255 : Int32))), .val (.int (3 : Int32)), .val (.int (128 : Int32)), .val (.int (191 : Int32)), .unset, .unset] [(.int (128 : Int32))])) _
              refine XS.istore X0.here hx rfl (hb hby d5_77) rfl (l' := #[.val (.ref a0), .val (.int p1), .val (.int ((bs.getD (p1).toNatClampNeg 0) &&& (255 : Int32))), .val (.int (3 : Int32)), .val (.int (128 : Int32)), .val (.int (191 : Int32)), .unset, .unset]) rfl ?_
              show Steps p.tables e below (s₁.setTop (mkF m 79 #[.val (.ref a0), .val (.int p1), .val (.int ((bs.getD (p1).toNatClampNeg 0) &&& (255 : Int32))), .val (.int (3 : Int32)), .val (.int (128 : Int32)), .val (.int (191 : Int32)), .unset, .unset] [])) _
              refine XS.iloadN X0.here hx rfl (hb hby d5_79) rfl ?_
              show Steps p.tables e below (s₁.setTop (mkF m 80 #[.val (.ref a0), .val (.int p1), .val (.int ((bs.getD (p1).toNatClampNeg 0) &&& (255 : Int32))), .val (.int (3 : Int32)), .val (.int (128 : Int32)), .val (.int (191 : Int32)), .unset, .unset] [(.int ((bs.getD (p1).toNatClampNeg 0) &&& (255 : Int32)))])) _
              refine XS.sipush X0.here hx rfl (hb hby d5_80) ?_
              exact k
            by_cases hc83 : ((bs.getD (p1).toNatClampNeg 0) &&& (255 : Int32)) = (237 : Int32)
            · refine own_go (B := s₁.setTop (mkF m 86 #[.val (.ref a0), .val (.int p1), .val (.int ((bs.getD (p1).toNatClampNeg 0) &&& (255 : Int32))), .val (.int (3 : Int32)), .val (.int (128 : Int32)), .val (.int (191 : Int32)), .unset, .unset] [])) (fun t k => ?_) ?_
              · show Steps p.tables e below (s₁.setTop (mkF m 83 #[.val (.ref a0), .val (.int p1), .val (.int ((bs.getD (p1).toNatClampNeg 0) &&& (255 : Int32))), .val (.int (3 : Int32)), .val (.int (128 : Int32)), .val (.int (191 : Int32)), .unset, .unset] [(.int (237 : Int32)), (.int ((bs.getD (p1).toNatClampNeg 0) &&& (255 : Int32)))])) _
                refine XS.icmpNo X0.here hx rfl (hb hby d5_83) rfl (teq hc83).2 ?_
                exact k
              refine own_go (B := s₁.setTop (mkF m 158 #[.val (.ref a0), .val (.int p1), .val (.int ((bs.getD (p1).toNatClampNeg 0) &&& (255 : Int32))), .val (.int (3 : Int32)), .val (.int (128 : Int32)), .val (.int (159 : Int32)), .unset, .unset] [(.ref a0), (.int (p1 + (3 : Int32)))])) (fun t k => ?_) ?_
              · show Steps p.tables e below (s₁.setTop (mkF m 86 #[.val (.ref a0), .val (.int p1), .val (.int ((bs.getD (p1).toNatClampNeg 0) &&& (255 : Int32))), .val (.int (3 : Int32)), .val (.int (128 : Int32)), .val (.int (191 : Int32)), .unset, .unset] [])) _
                refine XS.sipush X0.here hx rfl (hb hby d5_86) ?_
                show Steps p.tables e below (s₁.setTop (mkF m 89 #[.val (.ref a0), .val (.int p1), .val (.int ((bs.getD (p1).toNatClampNeg 0) &&& (255 : Int32))), .val (.int (3 : Int32)), .val (.int (128 : Int32)), .val (.int (191 : Int32)), .unset, .unset] [(.int (159 : Int32))])) _
                refine XS.goto X0.here hx rfl (pc0 := 89) (pc' := 94) rfl (hb hby d5_89) (by decide) (by decide) ?_
                show Steps p.tables e below (s₁.setTop (mkF m 94 #[.val (.ref a0), .val (.int p1), .val (.int ((bs.getD (p1).toNatClampNeg 0) &&& (255 : Int32))), .val (.int (3 : Int32)), .val (.int (128 : Int32)), .val (.int (191 : Int32)), .unset, .unset] [(.int (159 : Int32))])) _
                refine XS.istore X0.here hx rfl (hb hby d5_94) rfl (l' := #[.val (.ref a0), .val (.int p1), .val (.int ((bs.getD (p1).toNatClampNeg 0) &&& (255 : Int32))), .val (.int (3 : Int32)), .val (.int (128 : Int32)), .val (.int (159 : Int32)), .unset, .unset]) rfl ?_
                show Steps p.tables e below (s₁.setTop (mkF m 96 #[.val (.ref a0), .val (.int p1), .val (.int ((bs.getD (p1).toNatClampNeg 0) &&& (255 : Int32))), .val (.int (3 : Int32)), .val (.int (128 : Int32)), .val (.int (159 : Int32)), .unset, .unset] [])) _
                refine XS.goto X0.here hx rfl (pc0 := 96) (pc' := 154) rfl (hb hby d5_96) (by decide) (by decide) ?_
                show Steps p.tables e below (s₁.setTop (mkF m 154 #[.val (.ref a0), .val (.int p1), .val (.int ((bs.getD (p1).toNatClampNeg 0) &&& (255 : Int32))), .val (.int (3 : Int32)), .val (.int (128 : Int32)), .val (.int (159 : Int32)), .unset, .unset] [])) _
                refine XS.iloadN X0.here hx rfl (hb hby d5_154) rfl ?_
                show Steps p.tables e below (s₁.setTop (mkF m 155 #[.val (.ref a0), .val (.int p1), .val (.int ((bs.getD (p1).toNatClampNeg 0) &&& (255 : Int32))), .val (.int (3 : Int32)), .val (.int (128 : Int32)), .val (.int (159 : Int32)), .unset, .unset] [(.int p1)])) _
                refine XS.iloadN X0.here hx rfl (hb hby d5_155) rfl ?_
                show Steps p.tables e below (s₁.setTop (mkF m 156 #[.val (.ref a0), .val (.int p1), .val (.int ((bs.getD (p1).toNatClampNeg 0) &&& (255 : Int32))), .val (.int (3 : Int32)), .val (.int (128 : Int32)), .val (.int (159 : Int32)), .unset, .unset] [(.int (3 : Int32)), (.int p1)])) _
                refine XS.iadd X0.here hx rfl (hb hby d5_156) rfl ?_
                show Steps p.tables e below (s₁.setTop (mkF m 157 #[.val (.ref a0), .val (.int p1), .val (.int ((bs.getD (p1).toNatClampNeg 0) &&& (255 : Int32))), .val (.int (3 : Int32)), .val (.int (128 : Int32)), .val (.int (159 : Int32)), .unset, .unset] [(.int (p1 + (3 : Int32)))])) _
                refine XS.aloadN X0.here hx rfl (hb hby d5_157) rfl rfl ?_
                exact k
              obtain ⟨cl_17, Ar_17, -, S_17, M_17, -, -⟩ := id V0
              refine own_go (B := s₁.setTop (mkF m 159 #[.val (.ref a0), .val (.int p1), .val (.int ((bs.getD (p1).toNatClampNeg 0) &&& (255 : Int32))), .val (.int (3 : Int32)), .val (.int (128 : Int32)), .val (.int (159 : Int32)), .unset, .unset] [(.int z), (.int (p1 + (3 : Int32)))])) (fun t k => X0.arraylength hx (by rw [(e0 : _ = _)]; exact Ar_17.1) (State.isArrayOf_alike hZ.alike Ar_17.2.1) (g := (mkF m 158 #[.val (.ref a0), .val (.int p1), .val (.int ((bs.getD (p1).toNatClampNeg 0) &&& (255 : Int32))), .val (.int (3 : Int32)), .val (.int (128 : Int32)), .val (.int (159 : Int32)), .unset, .unset] [(.ref a0), (.int (p1 + (3 : Int32)))])) rfl rfl (hb hby d5_158) t (by rw [len_of S_17 M_17]; exact k)) ?_
              by_cases hc159 : z < (p1 + (3 : Int32))
              · refine own_go (B := s₁.setTop (mkF m 162 #[.val (.ref a0), .val (.int p1), .val (.int ((bs.getD (p1).toNatClampNeg 0) &&& (255 : Int32))), .val (.int (3 : Int32)), .val (.int (128 : Int32)), .val (.int (159 : Int32)), .unset, .unset] [])) (fun t k => ?_) ?_
                · show Steps p.tables e below (s₁.setTop (mkF m 159 #[.val (.ref a0), .val (.int p1), .val (.int ((bs.getD (p1).toNatClampNeg 0) &&& (255 : Int32))), .val (.int (3 : Int32)), .val (.int (128 : Int32)), .val (.int (159 : Int32)), .unset, .unset] [(.int z), (.int (p1 + (3 : Int32)))])) _
                  refine XS.icmpNo X0.here hx rfl (hb hby d5_159) rfl (tlt hc159).2.2.2 ?_
                  exact k
                refine own_go (B := s₁.setTop (mkF m 163 #[.val (.ref a0), .val (.int p1), .val (.int ((bs.getD (p1).toNatClampNeg 0) &&& (255 : Int32))), .val (.int (3 : Int32)), .val (.int (128 : Int32)), .val (.int (159 : Int32)), .unset, .unset] [(.int (0 : Int32))])) (fun t k => ?_) ?_
                · show Steps p.tables e below (s₁.setTop (mkF m 162 #[.val (.ref a0), .val (.int p1), .val (.int ((bs.getD (p1).toNatClampNeg 0) &&& (255 : Int32))), .val (.int (3 : Int32)), .val (.int (128 : Int32)), .val (.int (159 : Int32)), .unset, .unset] [])) _
                  refine XS.iconst X0.here hx rfl (hb hby d5_162) ?_
                  exact k
                obtain ⟨fs, hr, hrun, hended, hW, hsame⟩ := X0.leave (v := some (.int (0 : Int32))) (fun h => by rw [Bd.returns] at h; cases h)
                refine ⟨_, _, ?_, hrun, hended, _, _, rfl, ?_, ⟨_, rfl⟩, hW, hsame.mono (by decide) (by decide)⟩
                · show Steps p.tables e below (s₁.setTop (mkF m 163 #[.val (.ref a0), .val (.int p1), .val (.int ((bs.getD (p1).toNatClampNeg 0) &&& (255 : Int32))), .val (.int (3 : Int32)), .val (.int (128 : Int32)), .val (.int (159 : Int32)), .unset, .unset] [(.int (0 : Int32))])) _
                  exact retI X0 hx Bd.returns (hb hby d5_163) hr
                · show Q5 Z a0 p1 kk z bs h0 n0 _ s₁.heap _
                  rw [e0]
                  exact ⟨by simp only [own_seq, if_pos hpz, if_pos hz, if_neg hc12, if_neg hc31, if_pos hc38, if_neg hc57, if_neg hc66, if_pos hc83, if_pos hc159], N0, rfl⟩
              · refine own_go (B := s₁.setTop (mkF m 164 #[.val (.ref a0), .val (.int p1), .val (.int ((bs.getD (p1).toNatClampNeg 0) &&& (255 : Int32))), .val (.int (3 : Int32)), .val (.int (128 : Int32)), .val (.int (159 : Int32)), .unset, .unset] [])) (fun t k => ?_) ?_
                · show Steps p.tables e below (s₁.setTop (mkF m 159 #[.val (.ref a0), .val (.int p1), .val (.int ((bs.getD (p1).toNatClampNeg 0) &&& (255 : Int32))), .val (.int (3 : Int32)), .val (.int (128 : Int32)), .val (.int (159 : Int32)), .unset, .unset] [(.int z), (.int (p1 + (3 : Int32)))])) _
                  refine XS.icmpYes X0.here hx rfl (pc0 := 159) (pc' := 164) rfl (hb hby d5_159) rfl (flt hc159).2.2.2 (by decide) (by decide) ?_
                  exact k
                refine own_go (B := s₁.setTop (mkF m 168 #[.val (.ref a0), .val (.int p1), .val (.int ((bs.getD (p1).toNatClampNeg 0) &&& (255 : Int32))), .val (.int (3 : Int32)), .val (.int (128 : Int32)), .val (.int (159 : Int32)), .unset, .unset] [(.int (p1 + (1 : Int32))), (.ref a0)])) (fun t k => ?_) ?_
                · show Steps p.tables e below (s₁.setTop (mkF m 164 #[.val (.ref a0), .val (.int p1), .val (.int ((bs.getD (p1).toNatClampNeg 0) &&& (255 : Int32))), .val (.int (3 : Int32)), .val (.int (128 : Int32)), .val (.int (159 : Int32)), .unset, .unset] [])) _
                  refine XS.aloadN X0.here hx rfl (hb hby d5_164) rfl rfl ?_
                  show Steps p.tables e below (s₁.setTop (mkF m 165 #[.val (.ref a0), .val (.int p1), .val (.int ((bs.getD (p1).toNatClampNeg 0) &&& (255 : Int32))), .val (.int (3 : Int32)), .val (.int (128 : Int32)), .val (.int (159 : Int32)), .unset, .unset] [(.ref a0)])) _
                  refine XS.iloadN X0.here hx rfl (hb hby d5_165) rfl ?_
                  show Steps p.tables e below (s₁.setTop (mkF m 166 #[.val (.ref a0), .val (.int p1), .val (.int ((bs.getD (p1).toNatClampNeg 0) &&& (255 : Int32))), .val (.int (3 : Int32)), .val (.int (128 : Int32)), .val (.int (159 : Int32)), .unset, .unset] [(.int p1), (.ref a0)])) _
                  refine XS.iconst X0.here hx rfl (hb hby d5_166) ?_
                  show Steps p.tables e below (s₁.setTop (mkF m 167 #[.val (.ref a0), .val (.int p1), .val (.int ((bs.getD (p1).toNatClampNeg 0) &&& (255 : Int32))), .val (.int (3 : Int32)), .val (.int (128 : Int32)), .val (.int (159 : Int32)), .unset, .unset] [(.int (1 : Int32)), (.int p1), (.ref a0)])) _
                  refine XS.iadd X0.here hx rfl (hb hby d5_167) rfl ?_
                  exact k
                obtain ⟨cl_18, Ar_18, q_18, S_18, M_18, H_18, G_18⟩ := id V0
                have hin_18 : ¬ ((p1 + (1 : Int32)) < 0 ∨ cl_18.slots.size ≤ ((p1 + (1 : Int32))).toNatClampNeg) := inb_of S_18 (own_inb p1 z (1 : Int32) (3 : Int32) hp hpz hz hc159 (by decide))
                have hat_18 : cl_18.slots[((p1 + (1 : Int32))).toNatClampNeg]? = some (.int (bs.getD ((p1 + (1 : Int32))).toNatClampNeg 0)) := H_18.at hin_18 (own_map bs _)
                refine own_go (B := s₁.setTop (mkF m 169 #[.val (.ref a0), .val (.int p1), .val (.int ((bs.getD (p1).toNatClampNeg 0) &&& (255 : Int32))), .val (.int (3 : Int32)), .val (.int (128 : Int32)), .val (.int (159 : Int32)), .unset, .unset] [(.int (bs.getD ((p1 + (1 : Int32))).toNatClampNeg 0))])) (fun t k => X0.baloadBytes hx (j := (p1 + (1 : Int32))) (v := (.int (bs.getD ((p1 + (1 : Int32))).toNatClampNeg 0))) (by rw [(e0 : _ = _)]; exact Ar_18.1) (State.isArrayOf_alike hZ.alike Ar_18.2.1) Ar_18.2.2 hin_18 hat_18 (g := (mkF m 168 #[.val (.ref a0), .val (.int p1), .val (.int ((bs.getD (p1).toNatClampNeg 0) &&& (255 : Int32))), .val (.int (3 : Int32)), .val (.int (128 : Int32)), .val (.int (159 : Int32)), .unset, .unset] [(.int (p1 + (1 : Int32))), (.ref a0)])) rfl rfl (hb hby d5_168) t k) ?_
                refine own_go (B := s₁.setTop (mkF m 179 #[.val (.ref a0), .val (.int p1), .val (.int ((bs.getD (p1).toNatClampNeg 0) &&& (255 : Int32))), .val (.int (3 : Int32)), .val (.int (128 : Int32)), .val (.int (159 : Int32)), .val (.int ((bs.getD ((p1 + (1 : Int32))).toNatClampNeg 0) &&& (255 : Int32))), .unset] [(.int (128 : Int32)), (.int ((bs.getD ((p1 + (1 : Int32))).toNatClampNeg 0) &&& (255 : Int32)))])) (fun t k => ?_) ?_
                · show Steps p.tables e below (s₁.setTop (mkF m 169 #[.val (.ref a0), .val (.int p1), .val (.int ((bs.getD (p1).toNatClampNeg 0) &&& (255 : Int32))), .val (.int (3 : Int32)), .val (.int (128 : Int32)), .val (.int (159 : Int32)), .unset, .unset] [(.int (bs.getD ((p1 + (1 : Int32))).toNatClampNeg 0))])) _
                  refine XS.sipush X0.here hx rfl (hb hby d5_169) ?_
                  show Steps p.tables e below (s₁.setTop (mkF m 172 #[.val (.ref a0), .val (.int p1), .val (.int ((bs.getD (p1).toNatClampNeg 0) &&& (255 : Int32))), .val (.int (3 : Int32)), .val (.int (128 : Int32)), .val (.int (159 : Int32)), .unset, .unset] [(.int (255 : Int32)), (.int (bs.getD ((p1 + (1 : Int32))).toNatClampNeg 0))])) _
                  refine XS.iand X0.here hx rfl (hb hby d5_172) rfl ?_
                  show Steps p.tables e below (s₁.setTop (mkF m 173 #[.val (.ref a0), .val (.int p1), .val (.int ((bs.getD (p1).toNatClampNeg 0) &&& (255 : Int32))), .val (.int (3 : Int32)), .val (.int (128 : Int32)), .val (.int (159 : Int32)), .unset, .unset] [(.int ((bs.getD ((p1 + (1 : Int32))).toNatClampNeg 0) &&& (255 : Int32)))])) _
                  refine XS.istore X0.here hx rfl (hb hby d5_173) rfl (l' := #[.val (.ref a0), .val (.int p1), .val (.int ((bs.getD (p1).toNatClampNeg 0) &&& (255 : Int32))), .val (.int (3 : Int32)), .val (.int (128 : Int32)), .val (.int (159 : Int32)), .val (.int ((bs.getD ((p1 + (1 : Int32))).toNatClampNeg 0) &&& (255 : Int32))), .unset]) rfl ?_
                  show Steps p.tables e below (s₁.setTop (mkF m 175 #[.val (.ref a0), .val (.int p1), .val (.int ((bs.getD (p1).toNatClampNeg 0) &&& (255 : Int32))), .val (.int (3 : Int32)), .val (.int (128 : Int32)), .val (.int (159 : Int32)), .val (.int ((bs.getD ((p1 + (1 : Int32))).toNatClampNeg 0) &&& (255 : Int32))), .unset] [])) _
                  refine XS.iload X0.here hx rfl (hb hby d5_175) rfl ?_
                  show Steps p.tables e below (s₁.setTop (mkF m 177 #[.val (.ref a0), .val (.int p1), .val (.int ((bs.getD (p1).toNatClampNeg 0) &&& (255 : Int32))), .val (.int (3 : Int32)), .val (.int (128 : Int32)), .val (.int (159 : Int32)), .val (.int ((bs.getD ((p1 + (1 : Int32))).toNatClampNeg 0) &&& (255 : Int32))), .unset] [(.int ((bs.getD ((p1 + (1 : Int32))).toNatClampNeg 0) &&& (255 : Int32)))])) _
                  refine XS.iload X0.here hx rfl (hb hby d5_177) rfl ?_
                  exact k
                by_cases hc179 : ((bs.getD ((p1 + (1 : Int32))).toNatClampNeg 0) &&& (255 : Int32)) < (128 : Int32)
                · refine own_go (B := s₁.setTop (mkF m 189 #[.val (.ref a0), .val (.int p1), .val (.int ((bs.getD (p1).toNatClampNeg 0) &&& (255 : Int32))), .val (.int (3 : Int32)), .val (.int (128 : Int32)), .val (.int (159 : Int32)), .val (.int ((bs.getD ((p1 + (1 : Int32))).toNatClampNeg 0) &&& (255 : Int32))), .unset] [])) (fun t k => ?_) ?_
                  · show Steps p.tables e below (s₁.setTop (mkF m 179 #[.val (.ref a0), .val (.int p1), .val (.int ((bs.getD (p1).toNatClampNeg 0) &&& (255 : Int32))), .val (.int (3 : Int32)), .val (.int (128 : Int32)), .val (.int (159 : Int32)), .val (.int ((bs.getD ((p1 + (1 : Int32))).toNatClampNeg 0) &&& (255 : Int32))), .unset] [(.int (128 : Int32)), (.int ((bs.getD ((p1 + (1 : Int32))).toNatClampNeg 0) &&& (255 : Int32)))])) _
                    refine XS.icmpYes X0.here hx rfl (pc0 := 179) (pc' := 189) rfl (hb hby d5_179) rfl (tlt hc179).1 (by decide) (by decide) ?_
                    exact k
                  refine own_go (B := s₁.setTop (mkF m 190 #[.val (.ref a0), .val (.int p1), .val (.int ((bs.getD (p1).toNatClampNeg 0) &&& (255 : Int32))), .val (.int (3 : Int32)), .val (.int (128 : Int32)), .val (.int (159 : Int32)), .val (.int ((bs.getD ((p1 + (1 : Int32))).toNatClampNeg 0) &&& (255 : Int32))), .unset] [(.int (0 : Int32))])) (fun t k => ?_) ?_
                  · show Steps p.tables e below (s₁.setTop (mkF m 189 #[.val (.ref a0), .val (.int p1), .val (.int ((bs.getD (p1).toNatClampNeg 0) &&& (255 : Int32))), .val (.int (3 : Int32)), .val (.int (128 : Int32)), .val (.int (159 : Int32)), .val (.int ((bs.getD ((p1 + (1 : Int32))).toNatClampNeg 0) &&& (255 : Int32))), .unset] [])) _
                    refine XS.iconst X0.here hx rfl (hb hby d5_189) ?_
                    exact k
                  obtain ⟨fs, hr, hrun, hended, hW, hsame⟩ := X0.leave (v := some (.int (0 : Int32))) (fun h => by rw [Bd.returns] at h; cases h)
                  refine ⟨_, _, ?_, hrun, hended, _, _, rfl, ?_, ⟨_, rfl⟩, hW, hsame.mono (by decide) (by decide)⟩
                  · show Steps p.tables e below (s₁.setTop (mkF m 190 #[.val (.ref a0), .val (.int p1), .val (.int ((bs.getD (p1).toNatClampNeg 0) &&& (255 : Int32))), .val (.int (3 : Int32)), .val (.int (128 : Int32)), .val (.int (159 : Int32)), .val (.int ((bs.getD ((p1 + (1 : Int32))).toNatClampNeg 0) &&& (255 : Int32))), .unset] [(.int (0 : Int32))])) _
                    exact retI X0 hx Bd.returns (hb hby d5_190) hr
                  · show Q5 Z a0 p1 kk z bs h0 n0 _ s₁.heap _
                    rw [e0]
                    exact ⟨by simp only [own_seq, if_pos hpz, if_pos hz, if_neg hc12, if_neg hc31, if_pos hc38, if_neg hc57, if_neg hc66, if_pos hc83, if_neg hc159, if_pos hc179], N0, rfl⟩
                · refine own_go (B := s₁.setTop (mkF m 182 #[.val (.ref a0), .val (.int p1), .val (.int ((bs.getD (p1).toNatClampNeg 0) &&& (255 : Int32))), .val (.int (3 : Int32)), .val (.int (128 : Int32)), .val (.int (159 : Int32)), .val (.int ((bs.getD ((p1 + (1 : Int32))).toNatClampNeg 0) &&& (255 : Int32))), .unset] [])) (fun t k => ?_) ?_
                  · show Steps p.tables e below (s₁.setTop (mkF m 179 #[.val (.ref a0), .val (.int p1), .val (.int ((bs.getD (p1).toNatClampNeg 0) &&& (255 : Int32))), .val (.int (3 : Int32)), .val (.int (128 : Int32)), .val (.int (159 : Int32)), .val (.int ((bs.getD ((p1 + (1 : Int32))).toNatClampNeg 0) &&& (255 : Int32))), .unset] [(.int (128 : Int32)), (.int ((bs.getD ((p1 + (1 : Int32))).toNatClampNeg 0) &&& (255 : Int32)))])) _
                    refine XS.icmpNo X0.here hx rfl (hb hby d5_179) rfl (flt hc179).1 ?_
                    exact k
                  refine own_go (B := s₁.setTop (mkF m 186 #[.val (.ref a0), .val (.int p1), .val (.int ((bs.getD (p1).toNatClampNeg 0) &&& (255 : Int32))), .val (.int (3 : Int32)), .val (.int (128 : Int32)), .val (.int (159 : Int32)), .val (.int ((bs.getD ((p1 + (1 : Int32))).toNatClampNeg 0) &&& (255 : Int32))), .unset] [(.int (159 : Int32)), (.int ((bs.getD ((p1 + (1 : Int32))).toNatClampNeg 0) &&& (255 : Int32)))])) (fun t k => ?_) ?_
                  · show Steps p.tables e below (s₁.setTop (mkF m 182 #[.val (.ref a0), .val (.int p1), .val (.int ((bs.getD (p1).toNatClampNeg 0) &&& (255 : Int32))), .val (.int (3 : Int32)), .val (.int (128 : Int32)), .val (.int (159 : Int32)), .val (.int ((bs.getD ((p1 + (1 : Int32))).toNatClampNeg 0) &&& (255 : Int32))), .unset] [])) _
                    refine XS.iload X0.here hx rfl (hb hby d5_182) rfl ?_
                    show Steps p.tables e below (s₁.setTop (mkF m 184 #[.val (.ref a0), .val (.int p1), .val (.int ((bs.getD (p1).toNatClampNeg 0) &&& (255 : Int32))), .val (.int (3 : Int32)), .val (.int (128 : Int32)), .val (.int (159 : Int32)), .val (.int ((bs.getD ((p1 + (1 : Int32))).toNatClampNeg 0) &&& (255 : Int32))), .unset] [(.int ((bs.getD ((p1 + (1 : Int32))).toNatClampNeg 0) &&& (255 : Int32)))])) _
                    refine XS.iload X0.here hx rfl (hb hby d5_184) rfl ?_
                    exact k
                  by_cases hc186 : (159 : Int32) < ((bs.getD ((p1 + (1 : Int32))).toNatClampNeg 0) &&& (255 : Int32))
                  · refine own_go (B := s₁.setTop (mkF m 189 #[.val (.ref a0), .val (.int p1), .val (.int ((bs.getD (p1).toNatClampNeg 0) &&& (255 : Int32))), .val (.int (3 : Int32)), .val (.int (128 : Int32)), .val (.int (159 : Int32)), .val (.int ((bs.getD ((p1 + (1 : Int32))).toNatClampNeg 0) &&& (255 : Int32))), .unset] [])) (fun t k => ?_) ?_
                    · show Steps p.tables e below (s₁.setTop (mkF m 186 #[.val (.ref a0), .val (.int p1), .val (.int ((bs.getD (p1).toNatClampNeg 0) &&& (255 : Int32))), .val (.int (3 : Int32)), .val (.int (128 : Int32)), .val (.int (159 : Int32)), .val (.int ((bs.getD ((p1 + (1 : Int32))).toNatClampNeg 0) &&& (255 : Int32))), .unset] [(.int (159 : Int32)), (.int ((bs.getD ((p1 + (1 : Int32))).toNatClampNeg 0) &&& (255 : Int32)))])) _
                      refine XS.icmpNo X0.here hx rfl (hb hby d5_186) rfl (tlt hc186).2.2.2 ?_
                      exact k
                    refine own_go (B := s₁.setTop (mkF m 190 #[.val (.ref a0), .val (.int p1), .val (.int ((bs.getD (p1).toNatClampNeg 0) &&& (255 : Int32))), .val (.int (3 : Int32)), .val (.int (128 : Int32)), .val (.int (159 : Int32)), .val (.int ((bs.getD ((p1 + (1 : Int32))).toNatClampNeg 0) &&& (255 : Int32))), .unset] [(.int (0 : Int32))])) (fun t k => ?_) ?_
                    · show Steps p.tables e below (s₁.setTop (mkF m 189 #[.val (.ref a0), .val (.int p1), .val (.int ((bs.getD (p1).toNatClampNeg 0) &&& (255 : Int32))), .val (.int (3 : Int32)), .val (.int (128 : Int32)), .val (.int (159 : Int32)), .val (.int ((bs.getD ((p1 + (1 : Int32))).toNatClampNeg 0) &&& (255 : Int32))), .unset] [])) _
                      refine XS.iconst X0.here hx rfl (hb hby d5_189) ?_
                      exact k
                    obtain ⟨fs, hr, hrun, hended, hW, hsame⟩ := X0.leave (v := some (.int (0 : Int32))) (fun h => by rw [Bd.returns] at h; cases h)
                    refine ⟨_, _, ?_, hrun, hended, _, _, rfl, ?_, ⟨_, rfl⟩, hW, hsame.mono (by decide) (by decide)⟩
                    · show Steps p.tables e below (s₁.setTop (mkF m 190 #[.val (.ref a0), .val (.int p1), .val (.int ((bs.getD (p1).toNatClampNeg 0) &&& (255 : Int32))), .val (.int (3 : Int32)), .val (.int (128 : Int32)), .val (.int (159 : Int32)), .val (.int ((bs.getD ((p1 + (1 : Int32))).toNatClampNeg 0) &&& (255 : Int32))), .unset] [(.int (0 : Int32))])) _
                      exact retI X0 hx Bd.returns (hb hby d5_190) hr
                    · show Q5 Z a0 p1 kk z bs h0 n0 _ s₁.heap _
                      rw [e0]
                      exact ⟨by simp only [own_seq, if_pos hpz, if_pos hz, if_neg hc12, if_neg hc31, if_pos hc38, if_neg hc57, if_neg hc66, if_pos hc83, if_neg hc159, if_neg hc179, if_pos hc186], N0, rfl⟩
                  · refine own_go (B := s₁.setTop (mkF m 191 #[.val (.ref a0), .val (.int p1), .val (.int ((bs.getD (p1).toNatClampNeg 0) &&& (255 : Int32))), .val (.int (3 : Int32)), .val (.int (128 : Int32)), .val (.int (159 : Int32)), .val (.int ((bs.getD ((p1 + (1 : Int32))).toNatClampNeg 0) &&& (255 : Int32))), .unset] [])) (fun t k => ?_) ?_
                    · show Steps p.tables e below (s₁.setTop (mkF m 186 #[.val (.ref a0), .val (.int p1), .val (.int ((bs.getD (p1).toNatClampNeg 0) &&& (255 : Int32))), .val (.int (3 : Int32)), .val (.int (128 : Int32)), .val (.int (159 : Int32)), .val (.int ((bs.getD ((p1 + (1 : Int32))).toNatClampNeg 0) &&& (255 : Int32))), .unset] [(.int (159 : Int32)), (.int ((bs.getD ((p1 + (1 : Int32))).toNatClampNeg 0) &&& (255 : Int32)))])) _
                      refine XS.icmpYes X0.here hx rfl (pc0 := 186) (pc' := 191) rfl (hb hby d5_186) rfl (flt hc186).2.2.2 (by decide) (by decide) ?_
                      exact k
                    refine own_go (B := s₁.setTop (mkF m 201 #[.val (.ref a0), .val (.int p1), .val (.int ((bs.getD (p1).toNatClampNeg 0) &&& (255 : Int32))), .val (.int (3 : Int32)), .val (.int (128 : Int32)), .val (.int (159 : Int32)), .val (.int ((bs.getD ((p1 + (1 : Int32))).toNatClampNeg 0) &&& (255 : Int32))), .val (.int (p1 + (2 : Int32)))] [(.int (p1 + (3 : Int32))), (.int (p1 + (2 : Int32)))])) (fun t k => ?_) ?_
                    · show Steps p.tables e below (s₁.setTop (mkF m 191 #[.val (.ref a0), .val (.int p1), .val (.int ((bs.getD (p1).toNatClampNeg 0) &&& (255 : Int32))), .val (.int (3 : Int32)), .val (.int (128 : Int32)), .val (.int (159 : Int32)), .val (.int ((bs.getD ((p1 + (1 : Int32))).toNatClampNeg 0) &&& (255 : Int32))), .unset] [])) _
                      refine XS.iloadN X0.here hx rfl (hb hby d5_191) rfl ?_
                      show Steps p.tables e below (s₁.setTop (mkF m 192 #[.val (.ref a0), .val (.int p1), .val (.int ((bs.getD (p1).toNatClampNeg 0) &&& (255 : Int32))), .val (.int (3 : Int32)), .val (.int (128 : Int32)), .val (.int (159 : Int32)), .val (.int ((bs.getD ((p1 + (1 : Int32))).toNatClampNeg 0) &&& (255 : Int32))), .unset] [(.int p1)])) _
                      refine XS.iconst X0.here hx rfl (hb hby d5_192) ?_
                      show Steps p.tables e below (s₁.setTop (mkF m 193 #[.val (.ref a0), .val (.int p1), .val (.int ((bs.getD (p1).toNatClampNeg 0) &&& (255 : Int32))), .val (.int (3 : Int32)), .val (.int (128 : Int32)), .val (.int (159 : Int32)), .val (.int ((bs.getD ((p1 + (1 : Int32))).toNatClampNeg 0) &&& (255 : Int32))), .unset] [(.int (2 : Int32)), (.int p1)])) _
                      refine XS.iadd X0.here hx rfl (hb hby d5_193) rfl ?_
                      show Steps p.tables e below (s₁.setTop (mkF m 194 #[.val (.ref a0), .val (.int p1), .val (.int ((bs.getD (p1).toNatClampNeg 0) &&& (255 : Int32))), .val (.int (3 : Int32)), .val (.int (128 : Int32)), .val (.int (159 : Int32)), .val (.int ((bs.getD ((p1 + (1 : Int32))).toNatClampNeg 0) &&& (255 : Int32))), .unset] [(.int (p1 + (2 : Int32)))])) _
                      refine XS.istore X0.here hx rfl (hb hby d5_194) rfl (l' := #[.val (.ref a0), .val (.int p1), .val (.int ((bs.getD (p1).toNatClampNeg 0) &&& (255 : Int32))), .val (.int (3 : Int32)), .val (.int (128 : Int32)), .val (.int (159 : Int32)), .val (.int ((bs.getD ((p1 + (1 : Int32))).toNatClampNeg 0) &&& (255 : Int32))), .val (.int (p1 + (2 : Int32)))]) rfl ?_
                      show Steps p.tables e below (s₁.setTop (mkF m 196 #[.val (.ref a0), .val (.int p1), .val (.int ((bs.getD (p1).toNatClampNeg 0) &&& (255 : Int32))), .val (.int (3 : Int32)), .val (.int (128 : Int32)), .val (.int (159 : Int32)), .val (.int ((bs.getD ((p1 + (1 : Int32))).toNatClampNeg 0) &&& (255 : Int32))), .val (.int (p1 + (2 : Int32)))] [])) _
                      refine XS.iload X0.here hx rfl (hb hby d5_196) rfl ?_
                      show Steps p.tables e below (s₁.setTop (mkF m 198 #[.val (.ref a0), .val (.int p1), .val (.int ((bs.getD (p1).toNatClampNeg 0) &&& (255 : Int32))), .val (.int (3 : Int32)), .val (.int (128 : Int32)), .val (.int (159 : Int32)), .val (.int ((bs.getD ((p1 + (1 : Int32))).toNatClampNeg 0) &&& (255 : Int32))), .val (.int (p1 + (2 : Int32)))] [(.int (p1 + (2 : Int32)))])) _
                      refine XS.iloadN X0.here hx rfl (hb hby d5_198) rfl ?_
                      show Steps p.tables e below (s₁.setTop (mkF m 199 #[.val (.ref a0), .val (.int p1), .val (.int ((bs.getD (p1).toNatClampNeg 0) &&& (255 : Int32))), .val (.int (3 : Int32)), .val (.int (128 : Int32)), .val (.int (159 : Int32)), .val (.int ((bs.getD ((p1 + (1 : Int32))).toNatClampNeg 0) &&& (255 : Int32))), .val (.int (p1 + (2 : Int32)))] [(.int p1), (.int (p1 + (2 : Int32)))])) _
                      refine XS.iloadN X0.here hx rfl (hb hby d5_199) rfl ?_
                      show Steps p.tables e below (s₁.setTop (mkF m 200 #[.val (.ref a0), .val (.int p1), .val (.int ((bs.getD (p1).toNatClampNeg 0) &&& (255 : Int32))), .val (.int (3 : Int32)), .val (.int (128 : Int32)), .val (.int (159 : Int32)), .val (.int ((bs.getD ((p1 + (1 : Int32))).toNatClampNeg 0) &&& (255 : Int32))), .val (.int (p1 + (2 : Int32)))] [(.int (3 : Int32)), (.int p1), (.int (p1 + (2 : Int32)))])) _
                      refine XS.iadd X0.here hx rfl (hb hby d5_200) rfl ?_
                      exact k
                    refine own_go (B := s₁.setTop (mkF m 204 #[.val (.ref a0), .val (.int p1), .val (.int ((bs.getD (p1).toNatClampNeg 0) &&& (255 : Int32))), .val (.int (3 : Int32)), .val (.int (128 : Int32)), .val (.int (159 : Int32)), .val (.int ((bs.getD ((p1 + (1 : Int32))).toNatClampNeg 0) &&& (255 : Int32))), .val (.int (p1 + (2 : Int32)))] [])) (fun t k => ?_) ?_
                    · show Steps p.tables e below (s₁.setTop (mkF m 201 #[.val (.ref a0), .val (.int p1), .val (.int ((bs.getD (p1).toNatClampNeg 0) &&& (255 : Int32))), .val (.int (3 : Int32)), .val (.int (128 : Int32)), .val (.int (159 : Int32)), .val (.int ((bs.getD ((p1 + (1 : Int32))).toNatClampNeg 0) &&& (255 : Int32))), .val (.int (p1 + (2 : Int32)))] [(.int (p1 + (3 : Int32))), (.int (p1 + (2 : Int32)))])) _
                      refine XS.icmpNo X0.here hx rfl (hb hby d5_201) rfl (tlt (own_ltp p1 z 2 3 hp hpz hz (by decide))).2.1 ?_
                      exact k
                    refine own_go (B := s₁.setTop (mkF m 207 #[.val (.ref a0), .val (.int p1), .val (.int ((bs.getD (p1).toNatClampNeg 0) &&& (255 : Int32))), .val (.int (3 : Int32)), .val (.int (128 : Int32)), .val (.int (159 : Int32)), .val (.int ((bs.getD ((p1 + (1 : Int32))).toNatClampNeg 0) &&& (255 : Int32))), .val (.int (p1 + (2 : Int32)))] [(.int (p1 + (2 : Int32))), (.ref a0)])) (fun t k => ?_) ?_
                    · show Steps p.tables e below (s₁.setTop (mkF m 204 #[.val (.ref a0), .val (.int p1), .val (.int ((bs.getD (p1).toNatClampNeg 0) &&& (255 : Int32))), .val (.int (3 : Int32)), .val (.int (128 : Int32)), .val (.int (159 : Int32)), .val (.int ((bs.getD ((p1 + (1 : Int32))).toNatClampNeg 0) &&& (255 : Int32))), .val (.int (p1 + (2 : Int32)))] [])) _
                      refine XS.aloadN X0.here hx rfl (hb hby d5_204) rfl rfl ?_
                      show Steps p.tables e below (s₁.setTop (mkF m 205 #[.val (.ref a0), .val (.int p1), .val (.int ((bs.getD (p1).toNatClampNeg 0) &&& (255 : Int32))), .val (.int (3 : Int32)), .val (.int (128 : Int32)), .val (.int (159 : Int32)), .val (.int ((bs.getD ((p1 + (1 : Int32))).toNatClampNeg 0) &&& (255 : Int32))), .val (.int (p1 + (2 : Int32)))] [(.ref a0)])) _
                      refine XS.iload X0.here hx rfl (hb hby d5_205) rfl ?_
                      exact k
                    obtain ⟨cl_19, Ar_19, q_19, S_19, M_19, H_19, G_19⟩ := id V0
                    have hin_19 : ¬ ((p1 + (2 : Int32)) < 0 ∨ cl_19.slots.size ≤ ((p1 + (2 : Int32))).toNatClampNeg) := inb_of S_19 (own_inb p1 z (2 : Int32) (3 : Int32) hp hpz hz hc159 (by decide))
                    have hat_19 : cl_19.slots[((p1 + (2 : Int32))).toNatClampNeg]? = some (.int (bs.getD ((p1 + (2 : Int32))).toNatClampNeg 0)) := H_19.at hin_19 (own_map bs _)
                    refine own_go (B := s₁.setTop (mkF m 208 #[.val (.ref a0), .val (.int p1), .val (.int ((bs.getD (p1).toNatClampNeg 0) &&& (255 : Int32))), .val (.int (3 : Int32)), .val (.int (128 : Int32)), .val (.int (159 : Int32)), .val (.int ((bs.getD ((p1 + (1 : Int32))).toNatClampNeg 0) &&& (255 : Int32))), .val (.int (p1 + (2 : Int32)))] [(.int (bs.getD ((p1 + (2 : Int32))).toNatClampNeg 0))])) (fun t k => X0.baloadBytes hx (j := (p1 + (2 : Int32))) (v := (.int (bs.getD ((p1 + (2 : Int32))).toNatClampNeg 0))) (by rw [(e0 : _ = _)]; exact Ar_19.1) (State.isArrayOf_alike hZ.alike Ar_19.2.1) Ar_19.2.2 hin_19 hat_19 (g := (mkF m 207 #[.val (.ref a0), .val (.int p1), .val (.int ((bs.getD (p1).toNatClampNeg 0) &&& (255 : Int32))), .val (.int (3 : Int32)), .val (.int (128 : Int32)), .val (.int (159 : Int32)), .val (.int ((bs.getD ((p1 + (1 : Int32))).toNatClampNeg 0) &&& (255 : Int32))), .val (.int (p1 + (2 : Int32)))] [(.int (p1 + (2 : Int32))), (.ref a0)])) rfl rfl (hb hby d5_207) t k) ?_
                    refine own_go (B := s₁.setTop (mkF m 215 #[.val (.ref a0), .val (.int p1), .val (.int ((bs.getD (p1).toNatClampNeg 0) &&& (255 : Int32))), .val (.int (3 : Int32)), .val (.int (128 : Int32)), .val (.int (159 : Int32)), .val (.int ((bs.getD ((p1 + (1 : Int32))).toNatClampNeg 0) &&& (255 : Int32))), .val (.int (p1 + (2 : Int32)))] [(.int (128 : Int32)), (.int ((bs.getD ((p1 + (2 : Int32))).toNatClampNeg 0) &&& (192 : Int32)))])) (fun t k => ?_) ?_
                    · show Steps p.tables e below (s₁.setTop (mkF m 208 #[.val (.ref a0), .val (.int p1), .val (.int ((bs.getD (p1).toNatClampNeg 0) &&& (255 : Int32))), .val (.int (3 : Int32)), .val (.int (128 : Int32)), .val (.int (159 : Int32)), .val (.int ((bs.getD ((p1 + (1 : Int32))).toNatClampNeg 0) &&& (255 : Int32))), .val (.int (p1 + (2 : Int32)))] [(.int (bs.getD ((p1 + (2 : Int32))).toNatClampNeg 0))])) _
                      refine XS.sipush X0.here hx rfl (hb hby d5_208) ?_
                      show Steps p.tables e below (s₁.setTop (mkF m 211 #[.val (.ref a0), .val (.int p1), .val (.int ((bs.getD (p1).toNatClampNeg 0) &&& (255 : Int32))), .val (.int (3 : Int32)), .val (.int (128 : Int32)), .val (.int (159 : Int32)), .val (.int ((bs.getD ((p1 + (1 : Int32))).toNatClampNeg 0) &&& (255 : Int32))), .val (.int (p1 + (2 : Int32)))] [(.int (192 : Int32)), (.int (bs.getD ((p1 + (2 : Int32))).toNatClampNeg 0))])) _
                      refine XS.iand X0.here hx rfl (hb hby d5_211) rfl ?_
                      show Steps p.tables e below (s₁.setTop (mkF m 212 #[.val (.ref a0), .val (.int p1), .val (.int ((bs.getD (p1).toNatClampNeg 0) &&& (255 : Int32))), .val (.int (3 : Int32)), .val (.int (128 : Int32)), .val (.int (159 : Int32)), .val (.int ((bs.getD ((p1 + (1 : Int32))).toNatClampNeg 0) &&& (255 : Int32))), .val (.int (p1 + (2 : Int32)))] [(.int ((bs.getD ((p1 + (2 : Int32))).toNatClampNeg 0) &&& (192 : Int32)))])) _
                      refine XS.sipush X0.here hx rfl (hb hby d5_212) ?_
                      exact k
                    by_cases hc215 : ((bs.getD ((p1 + (2 : Int32))).toNatClampNeg 0) &&& (192 : Int32)) = (128 : Int32)
                    · refine own_go (B := s₁.setTop (mkF m 220 #[.val (.ref a0), .val (.int p1), .val (.int ((bs.getD (p1).toNatClampNeg 0) &&& (255 : Int32))), .val (.int (3 : Int32)), .val (.int (128 : Int32)), .val (.int (159 : Int32)), .val (.int ((bs.getD ((p1 + (1 : Int32))).toNatClampNeg 0) &&& (255 : Int32))), .val (.int (p1 + (2 : Int32)))] [])) (fun t k => ?_) ?_
                      · show Steps p.tables e below (s₁.setTop (mkF m 215 #[.val (.ref a0), .val (.int p1), .val (.int ((bs.getD (p1).toNatClampNeg 0) &&& (255 : Int32))), .val (.int (3 : Int32)), .val (.int (128 : Int32)), .val (.int (159 : Int32)), .val (.int ((bs.getD ((p1 + (1 : Int32))).toNatClampNeg 0) &&& (255 : Int32))), .val (.int (p1 + (2 : Int32)))] [(.int (128 : Int32)), (.int ((bs.getD ((p1 + (2 : Int32))).toNatClampNeg 0) &&& (192 : Int32)))])) _
                        refine XS.icmpYes X0.here hx rfl (pc0 := 215) (pc' := 220) rfl (hb hby d5_215) rfl (teq hc215).1 (by decide) (by decide) ?_
                        exact k
                      refine own_go (B := s₁.setTop (mkF m 201 #[.val (.ref a0), .val (.int p1), .val (.int ((bs.getD (p1).toNatClampNeg 0) &&& (255 : Int32))), .val (.int (3 : Int32)), .val (.int (128 : Int32)), .val (.int (159 : Int32)), .val (.int ((bs.getD ((p1 + (1 : Int32))).toNatClampNeg 0) &&& (255 : Int32))), .val (.int (p1 + (3 : Int32)))] [(.int (p1 + (3 : Int32))), (.int (p1 + (3 : Int32)))])) (fun t k => ?_) ?_
                      · show Steps p.tables e below (s₁.setTop (mkF m 220 #[.val (.ref a0), .val (.int p1), .val (.int ((bs.getD (p1).toNatClampNeg 0) &&& (255 : Int32))), .val (.int (3 : Int32)), .val (.int (128 : Int32)), .val (.int (159 : Int32)), .val (.int ((bs.getD ((p1 + (1 : Int32))).toNatClampNeg 0) &&& (255 : Int32))), .val (.int (p1 + (2 : Int32)))] [])) _
                        refine XS.iinc X0.here hx rfl (hb hby d5_220) rfl (l' := #[.val (.ref a0), .val (.int p1), .val (.int ((bs.getD (p1).toNatClampNeg 0) &&& (255 : Int32))), .val (.int (3 : Int32)), .val (.int (128 : Int32)), .val (.int (159 : Int32)), .val (.int ((bs.getD ((p1 + (1 : Int32))).toNatClampNeg 0) &&& (255 : Int32))), .val (.int (p1 + (3 : Int32)))]) (by rw [show p1 + (3 : Int32) = (p1 + (2 : Int32)) + (1 : Int32) from by rw [Int32.add_assoc]; rfl]; rfl) ?_
                        show Steps p.tables e below (s₁.setTop (mkF m 223 #[.val (.ref a0), .val (.int p1), .val (.int ((bs.getD (p1).toNatClampNeg 0) &&& (255 : Int32))), .val (.int (3 : Int32)), .val (.int (128 : Int32)), .val (.int (159 : Int32)), .val (.int ((bs.getD ((p1 + (1 : Int32))).toNatClampNeg 0) &&& (255 : Int32))), .val (.int (p1 + (3 : Int32)))] [])) _
                        refine XS.goto X0.here hx rfl (pc0 := 223) (pc' := 196) rfl (hb hby d5_223) (by decide) (by decide) ?_
                        show Steps p.tables e below (s₁.setTop (mkF m 196 #[.val (.ref a0), .val (.int p1), .val (.int ((bs.getD (p1).toNatClampNeg 0) &&& (255 : Int32))), .val (.int (3 : Int32)), .val (.int (128 : Int32)), .val (.int (159 : Int32)), .val (.int ((bs.getD ((p1 + (1 : Int32))).toNatClampNeg 0) &&& (255 : Int32))), .val (.int (p1 + (3 : Int32)))] [])) _
                        refine XS.iload X0.here hx rfl (hb hby d5_196) rfl ?_
                        show Steps p.tables e below (s₁.setTop (mkF m 198 #[.val (.ref a0), .val (.int p1), .val (.int ((bs.getD (p1).toNatClampNeg 0) &&& (255 : Int32))), .val (.int (3 : Int32)), .val (.int (128 : Int32)), .val (.int (159 : Int32)), .val (.int ((bs.getD ((p1 + (1 : Int32))).toNatClampNeg 0) &&& (255 : Int32))), .val (.int (p1 + (3 : Int32)))] [(.int (p1 + (3 : Int32)))])) _
                        refine XS.iloadN X0.here hx rfl (hb hby d5_198) rfl ?_
                        show Steps p.tables e below (s₁.setTop (mkF m 199 #[.val (.ref a0), .val (.int p1), .val (.int ((bs.getD (p1).toNatClampNeg 0) &&& (255 : Int32))), .val (.int (3 : Int32)), .val (.int (128 : Int32)), .val (.int (159 : Int32)), .val (.int ((bs.getD ((p1 + (1 : Int32))).toNatClampNeg 0) &&& (255 : Int32))), .val (.int (p1 + (3 : Int32)))] [(.int p1), (.int (p1 + (3 : Int32)))])) _
                        refine XS.iloadN X0.here hx rfl (hb hby d5_199) rfl ?_
                        show Steps p.tables e below (s₁.setTop (mkF m 200 #[.val (.ref a0), .val (.int p1), .val (.int ((bs.getD (p1).toNatClampNeg 0) &&& (255 : Int32))), .val (.int (3 : Int32)), .val (.int (128 : Int32)), .val (.int (159 : Int32)), .val (.int ((bs.getD ((p1 + (1 : Int32))).toNatClampNeg 0) &&& (255 : Int32))), .val (.int (p1 + (3 : Int32)))] [(.int (3 : Int32)), (.int p1), (.int (p1 + (3 : Int32)))])) _
                        refine XS.iadd X0.here hx rfl (hb hby d5_200) rfl ?_
                        exact k
                      refine own_go (B := s₁.setTop (mkF m 226 #[.val (.ref a0), .val (.int p1), .val (.int ((bs.getD (p1).toNatClampNeg 0) &&& (255 : Int32))), .val (.int (3 : Int32)), .val (.int (128 : Int32)), .val (.int (159 : Int32)), .val (.int ((bs.getD ((p1 + (1 : Int32))).toNatClampNeg 0) &&& (255 : Int32))), .val (.int (p1 + (3 : Int32)))] [])) (fun t k => ?_) ?_
                      · show Steps p.tables e below (s₁.setTop (mkF m 201 #[.val (.ref a0), .val (.int p1), .val (.int ((bs.getD (p1).toNatClampNeg 0) &&& (255 : Int32))), .val (.int (3 : Int32)), .val (.int (128 : Int32)), .val (.int (159 : Int32)), .val (.int ((bs.getD ((p1 + (1 : Int32))).toNatClampNeg 0) &&& (255 : Int32))), .val (.int (p1 + (3 : Int32)))] [(.int (p1 + (3 : Int32))), (.int (p1 + (3 : Int32)))])) _
                        refine XS.icmpYes X0.here hx rfl (pc0 := 201) (pc' := 226) rfl (hb hby d5_201) rfl (flt Int32.lt_irrefl).2.1 (by decide) (by decide) ?_
                        exact k
                      refine own_go (B := s₁.setTop (mkF m 227 #[.val (.ref a0), .val (.int p1), .val (.int ((bs.getD (p1).toNatClampNeg 0) &&& (255 : Int32))), .val (.int (3 : Int32)), .val (.int (128 : Int32)), .val (.int (159 : Int32)), .val (.int ((bs.getD ((p1 + (1 : Int32))).toNatClampNeg 0) &&& (255 : Int32))), .val (.int (p1 + (3 : Int32)))] [(.int (3 : Int32))])) (fun t k => ?_) ?_
                      · show Steps p.tables e below (s₁.setTop (mkF m 226 #[.val (.ref a0), .val (.int p1), .val (.int ((bs.getD (p1).toNatClampNeg 0) &&& (255 : Int32))), .val (.int (3 : Int32)), .val (.int (128 : Int32)), .val (.int (159 : Int32)), .val (.int ((bs.getD ((p1 + (1 : Int32))).toNatClampNeg 0) &&& (255 : Int32))), .val (.int (p1 + (3 : Int32)))] [])) _
                        refine XS.iloadN X0.here hx rfl (hb hby d5_226) rfl ?_
                        exact k
                      obtain ⟨fs, hr, hrun, hended, hW, hsame⟩ := X0.leave (v := some (.int (3 : Int32))) (fun h => by rw [Bd.returns] at h; cases h)
                      refine ⟨_, _, ?_, hrun, hended, _, _, rfl, ?_, ⟨_, rfl⟩, hW, hsame.mono (by decide) (by decide)⟩
                      · show Steps p.tables e below (s₁.setTop (mkF m 227 #[.val (.ref a0), .val (.int p1), .val (.int ((bs.getD (p1).toNatClampNeg 0) &&& (255 : Int32))), .val (.int (3 : Int32)), .val (.int (128 : Int32)), .val (.int (159 : Int32)), .val (.int ((bs.getD ((p1 + (1 : Int32))).toNatClampNeg 0) &&& (255 : Int32))), .val (.int (p1 + (3 : Int32)))] [(.int (3 : Int32))])) _
                        exact retI X0 hx Bd.returns (hb hby d5_227) hr
                      · show Q5 Z a0 p1 kk z bs h0 n0 _ s₁.heap _
                        rw [e0]
                        exact ⟨by simp only [own_seq, if_pos hpz, if_pos hz, if_neg hc12, if_neg hc31, if_pos hc38, if_neg hc57, if_neg hc66, if_pos hc83, if_neg hc159, if_neg hc179, if_neg hc186, if_pos hc215], N0, rfl⟩
                    · refine own_go (B := s₁.setTop (mkF m 218 #[.val (.ref a0), .val (.int p1), .val (.int ((bs.getD (p1).toNatClampNeg 0) &&& (255 : Int32))), .val (.int (3 : Int32)), .val (.int (128 : Int32)), .val (.int (159 : Int32)), .val (.int ((bs.getD ((p1 + (1 : Int32))).toNatClampNeg 0) &&& (255 : Int32))), .val (.int (p1 + (2 : Int32)))] [])) (fun t k => ?_) ?_
                      · show Steps p.tables e below (s₁.setTop (mkF m 215 #[.val (.ref a0), .val (.int p1), .val (.int ((bs.getD (p1).toNatClampNeg 0) &&& (255 : Int32))), .val (.int (3 : Int32)), .val (.int (128 : Int32)), .val (.int (159 : Int32)), .val (.int ((bs.getD ((p1 + (1 : Int32))).toNatClampNeg 0) &&& (255 : Int32))), .val (.int (p1 + (2 : Int32)))] [(.int (128 : Int32)), (.int ((bs.getD ((p1 + (2 : Int32))).toNatClampNeg 0) &&& (192 : Int32)))])) _
                        refine XS.icmpNo X0.here hx rfl (hb hby d5_215) rfl (feq hc215).1 ?_
                        exact k
                      refine own_go (B := s₁.setTop (mkF m 219 #[.val (.ref a0), .val (.int p1), .val (.int ((bs.getD (p1).toNatClampNeg 0) &&& (255 : Int32))), .val (.int (3 : Int32)), .val (.int (128 : Int32)), .val (.int (159 : Int32)), .val (.int ((bs.getD ((p1 + (1 : Int32))).toNatClampNeg 0) &&& (255 : Int32))), .val (.int (p1 + (2 : Int32)))] [(.int (0 : Int32))])) (fun t k => ?_) ?_
                      · show Steps p.tables e below (s₁.setTop (mkF m 218 #[.val (.ref a0), .val (.int p1), .val (.int ((bs.getD (p1).toNatClampNeg 0) &&& (255 : Int32))), .val (.int (3 : Int32)), .val (.int (128 : Int32)), .val (.int (159 : Int32)), .val (.int ((bs.getD ((p1 + (1 : Int32))).toNatClampNeg 0) &&& (255 : Int32))), .val (.int (p1 + (2 : Int32)))] [])) _
                        refine XS.iconst X0.here hx rfl (hb hby d5_218) ?_
                        exact k
                      obtain ⟨fs, hr, hrun, hended, hW, hsame⟩ := X0.leave (v := some (.int (0 : Int32))) (fun h => by rw [Bd.returns] at h; cases h)
                      refine ⟨_, _, ?_, hrun, hended, _, _, rfl, ?_, ⟨_, rfl⟩, hW, hsame.mono (by decide) (by decide)⟩
                      · show Steps p.tables e below (s₁.setTop (mkF m 219 #[.val (.ref a0), .val (.int p1), .val (.int ((bs.getD (p1).toNatClampNeg 0) &&& (255 : Int32))), .val (.int (3 : Int32)), .val (.int (128 : Int32)), .val (.int (159 : Int32)), .val (.int ((bs.getD ((p1 + (1 : Int32))).toNatClampNeg 0) &&& (255 : Int32))), .val (.int (p1 + (2 : Int32)))] [(.int (0 : Int32))])) _
                        exact retI X0 hx Bd.returns (hb hby d5_219) hr
                      · show Q5 Z a0 p1 kk z bs h0 n0 _ s₁.heap _
                        rw [e0]
                        exact ⟨by simp only [own_seq, if_pos hpz, if_pos hz, if_neg hc12, if_neg hc31, if_pos hc38, if_neg hc57, if_neg hc66, if_pos hc83, if_neg hc159, if_neg hc179, if_neg hc186, if_neg hc215], N0, rfl⟩
            · refine own_go (B := s₁.setTop (mkF m 92 #[.val (.ref a0), .val (.int p1), .val (.int ((bs.getD (p1).toNatClampNeg 0) &&& (255 : Int32))), .val (.int (3 : Int32)), .val (.int (128 : Int32)), .val (.int (191 : Int32)), .unset, .unset] [])) (fun t k => ?_) ?_
              · show Steps p.tables e below (s₁.setTop (mkF m 83 #[.val (.ref a0), .val (.int p1), .val (.int ((bs.getD (p1).toNatClampNeg 0) &&& (255 : Int32))), .val (.int (3 : Int32)), .val (.int (128 : Int32)), .val (.int (191 : Int32)), .unset, .unset] [(.int (237 : Int32)), (.int ((bs.getD (p1).toNatClampNeg 0) &&& (255 : Int32)))])) _
                refine XS.icmpYes X0.here hx rfl (pc0 := 83) (pc' := 92) rfl (hb hby d5_83) rfl (feq hc83).2 (by decide) (by decide) ?_
                exact k
              refine own_go (B := s₁.setTop (mkF m 158 #[.val (.ref a0), .val (.int p1), .val (.int ((bs.getD (p1).toNatClampNeg 0) &&& (255 : Int32))), .val (.int (3 : Int32)), .val (.int (128 : Int32)), .val (.int (191 : Int32)), .unset, .unset] [(.ref a0), (.int (p1 + (3 : Int32)))])) (fun t k => ?_) ?_
              · show Steps p.tables e below (s₁.setTop (mkF m 92 #[.val (.ref a0), .val (.int p1), .val (.int ((bs.getD (p1).toNatClampNeg 0) &&& (255 : Int32))), .val (.int (3 : Int32)), .val (.int (128 : Int32)), .val (.int (191 : Int32)), .unset, .unset] [])) _
                refine XS.iload X0.here hx rfl (hb hby d5_92) rfl ?_
                show Steps p.tables e below (s₁.setTop (mkF m 94 #[.val (.ref a0), .val (.int p1), .val (.int ((bs.getD (p1).toNatClampNeg 0) &&& (255 : Int32))), .val (.int (3 : Int32)), .val (.int (128 : Int32)), .val (.int (191 : Int32)), .unset, .unset] [(.int (191 : Int32))])) _
                refine XS.istore X0.here hx rfl (hb hby d5_94) rfl (l' := #[.val (.ref a0), .val (.int p1), .val (.int ((bs.getD (p1).toNatClampNeg 0) &&& (255 : Int32))), .val (.int (3 : Int32)), .val (.int (128 : Int32)), .val (.int (191 : Int32)), .unset, .unset]) rfl ?_
                show Steps p.tables e below (s₁.setTop (mkF m 96 #[.val (.ref a0), .val (.int p1), .val (.int ((bs.getD (p1).toNatClampNeg 0) &&& (255 : Int32))), .val (.int (3 : Int32)), .val (.int (128 : Int32)), .val (.int (191 : Int32)), .unset, .unset] [])) _
                refine XS.goto X0.here hx rfl (pc0 := 96) (pc' := 154) rfl (hb hby d5_96) (by decide) (by decide) ?_
                show Steps p.tables e below (s₁.setTop (mkF m 154 #[.val (.ref a0), .val (.int p1), .val (.int ((bs.getD (p1).toNatClampNeg 0) &&& (255 : Int32))), .val (.int (3 : Int32)), .val (.int (128 : Int32)), .val (.int (191 : Int32)), .unset, .unset] [])) _
                refine XS.iloadN X0.here hx rfl (hb hby d5_154) rfl ?_
                show Steps p.tables e below (s₁.setTop (mkF m 155 #[.val (.ref a0), .val (.int p1), .val (.int ((bs.getD (p1).toNatClampNeg 0) &&& (255 : Int32))), .val (.int (3 : Int32)), .val (.int (128 : Int32)), .val (.int (191 : Int32)), .unset, .unset] [(.int p1)])) _
                refine XS.iloadN X0.here hx rfl (hb hby d5_155) rfl ?_
                show Steps p.tables e below (s₁.setTop (mkF m 156 #[.val (.ref a0), .val (.int p1), .val (.int ((bs.getD (p1).toNatClampNeg 0) &&& (255 : Int32))), .val (.int (3 : Int32)), .val (.int (128 : Int32)), .val (.int (191 : Int32)), .unset, .unset] [(.int (3 : Int32)), (.int p1)])) _
                refine XS.iadd X0.here hx rfl (hb hby d5_156) rfl ?_
                show Steps p.tables e below (s₁.setTop (mkF m 157 #[.val (.ref a0), .val (.int p1), .val (.int ((bs.getD (p1).toNatClampNeg 0) &&& (255 : Int32))), .val (.int (3 : Int32)), .val (.int (128 : Int32)), .val (.int (191 : Int32)), .unset, .unset] [(.int (p1 + (3 : Int32)))])) _
                refine XS.aloadN X0.here hx rfl (hb hby d5_157) rfl rfl ?_
                exact k
              obtain ⟨cl_20, Ar_20, -, S_20, M_20, -, -⟩ := id V0
              refine own_go (B := s₁.setTop (mkF m 159 #[.val (.ref a0), .val (.int p1), .val (.int ((bs.getD (p1).toNatClampNeg 0) &&& (255 : Int32))), .val (.int (3 : Int32)), .val (.int (128 : Int32)), .val (.int (191 : Int32)), .unset, .unset] [(.int z), (.int (p1 + (3 : Int32)))])) (fun t k => X0.arraylength hx (by rw [(e0 : _ = _)]; exact Ar_20.1) (State.isArrayOf_alike hZ.alike Ar_20.2.1) (g := (mkF m 158 #[.val (.ref a0), .val (.int p1), .val (.int ((bs.getD (p1).toNatClampNeg 0) &&& (255 : Int32))), .val (.int (3 : Int32)), .val (.int (128 : Int32)), .val (.int (191 : Int32)), .unset, .unset] [(.ref a0), (.int (p1 + (3 : Int32)))])) rfl rfl (hb hby d5_158) t (by rw [len_of S_20 M_20]; exact k)) ?_
              by_cases hc159 : z < (p1 + (3 : Int32))
              · refine own_go (B := s₁.setTop (mkF m 162 #[.val (.ref a0), .val (.int p1), .val (.int ((bs.getD (p1).toNatClampNeg 0) &&& (255 : Int32))), .val (.int (3 : Int32)), .val (.int (128 : Int32)), .val (.int (191 : Int32)), .unset, .unset] [])) (fun t k => ?_) ?_
                · show Steps p.tables e below (s₁.setTop (mkF m 159 #[.val (.ref a0), .val (.int p1), .val (.int ((bs.getD (p1).toNatClampNeg 0) &&& (255 : Int32))), .val (.int (3 : Int32)), .val (.int (128 : Int32)), .val (.int (191 : Int32)), .unset, .unset] [(.int z), (.int (p1 + (3 : Int32)))])) _
                  refine XS.icmpNo X0.here hx rfl (hb hby d5_159) rfl (tlt hc159).2.2.2 ?_
                  exact k
                refine own_go (B := s₁.setTop (mkF m 163 #[.val (.ref a0), .val (.int p1), .val (.int ((bs.getD (p1).toNatClampNeg 0) &&& (255 : Int32))), .val (.int (3 : Int32)), .val (.int (128 : Int32)), .val (.int (191 : Int32)), .unset, .unset] [(.int (0 : Int32))])) (fun t k => ?_) ?_
                · show Steps p.tables e below (s₁.setTop (mkF m 162 #[.val (.ref a0), .val (.int p1), .val (.int ((bs.getD (p1).toNatClampNeg 0) &&& (255 : Int32))), .val (.int (3 : Int32)), .val (.int (128 : Int32)), .val (.int (191 : Int32)), .unset, .unset] [])) _
                  refine XS.iconst X0.here hx rfl (hb hby d5_162) ?_
                  exact k
                obtain ⟨fs, hr, hrun, hended, hW, hsame⟩ := X0.leave (v := some (.int (0 : Int32))) (fun h => by rw [Bd.returns] at h; cases h)
                refine ⟨_, _, ?_, hrun, hended, _, _, rfl, ?_, ⟨_, rfl⟩, hW, hsame.mono (by decide) (by decide)⟩
                · show Steps p.tables e below (s₁.setTop (mkF m 163 #[.val (.ref a0), .val (.int p1), .val (.int ((bs.getD (p1).toNatClampNeg 0) &&& (255 : Int32))), .val (.int (3 : Int32)), .val (.int (128 : Int32)), .val (.int (191 : Int32)), .unset, .unset] [(.int (0 : Int32))])) _
                  exact retI X0 hx Bd.returns (hb hby d5_163) hr
                · show Q5 Z a0 p1 kk z bs h0 n0 _ s₁.heap _
                  rw [e0]
                  exact ⟨by simp only [own_seq, if_pos hpz, if_pos hz, if_neg hc12, if_neg hc31, if_pos hc38, if_neg hc57, if_neg hc66, if_neg hc83, if_pos hc159], N0, rfl⟩
              · refine own_go (B := s₁.setTop (mkF m 164 #[.val (.ref a0), .val (.int p1), .val (.int ((bs.getD (p1).toNatClampNeg 0) &&& (255 : Int32))), .val (.int (3 : Int32)), .val (.int (128 : Int32)), .val (.int (191 : Int32)), .unset, .unset] [])) (fun t k => ?_) ?_
                · show Steps p.tables e below (s₁.setTop (mkF m 159 #[.val (.ref a0), .val (.int p1), .val (.int ((bs.getD (p1).toNatClampNeg 0) &&& (255 : Int32))), .val (.int (3 : Int32)), .val (.int (128 : Int32)), .val (.int (191 : Int32)), .unset, .unset] [(.int z), (.int (p1 + (3 : Int32)))])) _
                  refine XS.icmpYes X0.here hx rfl (pc0 := 159) (pc' := 164) rfl (hb hby d5_159) rfl (flt hc159).2.2.2 (by decide) (by decide) ?_
                  exact k
                refine own_go (B := s₁.setTop (mkF m 168 #[.val (.ref a0), .val (.int p1), .val (.int ((bs.getD (p1).toNatClampNeg 0) &&& (255 : Int32))), .val (.int (3 : Int32)), .val (.int (128 : Int32)), .val (.int (191 : Int32)), .unset, .unset] [(.int (p1 + (1 : Int32))), (.ref a0)])) (fun t k => ?_) ?_
                · show Steps p.tables e below (s₁.setTop (mkF m 164 #[.val (.ref a0), .val (.int p1), .val (.int ((bs.getD (p1).toNatClampNeg 0) &&& (255 : Int32))), .val (.int (3 : Int32)), .val (.int (128 : Int32)), .val (.int (191 : Int32)), .unset, .unset] [])) _
                  refine XS.aloadN X0.here hx rfl (hb hby d5_164) rfl rfl ?_
                  show Steps p.tables e below (s₁.setTop (mkF m 165 #[.val (.ref a0), .val (.int p1), .val (.int ((bs.getD (p1).toNatClampNeg 0) &&& (255 : Int32))), .val (.int (3 : Int32)), .val (.int (128 : Int32)), .val (.int (191 : Int32)), .unset, .unset] [(.ref a0)])) _
                  refine XS.iloadN X0.here hx rfl (hb hby d5_165) rfl ?_
                  show Steps p.tables e below (s₁.setTop (mkF m 166 #[.val (.ref a0), .val (.int p1), .val (.int ((bs.getD (p1).toNatClampNeg 0) &&& (255 : Int32))), .val (.int (3 : Int32)), .val (.int (128 : Int32)), .val (.int (191 : Int32)), .unset, .unset] [(.int p1), (.ref a0)])) _
                  refine XS.iconst X0.here hx rfl (hb hby d5_166) ?_
                  show Steps p.tables e below (s₁.setTop (mkF m 167 #[.val (.ref a0), .val (.int p1), .val (.int ((bs.getD (p1).toNatClampNeg 0) &&& (255 : Int32))), .val (.int (3 : Int32)), .val (.int (128 : Int32)), .val (.int (191 : Int32)), .unset, .unset] [(.int (1 : Int32)), (.int p1), (.ref a0)])) _
                  refine XS.iadd X0.here hx rfl (hb hby d5_167) rfl ?_
                  exact k
                obtain ⟨cl_21, Ar_21, q_21, S_21, M_21, H_21, G_21⟩ := id V0
                have hin_21 : ¬ ((p1 + (1 : Int32)) < 0 ∨ cl_21.slots.size ≤ ((p1 + (1 : Int32))).toNatClampNeg) := inb_of S_21 (own_inb p1 z (1 : Int32) (3 : Int32) hp hpz hz hc159 (by decide))
                have hat_21 : cl_21.slots[((p1 + (1 : Int32))).toNatClampNeg]? = some (.int (bs.getD ((p1 + (1 : Int32))).toNatClampNeg 0)) := H_21.at hin_21 (own_map bs _)
                refine own_go (B := s₁.setTop (mkF m 169 #[.val (.ref a0), .val (.int p1), .val (.int ((bs.getD (p1).toNatClampNeg 0) &&& (255 : Int32))), .val (.int (3 : Int32)), .val (.int (128 : Int32)), .val (.int (191 : Int32)), .unset, .unset] [(.int (bs.getD ((p1 + (1 : Int32))).toNatClampNeg 0))])) (fun t k => X0.baloadBytes hx (j := (p1 + (1 : Int32))) (v := (.int (bs.getD ((p1 + (1 : Int32))).toNatClampNeg 0))) (by rw [(e0 : _ = _)]; exact Ar_21.1) (State.isArrayOf_alike hZ.alike Ar_21.2.1) Ar_21.2.2 hin_21 hat_21 (g := (mkF m 168 #[.val (.ref a0), .val (.int p1), .val (.int ((bs.getD (p1).toNatClampNeg 0) &&& (255 : Int32))), .val (.int (3 : Int32)), .val (.int (128 : Int32)), .val (.int (191 : Int32)), .unset, .unset] [(.int (p1 + (1 : Int32))), (.ref a0)])) rfl rfl (hb hby d5_168) t k) ?_
                refine own_go (B := s₁.setTop (mkF m 179 #[.val (.ref a0), .val (.int p1), .val (.int ((bs.getD (p1).toNatClampNeg 0) &&& (255 : Int32))), .val (.int (3 : Int32)), .val (.int (128 : Int32)), .val (.int (191 : Int32)), .val (.int ((bs.getD ((p1 + (1 : Int32))).toNatClampNeg 0) &&& (255 : Int32))), .unset] [(.int (128 : Int32)), (.int ((bs.getD ((p1 + (1 : Int32))).toNatClampNeg 0) &&& (255 : Int32)))])) (fun t k => ?_) ?_
                · show Steps p.tables e below (s₁.setTop (mkF m 169 #[.val (.ref a0), .val (.int p1), .val (.int ((bs.getD (p1).toNatClampNeg 0) &&& (255 : Int32))), .val (.int (3 : Int32)), .val (.int (128 : Int32)), .val (.int (191 : Int32)), .unset, .unset] [(.int (bs.getD ((p1 + (1 : Int32))).toNatClampNeg 0))])) _
                  refine XS.sipush X0.here hx rfl (hb hby d5_169) ?_
                  show Steps p.tables e below (s₁.setTop (mkF m 172 #[.val (.ref a0), .val (.int p1), .val (.int ((bs.getD (p1).toNatClampNeg 0) &&& (255 : Int32))), .val (.int (3 : Int32)), .val (.int (128 : Int32)), .val (.int (191 : Int32)), .unset, .unset] [(.int (255 : Int32)), (.int (bs.getD ((p1 + (1 : Int32))).toNatClampNeg 0))])) _
                  refine XS.iand X0.here hx rfl (hb hby d5_172) rfl ?_
                  show Steps p.tables e below (s₁.setTop (mkF m 173 #[.val (.ref a0), .val (.int p1), .val (.int ((bs.getD (p1).toNatClampNeg 0) &&& (255 : Int32))), .val (.int (3 : Int32)), .val (.int (128 : Int32)), .val (.int (191 : Int32)), .unset, .unset] [(.int ((bs.getD ((p1 + (1 : Int32))).toNatClampNeg 0) &&& (255 : Int32)))])) _
                  refine XS.istore X0.here hx rfl (hb hby d5_173) rfl (l' := #[.val (.ref a0), .val (.int p1), .val (.int ((bs.getD (p1).toNatClampNeg 0) &&& (255 : Int32))), .val (.int (3 : Int32)), .val (.int (128 : Int32)), .val (.int (191 : Int32)), .val (.int ((bs.getD ((p1 + (1 : Int32))).toNatClampNeg 0) &&& (255 : Int32))), .unset]) rfl ?_
                  show Steps p.tables e below (s₁.setTop (mkF m 175 #[.val (.ref a0), .val (.int p1), .val (.int ((bs.getD (p1).toNatClampNeg 0) &&& (255 : Int32))), .val (.int (3 : Int32)), .val (.int (128 : Int32)), .val (.int (191 : Int32)), .val (.int ((bs.getD ((p1 + (1 : Int32))).toNatClampNeg 0) &&& (255 : Int32))), .unset] [])) _
                  refine XS.iload X0.here hx rfl (hb hby d5_175) rfl ?_
                  show Steps p.tables e below (s₁.setTop (mkF m 177 #[.val (.ref a0), .val (.int p1), .val (.int ((bs.getD (p1).toNatClampNeg 0) &&& (255 : Int32))), .val (.int (3 : Int32)), .val (.int (128 : Int32)), .val (.int (191 : Int32)), .val (.int ((bs.getD ((p1 + (1 : Int32))).toNatClampNeg 0) &&& (255 : Int32))), .unset] [(.int ((bs.getD ((p1 + (1 : Int32))).toNatClampNeg 0) &&& (255 : Int32)))])) _
                  refine XS.iload X0.here hx rfl (hb hby d5_177) rfl ?_
                  exact k
                by_cases hc179 : ((bs.getD ((p1 + (1 : Int32))).toNatClampNeg 0) &&& (255 : Int32)) < (128 : Int32)
                · refine own_go (B := s₁.setTop (mkF m 189 #[.val (.ref a0), .val (.int p1), .val (.int ((bs.getD (p1).toNatClampNeg 0) &&& (255 : Int32))), .val (.int (3 : Int32)), .val (.int (128 : Int32)), .val (.int (191 : Int32)), .val (.int ((bs.getD ((p1 + (1 : Int32))).toNatClampNeg 0) &&& (255 : Int32))), .unset] [])) (fun t k => ?_) ?_
                  · show Steps p.tables e below (s₁.setTop (mkF m 179 #[.val (.ref a0), .val (.int p1), .val (.int ((bs.getD (p1).toNatClampNeg 0) &&& (255 : Int32))), .val (.int (3 : Int32)), .val (.int (128 : Int32)), .val (.int (191 : Int32)), .val (.int ((bs.getD ((p1 + (1 : Int32))).toNatClampNeg 0) &&& (255 : Int32))), .unset] [(.int (128 : Int32)), (.int ((bs.getD ((p1 + (1 : Int32))).toNatClampNeg 0) &&& (255 : Int32)))])) _
                    refine XS.icmpYes X0.here hx rfl (pc0 := 179) (pc' := 189) rfl (hb hby d5_179) rfl (tlt hc179).1 (by decide) (by decide) ?_
                    exact k
                  refine own_go (B := s₁.setTop (mkF m 190 #[.val (.ref a0), .val (.int p1), .val (.int ((bs.getD (p1).toNatClampNeg 0) &&& (255 : Int32))), .val (.int (3 : Int32)), .val (.int (128 : Int32)), .val (.int (191 : Int32)), .val (.int ((bs.getD ((p1 + (1 : Int32))).toNatClampNeg 0) &&& (255 : Int32))), .unset] [(.int (0 : Int32))])) (fun t k => ?_) ?_
                  · show Steps p.tables e below (s₁.setTop (mkF m 189 #[.val (.ref a0), .val (.int p1), .val (.int ((bs.getD (p1).toNatClampNeg 0) &&& (255 : Int32))), .val (.int (3 : Int32)), .val (.int (128 : Int32)), .val (.int (191 : Int32)), .val (.int ((bs.getD ((p1 + (1 : Int32))).toNatClampNeg 0) &&& (255 : Int32))), .unset] [])) _
                    refine XS.iconst X0.here hx rfl (hb hby d5_189) ?_
                    exact k
                  obtain ⟨fs, hr, hrun, hended, hW, hsame⟩ := X0.leave (v := some (.int (0 : Int32))) (fun h => by rw [Bd.returns] at h; cases h)
                  refine ⟨_, _, ?_, hrun, hended, _, _, rfl, ?_, ⟨_, rfl⟩, hW, hsame.mono (by decide) (by decide)⟩
                  · show Steps p.tables e below (s₁.setTop (mkF m 190 #[.val (.ref a0), .val (.int p1), .val (.int ((bs.getD (p1).toNatClampNeg 0) &&& (255 : Int32))), .val (.int (3 : Int32)), .val (.int (128 : Int32)), .val (.int (191 : Int32)), .val (.int ((bs.getD ((p1 + (1 : Int32))).toNatClampNeg 0) &&& (255 : Int32))), .unset] [(.int (0 : Int32))])) _
                    exact retI X0 hx Bd.returns (hb hby d5_190) hr
                  · show Q5 Z a0 p1 kk z bs h0 n0 _ s₁.heap _
                    rw [e0]
                    exact ⟨by simp only [own_seq, if_pos hpz, if_pos hz, if_neg hc12, if_neg hc31, if_pos hc38, if_neg hc57, if_neg hc66, if_neg hc83, if_neg hc159, if_pos hc179], N0, rfl⟩
                · refine own_go (B := s₁.setTop (mkF m 182 #[.val (.ref a0), .val (.int p1), .val (.int ((bs.getD (p1).toNatClampNeg 0) &&& (255 : Int32))), .val (.int (3 : Int32)), .val (.int (128 : Int32)), .val (.int (191 : Int32)), .val (.int ((bs.getD ((p1 + (1 : Int32))).toNatClampNeg 0) &&& (255 : Int32))), .unset] [])) (fun t k => ?_) ?_
                  · show Steps p.tables e below (s₁.setTop (mkF m 179 #[.val (.ref a0), .val (.int p1), .val (.int ((bs.getD (p1).toNatClampNeg 0) &&& (255 : Int32))), .val (.int (3 : Int32)), .val (.int (128 : Int32)), .val (.int (191 : Int32)), .val (.int ((bs.getD ((p1 + (1 : Int32))).toNatClampNeg 0) &&& (255 : Int32))), .unset] [(.int (128 : Int32)), (.int ((bs.getD ((p1 + (1 : Int32))).toNatClampNeg 0) &&& (255 : Int32)))])) _
                    refine XS.icmpNo X0.here hx rfl (hb hby d5_179) rfl (flt hc179).1 ?_
                    exact k
                  refine own_go (B := s₁.setTop (mkF m 186 #[.val (.ref a0), .val (.int p1), .val (.int ((bs.getD (p1).toNatClampNeg 0) &&& (255 : Int32))), .val (.int (3 : Int32)), .val (.int (128 : Int32)), .val (.int (191 : Int32)), .val (.int ((bs.getD ((p1 + (1 : Int32))).toNatClampNeg 0) &&& (255 : Int32))), .unset] [(.int (191 : Int32)), (.int ((bs.getD ((p1 + (1 : Int32))).toNatClampNeg 0) &&& (255 : Int32)))])) (fun t k => ?_) ?_
                  · show Steps p.tables e below (s₁.setTop (mkF m 182 #[.val (.ref a0), .val (.int p1), .val (.int ((bs.getD (p1).toNatClampNeg 0) &&& (255 : Int32))), .val (.int (3 : Int32)), .val (.int (128 : Int32)), .val (.int (191 : Int32)), .val (.int ((bs.getD ((p1 + (1 : Int32))).toNatClampNeg 0) &&& (255 : Int32))), .unset] [])) _
                    refine XS.iload X0.here hx rfl (hb hby d5_182) rfl ?_
                    show Steps p.tables e below (s₁.setTop (mkF m 184 #[.val (.ref a0), .val (.int p1), .val (.int ((bs.getD (p1).toNatClampNeg 0) &&& (255 : Int32))), .val (.int (3 : Int32)), .val (.int (128 : Int32)), .val (.int (191 : Int32)), .val (.int ((bs.getD ((p1 + (1 : Int32))).toNatClampNeg 0) &&& (255 : Int32))), .unset] [(.int ((bs.getD ((p1 + (1 : Int32))).toNatClampNeg 0) &&& (255 : Int32)))])) _
                    refine XS.iload X0.here hx rfl (hb hby d5_184) rfl ?_
                    exact k
                  by_cases hc186 : (191 : Int32) < ((bs.getD ((p1 + (1 : Int32))).toNatClampNeg 0) &&& (255 : Int32))
                  · refine own_go (B := s₁.setTop (mkF m 189 #[.val (.ref a0), .val (.int p1), .val (.int ((bs.getD (p1).toNatClampNeg 0) &&& (255 : Int32))), .val (.int (3 : Int32)), .val (.int (128 : Int32)), .val (.int (191 : Int32)), .val (.int ((bs.getD ((p1 + (1 : Int32))).toNatClampNeg 0) &&& (255 : Int32))), .unset] [])) (fun t k => ?_) ?_
                    · show Steps p.tables e below (s₁.setTop (mkF m 186 #[.val (.ref a0), .val (.int p1), .val (.int ((bs.getD (p1).toNatClampNeg 0) &&& (255 : Int32))), .val (.int (3 : Int32)), .val (.int (128 : Int32)), .val (.int (191 : Int32)), .val (.int ((bs.getD ((p1 + (1 : Int32))).toNatClampNeg 0) &&& (255 : Int32))), .unset] [(.int (191 : Int32)), (.int ((bs.getD ((p1 + (1 : Int32))).toNatClampNeg 0) &&& (255 : Int32)))])) _
                      refine XS.icmpNo X0.here hx rfl (hb hby d5_186) rfl (tlt hc186).2.2.2 ?_
                      exact k
                    refine own_go (B := s₁.setTop (mkF m 190 #[.val (.ref a0), .val (.int p1), .val (.int ((bs.getD (p1).toNatClampNeg 0) &&& (255 : Int32))), .val (.int (3 : Int32)), .val (.int (128 : Int32)), .val (.int (191 : Int32)), .val (.int ((bs.getD ((p1 + (1 : Int32))).toNatClampNeg 0) &&& (255 : Int32))), .unset] [(.int (0 : Int32))])) (fun t k => ?_) ?_
                    · show Steps p.tables e below (s₁.setTop (mkF m 189 #[.val (.ref a0), .val (.int p1), .val (.int ((bs.getD (p1).toNatClampNeg 0) &&& (255 : Int32))), .val (.int (3 : Int32)), .val (.int (128 : Int32)), .val (.int (191 : Int32)), .val (.int ((bs.getD ((p1 + (1 : Int32))).toNatClampNeg 0) &&& (255 : Int32))), .unset] [])) _
                      refine XS.iconst X0.here hx rfl (hb hby d5_189) ?_
                      exact k
                    obtain ⟨fs, hr, hrun, hended, hW, hsame⟩ := X0.leave (v := some (.int (0 : Int32))) (fun h => by rw [Bd.returns] at h; cases h)
                    refine ⟨_, _, ?_, hrun, hended, _, _, rfl, ?_, ⟨_, rfl⟩, hW, hsame.mono (by decide) (by decide)⟩
                    · show Steps p.tables e below (s₁.setTop (mkF m 190 #[.val (.ref a0), .val (.int p1), .val (.int ((bs.getD (p1).toNatClampNeg 0) &&& (255 : Int32))), .val (.int (3 : Int32)), .val (.int (128 : Int32)), .val (.int (191 : Int32)), .val (.int ((bs.getD ((p1 + (1 : Int32))).toNatClampNeg 0) &&& (255 : Int32))), .unset] [(.int (0 : Int32))])) _
                      exact retI X0 hx Bd.returns (hb hby d5_190) hr
                    · show Q5 Z a0 p1 kk z bs h0 n0 _ s₁.heap _
                      rw [e0]
                      exact ⟨by simp only [own_seq, if_pos hpz, if_pos hz, if_neg hc12, if_neg hc31, if_pos hc38, if_neg hc57, if_neg hc66, if_neg hc83, if_neg hc159, if_neg hc179, if_pos hc186], N0, rfl⟩
                  · refine own_go (B := s₁.setTop (mkF m 191 #[.val (.ref a0), .val (.int p1), .val (.int ((bs.getD (p1).toNatClampNeg 0) &&& (255 : Int32))), .val (.int (3 : Int32)), .val (.int (128 : Int32)), .val (.int (191 : Int32)), .val (.int ((bs.getD ((p1 + (1 : Int32))).toNatClampNeg 0) &&& (255 : Int32))), .unset] [])) (fun t k => ?_) ?_
                    · show Steps p.tables e below (s₁.setTop (mkF m 186 #[.val (.ref a0), .val (.int p1), .val (.int ((bs.getD (p1).toNatClampNeg 0) &&& (255 : Int32))), .val (.int (3 : Int32)), .val (.int (128 : Int32)), .val (.int (191 : Int32)), .val (.int ((bs.getD ((p1 + (1 : Int32))).toNatClampNeg 0) &&& (255 : Int32))), .unset] [(.int (191 : Int32)), (.int ((bs.getD ((p1 + (1 : Int32))).toNatClampNeg 0) &&& (255 : Int32)))])) _
                      refine XS.icmpYes X0.here hx rfl (pc0 := 186) (pc' := 191) rfl (hb hby d5_186) rfl (flt hc186).2.2.2 (by decide) (by decide) ?_
                      exact k
                    refine own_go (B := s₁.setTop (mkF m 201 #[.val (.ref a0), .val (.int p1), .val (.int ((bs.getD (p1).toNatClampNeg 0) &&& (255 : Int32))), .val (.int (3 : Int32)), .val (.int (128 : Int32)), .val (.int (191 : Int32)), .val (.int ((bs.getD ((p1 + (1 : Int32))).toNatClampNeg 0) &&& (255 : Int32))), .val (.int (p1 + (2 : Int32)))] [(.int (p1 + (3 : Int32))), (.int (p1 + (2 : Int32)))])) (fun t k => ?_) ?_
                    · show Steps p.tables e below (s₁.setTop (mkF m 191 #[.val (.ref a0), .val (.int p1), .val (.int ((bs.getD (p1).toNatClampNeg 0) &&& (255 : Int32))), .val (.int (3 : Int32)), .val (.int (128 : Int32)), .val (.int (191 : Int32)), .val (.int ((bs.getD ((p1 + (1 : Int32))).toNatClampNeg 0) &&& (255 : Int32))), .unset] [])) _
                      refine XS.iloadN X0.here hx rfl (hb hby d5_191) rfl ?_
                      show Steps p.tables e below (s₁.setTop (mkF m 192 #[.val (.ref a0), .val (.int p1), .val (.int ((bs.getD (p1).toNatClampNeg 0) &&& (255 : Int32))), .val (.int (3 : Int32)), .val (.int (128 : Int32)), .val (.int (191 : Int32)), .val (.int ((bs.getD ((p1 + (1 : Int32))).toNatClampNeg 0) &&& (255 : Int32))), .unset] [(.int p1)])) _
                      refine XS.iconst X0.here hx rfl (hb hby d5_192) ?_
                      show Steps p.tables e below (s₁.setTop (mkF m 193 #[.val (.ref a0), .val (.int p1), .val (.int ((bs.getD (p1).toNatClampNeg 0) &&& (255 : Int32))), .val (.int (3 : Int32)), .val (.int (128 : Int32)), .val (.int (191 : Int32)), .val (.int ((bs.getD ((p1 + (1 : Int32))).toNatClampNeg 0) &&& (255 : Int32))), .unset] [(.int (2 : Int32)), (.int p1)])) _
                      refine XS.iadd X0.here hx rfl (hb hby d5_193) rfl ?_
                      show Steps p.tables e below (s₁.setTop (mkF m 194 #[.val (.ref a0), .val (.int p1), .val (.int ((bs.getD (p1).toNatClampNeg 0) &&& (255 : Int32))), .val (.int (3 : Int32)), .val (.int (128 : Int32)), .val (.int (191 : Int32)), .val (.int ((bs.getD ((p1 + (1 : Int32))).toNatClampNeg 0) &&& (255 : Int32))), .unset] [(.int (p1 + (2 : Int32)))])) _
                      refine XS.istore X0.here hx rfl (hb hby d5_194) rfl (l' := #[.val (.ref a0), .val (.int p1), .val (.int ((bs.getD (p1).toNatClampNeg 0) &&& (255 : Int32))), .val (.int (3 : Int32)), .val (.int (128 : Int32)), .val (.int (191 : Int32)), .val (.int ((bs.getD ((p1 + (1 : Int32))).toNatClampNeg 0) &&& (255 : Int32))), .val (.int (p1 + (2 : Int32)))]) rfl ?_
                      show Steps p.tables e below (s₁.setTop (mkF m 196 #[.val (.ref a0), .val (.int p1), .val (.int ((bs.getD (p1).toNatClampNeg 0) &&& (255 : Int32))), .val (.int (3 : Int32)), .val (.int (128 : Int32)), .val (.int (191 : Int32)), .val (.int ((bs.getD ((p1 + (1 : Int32))).toNatClampNeg 0) &&& (255 : Int32))), .val (.int (p1 + (2 : Int32)))] [])) _
                      refine XS.iload X0.here hx rfl (hb hby d5_196) rfl ?_
                      show Steps p.tables e below (s₁.setTop (mkF m 198 #[.val (.ref a0), .val (.int p1), .val (.int ((bs.getD (p1).toNatClampNeg 0) &&& (255 : Int32))), .val (.int (3 : Int32)), .val (.int (128 : Int32)), .val (.int (191 : Int32)), .val (.int ((bs.getD ((p1 + (1 : Int32))).toNatClampNeg 0) &&& (255 : Int32))), .val (.int (p1 + (2 : Int32)))] [(.int (p1 + (2 : Int32)))])) _
                      refine XS.iloadN X0.here hx rfl (hb hby d5_198) rfl ?_
                      show Steps p.tables e below (s₁.setTop (mkF m 199 #[.val (.ref a0), .val (.int p1), .val (.int ((bs.getD (p1).toNatClampNeg 0) &&& (255 : Int32))), .val (.int (3 : Int32)), .val (.int (128 : Int32)), .val (.int (191 : Int32)), .val (.int ((bs.getD ((p1 + (1 : Int32))).toNatClampNeg 0) &&& (255 : Int32))), .val (.int (p1 + (2 : Int32)))] [(.int p1), (.int (p1 + (2 : Int32)))])) _
                      refine XS.iloadN X0.here hx rfl (hb hby d5_199) rfl ?_
                      show Steps p.tables e below (s₁.setTop (mkF m 200 #[.val (.ref a0), .val (.int p1), .val (.int ((bs.getD (p1).toNatClampNeg 0) &&& (255 : Int32))), .val (.int (3 : Int32)), .val (.int (128 : Int32)), .val (.int (191 : Int32)), .val (.int ((bs.getD ((p1 + (1 : Int32))).toNatClampNeg 0) &&& (255 : Int32))), .val (.int (p1 + (2 : Int32)))] [(.int (3 : Int32)), (.int p1), (.int (p1 + (2 : Int32)))])) _
                      refine XS.iadd X0.here hx rfl (hb hby d5_200) rfl ?_
                      exact k
                    refine own_go (B := s₁.setTop (mkF m 204 #[.val (.ref a0), .val (.int p1), .val (.int ((bs.getD (p1).toNatClampNeg 0) &&& (255 : Int32))), .val (.int (3 : Int32)), .val (.int (128 : Int32)), .val (.int (191 : Int32)), .val (.int ((bs.getD ((p1 + (1 : Int32))).toNatClampNeg 0) &&& (255 : Int32))), .val (.int (p1 + (2 : Int32)))] [])) (fun t k => ?_) ?_
                    · show Steps p.tables e below (s₁.setTop (mkF m 201 #[.val (.ref a0), .val (.int p1), .val (.int ((bs.getD (p1).toNatClampNeg 0) &&& (255 : Int32))), .val (.int (3 : Int32)), .val (.int (128 : Int32)), .val (.int (191 : Int32)), .val (.int ((bs.getD ((p1 + (1 : Int32))).toNatClampNeg 0) &&& (255 : Int32))), .val (.int (p1 + (2 : Int32)))] [(.int (p1 + (3 : Int32))), (.int (p1 + (2 : Int32)))])) _
                      refine XS.icmpNo X0.here hx rfl (hb hby d5_201) rfl (tlt (own_ltp p1 z 2 3 hp hpz hz (by decide))).2.1 ?_
                      exact k
                    refine own_go (B := s₁.setTop (mkF m 207 #[.val (.ref a0), .val (.int p1), .val (.int ((bs.getD (p1).toNatClampNeg 0) &&& (255 : Int32))), .val (.int (3 : Int32)), .val (.int (128 : Int32)), .val (.int (191 : Int32)), .val (.int ((bs.getD ((p1 + (1 : Int32))).toNatClampNeg 0) &&& (255 : Int32))), .val (.int (p1 + (2 : Int32)))] [(.int (p1 + (2 : Int32))), (.ref a0)])) (fun t k => ?_) ?_
                    · show Steps p.tables e below (s₁.setTop (mkF m 204 #[.val (.ref a0), .val (.int p1), .val (.int ((bs.getD (p1).toNatClampNeg 0) &&& (255 : Int32))), .val (.int (3 : Int32)), .val (.int (128 : Int32)), .val (.int (191 : Int32)), .val (.int ((bs.getD ((p1 + (1 : Int32))).toNatClampNeg 0) &&& (255 : Int32))), .val (.int (p1 + (2 : Int32)))] [])) _
                      refine XS.aloadN X0.here hx rfl (hb hby d5_204) rfl rfl ?_
                      show Steps p.tables e below (s₁.setTop (mkF m 205 #[.val (.ref a0), .val (.int p1), .val (.int ((bs.getD (p1).toNatClampNeg 0) &&& (255 : Int32))), .val (.int (3 : Int32)), .val (.int (128 : Int32)), .val (.int (191 : Int32)), .val (.int ((bs.getD ((p1 + (1 : Int32))).toNatClampNeg 0) &&& (255 : Int32))), .val (.int (p1 + (2 : Int32)))] [(.ref a0)])) _
                      refine XS.iload X0.here hx rfl (hb hby d5_205) rfl ?_
                      exact k
                    obtain ⟨cl_22, Ar_22, q_22, S_22, M_22, H_22, G_22⟩ := id V0
                    have hin_22 : ¬ ((p1 + (2 : Int32)) < 0 ∨ cl_22.slots.size ≤ ((p1 + (2 : Int32))).toNatClampNeg) := inb_of S_22 (own_inb p1 z (2 : Int32) (3 : Int32) hp hpz hz hc159 (by decide))
                    have hat_22 : cl_22.slots[((p1 + (2 : Int32))).toNatClampNeg]? = some (.int (bs.getD ((p1 + (2 : Int32))).toNatClampNeg 0)) := H_22.at hin_22 (own_map bs _)
                    refine own_go (B := s₁.setTop (mkF m 208 #[.val (.ref a0), .val (.int p1), .val (.int ((bs.getD (p1).toNatClampNeg 0) &&& (255 : Int32))), .val (.int (3 : Int32)), .val (.int (128 : Int32)), .val (.int (191 : Int32)), .val (.int ((bs.getD ((p1 + (1 : Int32))).toNatClampNeg 0) &&& (255 : Int32))), .val (.int (p1 + (2 : Int32)))] [(.int (bs.getD ((p1 + (2 : Int32))).toNatClampNeg 0))])) (fun t k => X0.baloadBytes hx (j := (p1 + (2 : Int32))) (v := (.int (bs.getD ((p1 + (2 : Int32))).toNatClampNeg 0))) (by rw [(e0 : _ = _)]; exact Ar_22.1) (State.isArrayOf_alike hZ.alike Ar_22.2.1) Ar_22.2.2 hin_22 hat_22 (g := (mkF m 207 #[.val (.ref a0), .val (.int p1), .val (.int ((bs.getD (p1).toNatClampNeg 0) &&& (255 : Int32))), .val (.int (3 : Int32)), .val (.int (128 : Int32)), .val (.int (191 : Int32)), .val (.int ((bs.getD ((p1 + (1 : Int32))).toNatClampNeg 0) &&& (255 : Int32))), .val (.int (p1 + (2 : Int32)))] [(.int (p1 + (2 : Int32))), (.ref a0)])) rfl rfl (hb hby d5_207) t k) ?_
                    refine own_go (B := s₁.setTop (mkF m 215 #[.val (.ref a0), .val (.int p1), .val (.int ((bs.getD (p1).toNatClampNeg 0) &&& (255 : Int32))), .val (.int (3 : Int32)), .val (.int (128 : Int32)), .val (.int (191 : Int32)), .val (.int ((bs.getD ((p1 + (1 : Int32))).toNatClampNeg 0) &&& (255 : Int32))), .val (.int (p1 + (2 : Int32)))] [(.int (128 : Int32)), (.int ((bs.getD ((p1 + (2 : Int32))).toNatClampNeg 0) &&& (192 : Int32)))])) (fun t k => ?_) ?_
                    · show Steps p.tables e below (s₁.setTop (mkF m 208 #[.val (.ref a0), .val (.int p1), .val (.int ((bs.getD (p1).toNatClampNeg 0) &&& (255 : Int32))), .val (.int (3 : Int32)), .val (.int (128 : Int32)), .val (.int (191 : Int32)), .val (.int ((bs.getD ((p1 + (1 : Int32))).toNatClampNeg 0) &&& (255 : Int32))), .val (.int (p1 + (2 : Int32)))] [(.int (bs.getD ((p1 + (2 : Int32))).toNatClampNeg 0))])) _
                      refine XS.sipush X0.here hx rfl (hb hby d5_208) ?_
                      show Steps p.tables e below (s₁.setTop (mkF m 211 #[.val (.ref a0), .val (.int p1), .val (.int ((bs.getD (p1).toNatClampNeg 0) &&& (255 : Int32))), .val (.int (3 : Int32)), .val (.int (128 : Int32)), .val (.int (191 : Int32)), .val (.int ((bs.getD ((p1 + (1 : Int32))).toNatClampNeg 0) &&& (255 : Int32))), .val (.int (p1 + (2 : Int32)))] [(.int (192 : Int32)), (.int (bs.getD ((p1 + (2 : Int32))).toNatClampNeg 0))])) _
                      refine XS.iand X0.here hx rfl (hb hby d5_211) rfl ?_
                      show Steps p.tables e below (s₁.setTop (mkF m 212 #[.val (.ref a0), .val (.int p1), .val (.int ((bs.getD (p1).toNatClampNeg 0) &&& (255 : Int32))), .val (.int (3 : Int32)), .val (.int (128 : Int32)), .val (.int (191 : Int32)), .val (.int ((bs.getD ((p1 + (1 : Int32))).toNatClampNeg 0) &&& (255 : Int32))), .val (.int (p1 + (2 : Int32)))] [(.int ((bs.getD ((p1 + (2 : Int32))).toNatClampNeg 0) &&& (192 : Int32)))])) _
                      refine XS.sipush X0.here hx rfl (hb hby d5_212) ?_
                      exact k
                    by_cases hc215 : ((bs.getD ((p1 + (2 : Int32))).toNatClampNeg 0) &&& (192 : Int32)) = (128 : Int32)
                    · refine own_go (B := s₁.setTop (mkF m 220 #[.val (.ref a0), .val (.int p1), .val (.int ((bs.getD (p1).toNatClampNeg 0) &&& (255 : Int32))), .val (.int (3 : Int32)), .val (.int (128 : Int32)), .val (.int (191 : Int32)), .val (.int ((bs.getD ((p1 + (1 : Int32))).toNatClampNeg 0) &&& (255 : Int32))), .val (.int (p1 + (2 : Int32)))] [])) (fun t k => ?_) ?_
                      · show Steps p.tables e below (s₁.setTop (mkF m 215 #[.val (.ref a0), .val (.int p1), .val (.int ((bs.getD (p1).toNatClampNeg 0) &&& (255 : Int32))), .val (.int (3 : Int32)), .val (.int (128 : Int32)), .val (.int (191 : Int32)), .val (.int ((bs.getD ((p1 + (1 : Int32))).toNatClampNeg 0) &&& (255 : Int32))), .val (.int (p1 + (2 : Int32)))] [(.int (128 : Int32)), (.int ((bs.getD ((p1 + (2 : Int32))).toNatClampNeg 0) &&& (192 : Int32)))])) _
                        refine XS.icmpYes X0.here hx rfl (pc0 := 215) (pc' := 220) rfl (hb hby d5_215) rfl (teq hc215).1 (by decide) (by decide) ?_
                        exact k
                      refine own_go (B := s₁.setTop (mkF m 201 #[.val (.ref a0), .val (.int p1), .val (.int ((bs.getD (p1).toNatClampNeg 0) &&& (255 : Int32))), .val (.int (3 : Int32)), .val (.int (128 : Int32)), .val (.int (191 : Int32)), .val (.int ((bs.getD ((p1 + (1 : Int32))).toNatClampNeg 0) &&& (255 : Int32))), .val (.int (p1 + (3 : Int32)))] [(.int (p1 + (3 : Int32))), (.int (p1 + (3 : Int32)))])) (fun t k => ?_) ?_
                      · show Steps p.tables e below (s₁.setTop (mkF m 220 #[.val (.ref a0), .val (.int p1), .val (.int ((bs.getD (p1).toNatClampNeg 0) &&& (255 : Int32))), .val (.int (3 : Int32)), .val (.int (128 : Int32)), .val (.int (191 : Int32)), .val (.int ((bs.getD ((p1 + (1 : Int32))).toNatClampNeg 0) &&& (255 : Int32))), .val (.int (p1 + (2 : Int32)))] [])) _
                        refine XS.iinc X0.here hx rfl (hb hby d5_220) rfl (l' := #[.val (.ref a0), .val (.int p1), .val (.int ((bs.getD (p1).toNatClampNeg 0) &&& (255 : Int32))), .val (.int (3 : Int32)), .val (.int (128 : Int32)), .val (.int (191 : Int32)), .val (.int ((bs.getD ((p1 + (1 : Int32))).toNatClampNeg 0) &&& (255 : Int32))), .val (.int (p1 + (3 : Int32)))]) (by rw [show p1 + (3 : Int32) = (p1 + (2 : Int32)) + (1 : Int32) from by rw [Int32.add_assoc]; rfl]; rfl) ?_
                        show Steps p.tables e below (s₁.setTop (mkF m 223 #[.val (.ref a0), .val (.int p1), .val (.int ((bs.getD (p1).toNatClampNeg 0) &&& (255 : Int32))), .val (.int (3 : Int32)), .val (.int (128 : Int32)), .val (.int (191 : Int32)), .val (.int ((bs.getD ((p1 + (1 : Int32))).toNatClampNeg 0) &&& (255 : Int32))), .val (.int (p1 + (3 : Int32)))] [])) _
                        refine XS.goto X0.here hx rfl (pc0 := 223) (pc' := 196) rfl (hb hby d5_223) (by decide) (by decide) ?_
                        show Steps p.tables e below (s₁.setTop (mkF m 196 #[.val (.ref a0), .val (.int p1), .val (.int ((bs.getD (p1).toNatClampNeg 0) &&& (255 : Int32))), .val (.int (3 : Int32)), .val (.int (128 : Int32)), .val (.int (191 : Int32)), .val (.int ((bs.getD ((p1 + (1 : Int32))).toNatClampNeg 0) &&& (255 : Int32))), .val (.int (p1 + (3 : Int32)))] [])) _
                        refine XS.iload X0.here hx rfl (hb hby d5_196) rfl ?_
                        show Steps p.tables e below (s₁.setTop (mkF m 198 #[.val (.ref a0), .val (.int p1), .val (.int ((bs.getD (p1).toNatClampNeg 0) &&& (255 : Int32))), .val (.int (3 : Int32)), .val (.int (128 : Int32)), .val (.int (191 : Int32)), .val (.int ((bs.getD ((p1 + (1 : Int32))).toNatClampNeg 0) &&& (255 : Int32))), .val (.int (p1 + (3 : Int32)))] [(.int (p1 + (3 : Int32)))])) _
                        refine XS.iloadN X0.here hx rfl (hb hby d5_198) rfl ?_
                        show Steps p.tables e below (s₁.setTop (mkF m 199 #[.val (.ref a0), .val (.int p1), .val (.int ((bs.getD (p1).toNatClampNeg 0) &&& (255 : Int32))), .val (.int (3 : Int32)), .val (.int (128 : Int32)), .val (.int (191 : Int32)), .val (.int ((bs.getD ((p1 + (1 : Int32))).toNatClampNeg 0) &&& (255 : Int32))), .val (.int (p1 + (3 : Int32)))] [(.int p1), (.int (p1 + (3 : Int32)))])) _
                        refine XS.iloadN X0.here hx rfl (hb hby d5_199) rfl ?_
                        show Steps p.tables e below (s₁.setTop (mkF m 200 #[.val (.ref a0), .val (.int p1), .val (.int ((bs.getD (p1).toNatClampNeg 0) &&& (255 : Int32))), .val (.int (3 : Int32)), .val (.int (128 : Int32)), .val (.int (191 : Int32)), .val (.int ((bs.getD ((p1 + (1 : Int32))).toNatClampNeg 0) &&& (255 : Int32))), .val (.int (p1 + (3 : Int32)))] [(.int (3 : Int32)), (.int p1), (.int (p1 + (3 : Int32)))])) _
                        refine XS.iadd X0.here hx rfl (hb hby d5_200) rfl ?_
                        exact k
                      refine own_go (B := s₁.setTop (mkF m 226 #[.val (.ref a0), .val (.int p1), .val (.int ((bs.getD (p1).toNatClampNeg 0) &&& (255 : Int32))), .val (.int (3 : Int32)), .val (.int (128 : Int32)), .val (.int (191 : Int32)), .val (.int ((bs.getD ((p1 + (1 : Int32))).toNatClampNeg 0) &&& (255 : Int32))), .val (.int (p1 + (3 : Int32)))] [])) (fun t k => ?_) ?_
                      · show Steps p.tables e below (s₁.setTop (mkF m 201 #[.val (.ref a0), .val (.int p1), .val (.int ((bs.getD (p1).toNatClampNeg 0) &&& (255 : Int32))), .val (.int (3 : Int32)), .val (.int (128 : Int32)), .val (.int (191 : Int32)), .val (.int ((bs.getD ((p1 + (1 : Int32))).toNatClampNeg 0) &&& (255 : Int32))), .val (.int (p1 + (3 : Int32)))] [(.int (p1 + (3 : Int32))), (.int (p1 + (3 : Int32)))])) _
                        refine XS.icmpYes X0.here hx rfl (pc0 := 201) (pc' := 226) rfl (hb hby d5_201) rfl (flt Int32.lt_irrefl).2.1 (by decide) (by decide) ?_
                        exact k
                      refine own_go (B := s₁.setTop (mkF m 227 #[.val (.ref a0), .val (.int p1), .val (.int ((bs.getD (p1).toNatClampNeg 0) &&& (255 : Int32))), .val (.int (3 : Int32)), .val (.int (128 : Int32)), .val (.int (191 : Int32)), .val (.int ((bs.getD ((p1 + (1 : Int32))).toNatClampNeg 0) &&& (255 : Int32))), .val (.int (p1 + (3 : Int32)))] [(.int (3 : Int32))])) (fun t k => ?_) ?_
                      · show Steps p.tables e below (s₁.setTop (mkF m 226 #[.val (.ref a0), .val (.int p1), .val (.int ((bs.getD (p1).toNatClampNeg 0) &&& (255 : Int32))), .val (.int (3 : Int32)), .val (.int (128 : Int32)), .val (.int (191 : Int32)), .val (.int ((bs.getD ((p1 + (1 : Int32))).toNatClampNeg 0) &&& (255 : Int32))), .val (.int (p1 + (3 : Int32)))] [])) _
                        refine XS.iloadN X0.here hx rfl (hb hby d5_226) rfl ?_
                        exact k
                      obtain ⟨fs, hr, hrun, hended, hW, hsame⟩ := X0.leave (v := some (.int (3 : Int32))) (fun h => by rw [Bd.returns] at h; cases h)
                      refine ⟨_, _, ?_, hrun, hended, _, _, rfl, ?_, ⟨_, rfl⟩, hW, hsame.mono (by decide) (by decide)⟩
                      · show Steps p.tables e below (s₁.setTop (mkF m 227 #[.val (.ref a0), .val (.int p1), .val (.int ((bs.getD (p1).toNatClampNeg 0) &&& (255 : Int32))), .val (.int (3 : Int32)), .val (.int (128 : Int32)), .val (.int (191 : Int32)), .val (.int ((bs.getD ((p1 + (1 : Int32))).toNatClampNeg 0) &&& (255 : Int32))), .val (.int (p1 + (3 : Int32)))] [(.int (3 : Int32))])) _
                        exact retI X0 hx Bd.returns (hb hby d5_227) hr
                      · show Q5 Z a0 p1 kk z bs h0 n0 _ s₁.heap _
                        rw [e0]
                        exact ⟨by simp only [own_seq, if_pos hpz, if_pos hz, if_neg hc12, if_neg hc31, if_pos hc38, if_neg hc57, if_neg hc66, if_neg hc83, if_neg hc159, if_neg hc179, if_neg hc186, if_pos hc215], N0, rfl⟩
                    · refine own_go (B := s₁.setTop (mkF m 218 #[.val (.ref a0), .val (.int p1), .val (.int ((bs.getD (p1).toNatClampNeg 0) &&& (255 : Int32))), .val (.int (3 : Int32)), .val (.int (128 : Int32)), .val (.int (191 : Int32)), .val (.int ((bs.getD ((p1 + (1 : Int32))).toNatClampNeg 0) &&& (255 : Int32))), .val (.int (p1 + (2 : Int32)))] [])) (fun t k => ?_) ?_
                      · show Steps p.tables e below (s₁.setTop (mkF m 215 #[.val (.ref a0), .val (.int p1), .val (.int ((bs.getD (p1).toNatClampNeg 0) &&& (255 : Int32))), .val (.int (3 : Int32)), .val (.int (128 : Int32)), .val (.int (191 : Int32)), .val (.int ((bs.getD ((p1 + (1 : Int32))).toNatClampNeg 0) &&& (255 : Int32))), .val (.int (p1 + (2 : Int32)))] [(.int (128 : Int32)), (.int ((bs.getD ((p1 + (2 : Int32))).toNatClampNeg 0) &&& (192 : Int32)))])) _
                        refine XS.icmpNo X0.here hx rfl (hb hby d5_215) rfl (feq hc215).1 ?_
                        exact k
                      refine own_go (B := s₁.setTop (mkF m 219 #[.val (.ref a0), .val (.int p1), .val (.int ((bs.getD (p1).toNatClampNeg 0) &&& (255 : Int32))), .val (.int (3 : Int32)), .val (.int (128 : Int32)), .val (.int (191 : Int32)), .val (.int ((bs.getD ((p1 + (1 : Int32))).toNatClampNeg 0) &&& (255 : Int32))), .val (.int (p1 + (2 : Int32)))] [(.int (0 : Int32))])) (fun t k => ?_) ?_
                      · show Steps p.tables e below (s₁.setTop (mkF m 218 #[.val (.ref a0), .val (.int p1), .val (.int ((bs.getD (p1).toNatClampNeg 0) &&& (255 : Int32))), .val (.int (3 : Int32)), .val (.int (128 : Int32)), .val (.int (191 : Int32)), .val (.int ((bs.getD ((p1 + (1 : Int32))).toNatClampNeg 0) &&& (255 : Int32))), .val (.int (p1 + (2 : Int32)))] [])) _
                        refine XS.iconst X0.here hx rfl (hb hby d5_218) ?_
                        exact k
                      obtain ⟨fs, hr, hrun, hended, hW, hsame⟩ := X0.leave (v := some (.int (0 : Int32))) (fun h => by rw [Bd.returns] at h; cases h)
                      refine ⟨_, _, ?_, hrun, hended, _, _, rfl, ?_, ⟨_, rfl⟩, hW, hsame.mono (by decide) (by decide)⟩
                      · show Steps p.tables e below (s₁.setTop (mkF m 219 #[.val (.ref a0), .val (.int p1), .val (.int ((bs.getD (p1).toNatClampNeg 0) &&& (255 : Int32))), .val (.int (3 : Int32)), .val (.int (128 : Int32)), .val (.int (191 : Int32)), .val (.int ((bs.getD ((p1 + (1 : Int32))).toNatClampNeg 0) &&& (255 : Int32))), .val (.int (p1 + (2 : Int32)))] [(.int (0 : Int32))])) _
                        exact retI X0 hx Bd.returns (hb hby d5_219) hr
                      · show Q5 Z a0 p1 kk z bs h0 n0 _ s₁.heap _
                        rw [e0]
                        exact ⟨by simp only [own_seq, if_pos hpz, if_pos hz, if_neg hc12, if_neg hc31, if_pos hc38, if_neg hc57, if_neg hc66, if_neg hc83, if_neg hc159, if_neg hc179, if_neg hc186, if_neg hc215], N0, rfl⟩
      · refine own_go (B := s₁.setTop (mkF m 41 #[.val (.ref a0), .val (.int p1), .val (.int ((bs.getD (p1).toNatClampNeg 0) &&& (255 : Int32))), .unset, .val (.int (128 : Int32)), .val (.int (191 : Int32)), .unset, .unset] [])) (fun t k => ?_) ?_
        · show Steps p.tables e below (s₁.setTop (mkF m 38 #[.val (.ref a0), .val (.int p1), .val (.int ((bs.getD (p1).toNatClampNeg 0) &&& (255 : Int32))), .unset, .val (.int (128 : Int32)), .val (.int (191 : Int32)), .unset, .unset] [(.int (223 : Int32)), (.int ((bs.getD (p1).toNatClampNeg 0) &&& (255 : Int32)))])) _
          refine XS.icmpNo X0.here hx rfl (hb hby d5_38) rfl (flt hc38).2.2.1 ?_
          exact k
        refine own_go (B := s₁.setTop (mkF m 158 #[.val (.ref a0), .val (.int p1), .val (.int ((bs.getD (p1).toNatClampNeg 0) &&& (255 : Int32))), .val (.int (2 : Int32)), .val (.int (128 : Int32)), .val (.int (191 : Int32)), .unset, .unset] [(.ref a0), (.int (p1 + (2 : Int32)))])) (fun t k => ?_) ?_
        · show Steps p.tables e below (s₁.setTop (mkF m 41 #[.val (.ref a0), .val (.int p1), .val (.int ((bs.getD (p1).toNatClampNeg 0) &&& (255 : Int32))), .unset, .val (.int (128 : Int32)), .val (.int (191 : Int32)), .unset, .unset] [])) _
          refine XS.iconst X0.here hx rfl (hb hby d5_41) ?_
          show Steps p.tables e below (s₁.setTop (mkF m 42 #[.val (.ref a0), .val (.int p1), .val (.int ((bs.getD (p1).toNatClampNeg 0) &&& (255 : Int32))), .unset, .val (.int (128 : Int32)), .val (.int (191 : Int32)), .unset, .unset] [(.int (2 : Int32))])) _
          refine XS.istoreN X0.here hx rfl (hb hby d5_42) rfl (l' := #[.val (.ref a0), .val (.int p1), .val (.int ((bs.getD (p1).toNatClampNeg 0) &&& (255 : Int32))), .val (.int (2 : Int32)), .val (.int (128 : Int32)), .val (.int (191 : Int32)), .unset, .unset]) rfl ?_
          show Steps p.tables e below (s₁.setTop (mkF m 43 #[.val (.ref a0), .val (.int p1), .val (.int ((bs.getD (p1).toNatClampNeg 0) &&& (255 : Int32))), .val (.int (2 : Int32)), .val (.int (128 : Int32)), .val (.int (191 : Int32)), .unset, .unset] [])) _
          refine XS.goto X0.here hx rfl (pc0 := 43) (pc' := 154) rfl (hb hby d5_43) (by decide) (by decide) ?_
          show Steps p.tables e below (s₁.setTop (mkF m 154 #[.val (.ref a0), .val (.int p1), .val (.int ((bs.getD (p1).toNatClampNeg 0) &&& (255 : Int32))), .val (.int (2 : Int32)), .val (.int (128 : Int32)), .val (.int (191 : Int32)), .unset, .unset] [])) _
          refine XS.iloadN X0.here hx rfl (hb hby d5_154) rfl ?_
          show Steps p.tables e below (s₁.setTop (mkF m 155 #[.val (.ref a0), .val (.int p1), .val (.int ((bs.getD (p1).toNatClampNeg 0) &&& (255 : Int32))), .val (.int (2 : Int32)), .val (.int (128 : Int32)), .val (.int (191 : Int32)), .unset, .unset] [(.int p1)])) _
          refine XS.iloadN X0.here hx rfl (hb hby d5_155) rfl ?_
          show Steps p.tables e below (s₁.setTop (mkF m 156 #[.val (.ref a0), .val (.int p1), .val (.int ((bs.getD (p1).toNatClampNeg 0) &&& (255 : Int32))), .val (.int (2 : Int32)), .val (.int (128 : Int32)), .val (.int (191 : Int32)), .unset, .unset] [(.int (2 : Int32)), (.int p1)])) _
          refine XS.iadd X0.here hx rfl (hb hby d5_156) rfl ?_
          show Steps p.tables e below (s₁.setTop (mkF m 157 #[.val (.ref a0), .val (.int p1), .val (.int ((bs.getD (p1).toNatClampNeg 0) &&& (255 : Int32))), .val (.int (2 : Int32)), .val (.int (128 : Int32)), .val (.int (191 : Int32)), .unset, .unset] [(.int (p1 + (2 : Int32)))])) _
          refine XS.aloadN X0.here hx rfl (hb hby d5_157) rfl rfl ?_
          exact k
        obtain ⟨cl_23, Ar_23, -, S_23, M_23, -, -⟩ := id V0
        refine own_go (B := s₁.setTop (mkF m 159 #[.val (.ref a0), .val (.int p1), .val (.int ((bs.getD (p1).toNatClampNeg 0) &&& (255 : Int32))), .val (.int (2 : Int32)), .val (.int (128 : Int32)), .val (.int (191 : Int32)), .unset, .unset] [(.int z), (.int (p1 + (2 : Int32)))])) (fun t k => X0.arraylength hx (by rw [(e0 : _ = _)]; exact Ar_23.1) (State.isArrayOf_alike hZ.alike Ar_23.2.1) (g := (mkF m 158 #[.val (.ref a0), .val (.int p1), .val (.int ((bs.getD (p1).toNatClampNeg 0) &&& (255 : Int32))), .val (.int (2 : Int32)), .val (.int (128 : Int32)), .val (.int (191 : Int32)), .unset, .unset] [(.ref a0), (.int (p1 + (2 : Int32)))])) rfl rfl (hb hby d5_158) t (by rw [len_of S_23 M_23]; exact k)) ?_
        by_cases hc159 : z < (p1 + (2 : Int32))
        · refine own_go (B := s₁.setTop (mkF m 162 #[.val (.ref a0), .val (.int p1), .val (.int ((bs.getD (p1).toNatClampNeg 0) &&& (255 : Int32))), .val (.int (2 : Int32)), .val (.int (128 : Int32)), .val (.int (191 : Int32)), .unset, .unset] [])) (fun t k => ?_) ?_
          · show Steps p.tables e below (s₁.setTop (mkF m 159 #[.val (.ref a0), .val (.int p1), .val (.int ((bs.getD (p1).toNatClampNeg 0) &&& (255 : Int32))), .val (.int (2 : Int32)), .val (.int (128 : Int32)), .val (.int (191 : Int32)), .unset, .unset] [(.int z), (.int (p1 + (2 : Int32)))])) _
            refine XS.icmpNo X0.here hx rfl (hb hby d5_159) rfl (tlt hc159).2.2.2 ?_
            exact k
          refine own_go (B := s₁.setTop (mkF m 163 #[.val (.ref a0), .val (.int p1), .val (.int ((bs.getD (p1).toNatClampNeg 0) &&& (255 : Int32))), .val (.int (2 : Int32)), .val (.int (128 : Int32)), .val (.int (191 : Int32)), .unset, .unset] [(.int (0 : Int32))])) (fun t k => ?_) ?_
          · show Steps p.tables e below (s₁.setTop (mkF m 162 #[.val (.ref a0), .val (.int p1), .val (.int ((bs.getD (p1).toNatClampNeg 0) &&& (255 : Int32))), .val (.int (2 : Int32)), .val (.int (128 : Int32)), .val (.int (191 : Int32)), .unset, .unset] [])) _
            refine XS.iconst X0.here hx rfl (hb hby d5_162) ?_
            exact k
          obtain ⟨fs, hr, hrun, hended, hW, hsame⟩ := X0.leave (v := some (.int (0 : Int32))) (fun h => by rw [Bd.returns] at h; cases h)
          refine ⟨_, _, ?_, hrun, hended, _, _, rfl, ?_, ⟨_, rfl⟩, hW, hsame.mono (by decide) (by decide)⟩
          · show Steps p.tables e below (s₁.setTop (mkF m 163 #[.val (.ref a0), .val (.int p1), .val (.int ((bs.getD (p1).toNatClampNeg 0) &&& (255 : Int32))), .val (.int (2 : Int32)), .val (.int (128 : Int32)), .val (.int (191 : Int32)), .unset, .unset] [(.int (0 : Int32))])) _
            exact retI X0 hx Bd.returns (hb hby d5_163) hr
          · show Q5 Z a0 p1 kk z bs h0 n0 _ s₁.heap _
            rw [e0]
            exact ⟨by simp only [own_seq, if_pos hpz, if_pos hz, if_neg hc12, if_neg hc31, if_neg hc38, if_pos hc159], N0, rfl⟩
        · refine own_go (B := s₁.setTop (mkF m 164 #[.val (.ref a0), .val (.int p1), .val (.int ((bs.getD (p1).toNatClampNeg 0) &&& (255 : Int32))), .val (.int (2 : Int32)), .val (.int (128 : Int32)), .val (.int (191 : Int32)), .unset, .unset] [])) (fun t k => ?_) ?_
          · show Steps p.tables e below (s₁.setTop (mkF m 159 #[.val (.ref a0), .val (.int p1), .val (.int ((bs.getD (p1).toNatClampNeg 0) &&& (255 : Int32))), .val (.int (2 : Int32)), .val (.int (128 : Int32)), .val (.int (191 : Int32)), .unset, .unset] [(.int z), (.int (p1 + (2 : Int32)))])) _
            refine XS.icmpYes X0.here hx rfl (pc0 := 159) (pc' := 164) rfl (hb hby d5_159) rfl (flt hc159).2.2.2 (by decide) (by decide) ?_
            exact k
          refine own_go (B := s₁.setTop (mkF m 168 #[.val (.ref a0), .val (.int p1), .val (.int ((bs.getD (p1).toNatClampNeg 0) &&& (255 : Int32))), .val (.int (2 : Int32)), .val (.int (128 : Int32)), .val (.int (191 : Int32)), .unset, .unset] [(.int (p1 + (1 : Int32))), (.ref a0)])) (fun t k => ?_) ?_
          · show Steps p.tables e below (s₁.setTop (mkF m 164 #[.val (.ref a0), .val (.int p1), .val (.int ((bs.getD (p1).toNatClampNeg 0) &&& (255 : Int32))), .val (.int (2 : Int32)), .val (.int (128 : Int32)), .val (.int (191 : Int32)), .unset, .unset] [])) _
            refine XS.aloadN X0.here hx rfl (hb hby d5_164) rfl rfl ?_
            show Steps p.tables e below (s₁.setTop (mkF m 165 #[.val (.ref a0), .val (.int p1), .val (.int ((bs.getD (p1).toNatClampNeg 0) &&& (255 : Int32))), .val (.int (2 : Int32)), .val (.int (128 : Int32)), .val (.int (191 : Int32)), .unset, .unset] [(.ref a0)])) _
            refine XS.iloadN X0.here hx rfl (hb hby d5_165) rfl ?_
            show Steps p.tables e below (s₁.setTop (mkF m 166 #[.val (.ref a0), .val (.int p1), .val (.int ((bs.getD (p1).toNatClampNeg 0) &&& (255 : Int32))), .val (.int (2 : Int32)), .val (.int (128 : Int32)), .val (.int (191 : Int32)), .unset, .unset] [(.int p1), (.ref a0)])) _
            refine XS.iconst X0.here hx rfl (hb hby d5_166) ?_
            show Steps p.tables e below (s₁.setTop (mkF m 167 #[.val (.ref a0), .val (.int p1), .val (.int ((bs.getD (p1).toNatClampNeg 0) &&& (255 : Int32))), .val (.int (2 : Int32)), .val (.int (128 : Int32)), .val (.int (191 : Int32)), .unset, .unset] [(.int (1 : Int32)), (.int p1), (.ref a0)])) _
            refine XS.iadd X0.here hx rfl (hb hby d5_167) rfl ?_
            exact k
          obtain ⟨cl_24, Ar_24, q_24, S_24, M_24, H_24, G_24⟩ := id V0
          have hin_24 : ¬ ((p1 + (1 : Int32)) < 0 ∨ cl_24.slots.size ≤ ((p1 + (1 : Int32))).toNatClampNeg) := inb_of S_24 (own_inb p1 z (1 : Int32) (2 : Int32) hp hpz hz hc159 (by decide))
          have hat_24 : cl_24.slots[((p1 + (1 : Int32))).toNatClampNeg]? = some (.int (bs.getD ((p1 + (1 : Int32))).toNatClampNeg 0)) := H_24.at hin_24 (own_map bs _)
          refine own_go (B := s₁.setTop (mkF m 169 #[.val (.ref a0), .val (.int p1), .val (.int ((bs.getD (p1).toNatClampNeg 0) &&& (255 : Int32))), .val (.int (2 : Int32)), .val (.int (128 : Int32)), .val (.int (191 : Int32)), .unset, .unset] [(.int (bs.getD ((p1 + (1 : Int32))).toNatClampNeg 0))])) (fun t k => X0.baloadBytes hx (j := (p1 + (1 : Int32))) (v := (.int (bs.getD ((p1 + (1 : Int32))).toNatClampNeg 0))) (by rw [(e0 : _ = _)]; exact Ar_24.1) (State.isArrayOf_alike hZ.alike Ar_24.2.1) Ar_24.2.2 hin_24 hat_24 (g := (mkF m 168 #[.val (.ref a0), .val (.int p1), .val (.int ((bs.getD (p1).toNatClampNeg 0) &&& (255 : Int32))), .val (.int (2 : Int32)), .val (.int (128 : Int32)), .val (.int (191 : Int32)), .unset, .unset] [(.int (p1 + (1 : Int32))), (.ref a0)])) rfl rfl (hb hby d5_168) t k) ?_
          refine own_go (B := s₁.setTop (mkF m 179 #[.val (.ref a0), .val (.int p1), .val (.int ((bs.getD (p1).toNatClampNeg 0) &&& (255 : Int32))), .val (.int (2 : Int32)), .val (.int (128 : Int32)), .val (.int (191 : Int32)), .val (.int ((bs.getD ((p1 + (1 : Int32))).toNatClampNeg 0) &&& (255 : Int32))), .unset] [(.int (128 : Int32)), (.int ((bs.getD ((p1 + (1 : Int32))).toNatClampNeg 0) &&& (255 : Int32)))])) (fun t k => ?_) ?_
          · show Steps p.tables e below (s₁.setTop (mkF m 169 #[.val (.ref a0), .val (.int p1), .val (.int ((bs.getD (p1).toNatClampNeg 0) &&& (255 : Int32))), .val (.int (2 : Int32)), .val (.int (128 : Int32)), .val (.int (191 : Int32)), .unset, .unset] [(.int (bs.getD ((p1 + (1 : Int32))).toNatClampNeg 0))])) _
            refine XS.sipush X0.here hx rfl (hb hby d5_169) ?_
            show Steps p.tables e below (s₁.setTop (mkF m 172 #[.val (.ref a0), .val (.int p1), .val (.int ((bs.getD (p1).toNatClampNeg 0) &&& (255 : Int32))), .val (.int (2 : Int32)), .val (.int (128 : Int32)), .val (.int (191 : Int32)), .unset, .unset] [(.int (255 : Int32)), (.int (bs.getD ((p1 + (1 : Int32))).toNatClampNeg 0))])) _
            refine XS.iand X0.here hx rfl (hb hby d5_172) rfl ?_
            show Steps p.tables e below (s₁.setTop (mkF m 173 #[.val (.ref a0), .val (.int p1), .val (.int ((bs.getD (p1).toNatClampNeg 0) &&& (255 : Int32))), .val (.int (2 : Int32)), .val (.int (128 : Int32)), .val (.int (191 : Int32)), .unset, .unset] [(.int ((bs.getD ((p1 + (1 : Int32))).toNatClampNeg 0) &&& (255 : Int32)))])) _
            refine XS.istore X0.here hx rfl (hb hby d5_173) rfl (l' := #[.val (.ref a0), .val (.int p1), .val (.int ((bs.getD (p1).toNatClampNeg 0) &&& (255 : Int32))), .val (.int (2 : Int32)), .val (.int (128 : Int32)), .val (.int (191 : Int32)), .val (.int ((bs.getD ((p1 + (1 : Int32))).toNatClampNeg 0) &&& (255 : Int32))), .unset]) rfl ?_
            show Steps p.tables e below (s₁.setTop (mkF m 175 #[.val (.ref a0), .val (.int p1), .val (.int ((bs.getD (p1).toNatClampNeg 0) &&& (255 : Int32))), .val (.int (2 : Int32)), .val (.int (128 : Int32)), .val (.int (191 : Int32)), .val (.int ((bs.getD ((p1 + (1 : Int32))).toNatClampNeg 0) &&& (255 : Int32))), .unset] [])) _
            refine XS.iload X0.here hx rfl (hb hby d5_175) rfl ?_
            show Steps p.tables e below (s₁.setTop (mkF m 177 #[.val (.ref a0), .val (.int p1), .val (.int ((bs.getD (p1).toNatClampNeg 0) &&& (255 : Int32))), .val (.int (2 : Int32)), .val (.int (128 : Int32)), .val (.int (191 : Int32)), .val (.int ((bs.getD ((p1 + (1 : Int32))).toNatClampNeg 0) &&& (255 : Int32))), .unset] [(.int ((bs.getD ((p1 + (1 : Int32))).toNatClampNeg 0) &&& (255 : Int32)))])) _
            refine XS.iload X0.here hx rfl (hb hby d5_177) rfl ?_
            exact k
          by_cases hc179 : ((bs.getD ((p1 + (1 : Int32))).toNatClampNeg 0) &&& (255 : Int32)) < (128 : Int32)
          · refine own_go (B := s₁.setTop (mkF m 189 #[.val (.ref a0), .val (.int p1), .val (.int ((bs.getD (p1).toNatClampNeg 0) &&& (255 : Int32))), .val (.int (2 : Int32)), .val (.int (128 : Int32)), .val (.int (191 : Int32)), .val (.int ((bs.getD ((p1 + (1 : Int32))).toNatClampNeg 0) &&& (255 : Int32))), .unset] [])) (fun t k => ?_) ?_
            · show Steps p.tables e below (s₁.setTop (mkF m 179 #[.val (.ref a0), .val (.int p1), .val (.int ((bs.getD (p1).toNatClampNeg 0) &&& (255 : Int32))), .val (.int (2 : Int32)), .val (.int (128 : Int32)), .val (.int (191 : Int32)), .val (.int ((bs.getD ((p1 + (1 : Int32))).toNatClampNeg 0) &&& (255 : Int32))), .unset] [(.int (128 : Int32)), (.int ((bs.getD ((p1 + (1 : Int32))).toNatClampNeg 0) &&& (255 : Int32)))])) _
              refine XS.icmpYes X0.here hx rfl (pc0 := 179) (pc' := 189) rfl (hb hby d5_179) rfl (tlt hc179).1 (by decide) (by decide) ?_
              exact k
            refine own_go (B := s₁.setTop (mkF m 190 #[.val (.ref a0), .val (.int p1), .val (.int ((bs.getD (p1).toNatClampNeg 0) &&& (255 : Int32))), .val (.int (2 : Int32)), .val (.int (128 : Int32)), .val (.int (191 : Int32)), .val (.int ((bs.getD ((p1 + (1 : Int32))).toNatClampNeg 0) &&& (255 : Int32))), .unset] [(.int (0 : Int32))])) (fun t k => ?_) ?_
            · show Steps p.tables e below (s₁.setTop (mkF m 189 #[.val (.ref a0), .val (.int p1), .val (.int ((bs.getD (p1).toNatClampNeg 0) &&& (255 : Int32))), .val (.int (2 : Int32)), .val (.int (128 : Int32)), .val (.int (191 : Int32)), .val (.int ((bs.getD ((p1 + (1 : Int32))).toNatClampNeg 0) &&& (255 : Int32))), .unset] [])) _
              refine XS.iconst X0.here hx rfl (hb hby d5_189) ?_
              exact k
            obtain ⟨fs, hr, hrun, hended, hW, hsame⟩ := X0.leave (v := some (.int (0 : Int32))) (fun h => by rw [Bd.returns] at h; cases h)
            refine ⟨_, _, ?_, hrun, hended, _, _, rfl, ?_, ⟨_, rfl⟩, hW, hsame.mono (by decide) (by decide)⟩
            · show Steps p.tables e below (s₁.setTop (mkF m 190 #[.val (.ref a0), .val (.int p1), .val (.int ((bs.getD (p1).toNatClampNeg 0) &&& (255 : Int32))), .val (.int (2 : Int32)), .val (.int (128 : Int32)), .val (.int (191 : Int32)), .val (.int ((bs.getD ((p1 + (1 : Int32))).toNatClampNeg 0) &&& (255 : Int32))), .unset] [(.int (0 : Int32))])) _
              exact retI X0 hx Bd.returns (hb hby d5_190) hr
            · show Q5 Z a0 p1 kk z bs h0 n0 _ s₁.heap _
              rw [e0]
              exact ⟨by simp only [own_seq, if_pos hpz, if_pos hz, if_neg hc12, if_neg hc31, if_neg hc38, if_neg hc159, if_pos hc179], N0, rfl⟩
          · refine own_go (B := s₁.setTop (mkF m 182 #[.val (.ref a0), .val (.int p1), .val (.int ((bs.getD (p1).toNatClampNeg 0) &&& (255 : Int32))), .val (.int (2 : Int32)), .val (.int (128 : Int32)), .val (.int (191 : Int32)), .val (.int ((bs.getD ((p1 + (1 : Int32))).toNatClampNeg 0) &&& (255 : Int32))), .unset] [])) (fun t k => ?_) ?_
            · show Steps p.tables e below (s₁.setTop (mkF m 179 #[.val (.ref a0), .val (.int p1), .val (.int ((bs.getD (p1).toNatClampNeg 0) &&& (255 : Int32))), .val (.int (2 : Int32)), .val (.int (128 : Int32)), .val (.int (191 : Int32)), .val (.int ((bs.getD ((p1 + (1 : Int32))).toNatClampNeg 0) &&& (255 : Int32))), .unset] [(.int (128 : Int32)), (.int ((bs.getD ((p1 + (1 : Int32))).toNatClampNeg 0) &&& (255 : Int32)))])) _
              refine XS.icmpNo X0.here hx rfl (hb hby d5_179) rfl (flt hc179).1 ?_
              exact k
            refine own_go (B := s₁.setTop (mkF m 186 #[.val (.ref a0), .val (.int p1), .val (.int ((bs.getD (p1).toNatClampNeg 0) &&& (255 : Int32))), .val (.int (2 : Int32)), .val (.int (128 : Int32)), .val (.int (191 : Int32)), .val (.int ((bs.getD ((p1 + (1 : Int32))).toNatClampNeg 0) &&& (255 : Int32))), .unset] [(.int (191 : Int32)), (.int ((bs.getD ((p1 + (1 : Int32))).toNatClampNeg 0) &&& (255 : Int32)))])) (fun t k => ?_) ?_
            · show Steps p.tables e below (s₁.setTop (mkF m 182 #[.val (.ref a0), .val (.int p1), .val (.int ((bs.getD (p1).toNatClampNeg 0) &&& (255 : Int32))), .val (.int (2 : Int32)), .val (.int (128 : Int32)), .val (.int (191 : Int32)), .val (.int ((bs.getD ((p1 + (1 : Int32))).toNatClampNeg 0) &&& (255 : Int32))), .unset] [])) _
              refine XS.iload X0.here hx rfl (hb hby d5_182) rfl ?_
              show Steps p.tables e below (s₁.setTop (mkF m 184 #[.val (.ref a0), .val (.int p1), .val (.int ((bs.getD (p1).toNatClampNeg 0) &&& (255 : Int32))), .val (.int (2 : Int32)), .val (.int (128 : Int32)), .val (.int (191 : Int32)), .val (.int ((bs.getD ((p1 + (1 : Int32))).toNatClampNeg 0) &&& (255 : Int32))), .unset] [(.int ((bs.getD ((p1 + (1 : Int32))).toNatClampNeg 0) &&& (255 : Int32)))])) _
              refine XS.iload X0.here hx rfl (hb hby d5_184) rfl ?_
              exact k
            by_cases hc186 : (191 : Int32) < ((bs.getD ((p1 + (1 : Int32))).toNatClampNeg 0) &&& (255 : Int32))
            · refine own_go (B := s₁.setTop (mkF m 189 #[.val (.ref a0), .val (.int p1), .val (.int ((bs.getD (p1).toNatClampNeg 0) &&& (255 : Int32))), .val (.int (2 : Int32)), .val (.int (128 : Int32)), .val (.int (191 : Int32)), .val (.int ((bs.getD ((p1 + (1 : Int32))).toNatClampNeg 0) &&& (255 : Int32))), .unset] [])) (fun t k => ?_) ?_
              · show Steps p.tables e below (s₁.setTop (mkF m 186 #[.val (.ref a0), .val (.int p1), .val (.int ((bs.getD (p1).toNatClampNeg 0) &&& (255 : Int32))), .val (.int (2 : Int32)), .val (.int (128 : Int32)), .val (.int (191 : Int32)), .val (.int ((bs.getD ((p1 + (1 : Int32))).toNatClampNeg 0) &&& (255 : Int32))), .unset] [(.int (191 : Int32)), (.int ((bs.getD ((p1 + (1 : Int32))).toNatClampNeg 0) &&& (255 : Int32)))])) _
                refine XS.icmpNo X0.here hx rfl (hb hby d5_186) rfl (tlt hc186).2.2.2 ?_
                exact k
              refine own_go (B := s₁.setTop (mkF m 190 #[.val (.ref a0), .val (.int p1), .val (.int ((bs.getD (p1).toNatClampNeg 0) &&& (255 : Int32))), .val (.int (2 : Int32)), .val (.int (128 : Int32)), .val (.int (191 : Int32)), .val (.int ((bs.getD ((p1 + (1 : Int32))).toNatClampNeg 0) &&& (255 : Int32))), .unset] [(.int (0 : Int32))])) (fun t k => ?_) ?_
              · show Steps p.tables e below (s₁.setTop (mkF m 189 #[.val (.ref a0), .val (.int p1), .val (.int ((bs.getD (p1).toNatClampNeg 0) &&& (255 : Int32))), .val (.int (2 : Int32)), .val (.int (128 : Int32)), .val (.int (191 : Int32)), .val (.int ((bs.getD ((p1 + (1 : Int32))).toNatClampNeg 0) &&& (255 : Int32))), .unset] [])) _
                refine XS.iconst X0.here hx rfl (hb hby d5_189) ?_
                exact k
              obtain ⟨fs, hr, hrun, hended, hW, hsame⟩ := X0.leave (v := some (.int (0 : Int32))) (fun h => by rw [Bd.returns] at h; cases h)
              refine ⟨_, _, ?_, hrun, hended, _, _, rfl, ?_, ⟨_, rfl⟩, hW, hsame.mono (by decide) (by decide)⟩
              · show Steps p.tables e below (s₁.setTop (mkF m 190 #[.val (.ref a0), .val (.int p1), .val (.int ((bs.getD (p1).toNatClampNeg 0) &&& (255 : Int32))), .val (.int (2 : Int32)), .val (.int (128 : Int32)), .val (.int (191 : Int32)), .val (.int ((bs.getD ((p1 + (1 : Int32))).toNatClampNeg 0) &&& (255 : Int32))), .unset] [(.int (0 : Int32))])) _
                exact retI X0 hx Bd.returns (hb hby d5_190) hr
              · show Q5 Z a0 p1 kk z bs h0 n0 _ s₁.heap _
                rw [e0]
                exact ⟨by simp only [own_seq, if_pos hpz, if_pos hz, if_neg hc12, if_neg hc31, if_neg hc38, if_neg hc159, if_neg hc179, if_pos hc186], N0, rfl⟩
            · refine own_go (B := s₁.setTop (mkF m 191 #[.val (.ref a0), .val (.int p1), .val (.int ((bs.getD (p1).toNatClampNeg 0) &&& (255 : Int32))), .val (.int (2 : Int32)), .val (.int (128 : Int32)), .val (.int (191 : Int32)), .val (.int ((bs.getD ((p1 + (1 : Int32))).toNatClampNeg 0) &&& (255 : Int32))), .unset] [])) (fun t k => ?_) ?_
              · show Steps p.tables e below (s₁.setTop (mkF m 186 #[.val (.ref a0), .val (.int p1), .val (.int ((bs.getD (p1).toNatClampNeg 0) &&& (255 : Int32))), .val (.int (2 : Int32)), .val (.int (128 : Int32)), .val (.int (191 : Int32)), .val (.int ((bs.getD ((p1 + (1 : Int32))).toNatClampNeg 0) &&& (255 : Int32))), .unset] [(.int (191 : Int32)), (.int ((bs.getD ((p1 + (1 : Int32))).toNatClampNeg 0) &&& (255 : Int32)))])) _
                refine XS.icmpYes X0.here hx rfl (pc0 := 186) (pc' := 191) rfl (hb hby d5_186) rfl (flt hc186).2.2.2 (by decide) (by decide) ?_
                exact k
              refine own_go (B := s₁.setTop (mkF m 201 #[.val (.ref a0), .val (.int p1), .val (.int ((bs.getD (p1).toNatClampNeg 0) &&& (255 : Int32))), .val (.int (2 : Int32)), .val (.int (128 : Int32)), .val (.int (191 : Int32)), .val (.int ((bs.getD ((p1 + (1 : Int32))).toNatClampNeg 0) &&& (255 : Int32))), .val (.int (p1 + (2 : Int32)))] [(.int (p1 + (2 : Int32))), (.int (p1 + (2 : Int32)))])) (fun t k => ?_) ?_
              · show Steps p.tables e below (s₁.setTop (mkF m 191 #[.val (.ref a0), .val (.int p1), .val (.int ((bs.getD (p1).toNatClampNeg 0) &&& (255 : Int32))), .val (.int (2 : Int32)), .val (.int (128 : Int32)), .val (.int (191 : Int32)), .val (.int ((bs.getD ((p1 + (1 : Int32))).toNatClampNeg 0) &&& (255 : Int32))), .unset] [])) _
                refine XS.iloadN X0.here hx rfl (hb hby d5_191) rfl ?_
                show Steps p.tables e below (s₁.setTop (mkF m 192 #[.val (.ref a0), .val (.int p1), .val (.int ((bs.getD (p1).toNatClampNeg 0) &&& (255 : Int32))), .val (.int (2 : Int32)), .val (.int (128 : Int32)), .val (.int (191 : Int32)), .val (.int ((bs.getD ((p1 + (1 : Int32))).toNatClampNeg 0) &&& (255 : Int32))), .unset] [(.int p1)])) _
                refine XS.iconst X0.here hx rfl (hb hby d5_192) ?_
                show Steps p.tables e below (s₁.setTop (mkF m 193 #[.val (.ref a0), .val (.int p1), .val (.int ((bs.getD (p1).toNatClampNeg 0) &&& (255 : Int32))), .val (.int (2 : Int32)), .val (.int (128 : Int32)), .val (.int (191 : Int32)), .val (.int ((bs.getD ((p1 + (1 : Int32))).toNatClampNeg 0) &&& (255 : Int32))), .unset] [(.int (2 : Int32)), (.int p1)])) _
                refine XS.iadd X0.here hx rfl (hb hby d5_193) rfl ?_
                show Steps p.tables e below (s₁.setTop (mkF m 194 #[.val (.ref a0), .val (.int p1), .val (.int ((bs.getD (p1).toNatClampNeg 0) &&& (255 : Int32))), .val (.int (2 : Int32)), .val (.int (128 : Int32)), .val (.int (191 : Int32)), .val (.int ((bs.getD ((p1 + (1 : Int32))).toNatClampNeg 0) &&& (255 : Int32))), .unset] [(.int (p1 + (2 : Int32)))])) _
                refine XS.istore X0.here hx rfl (hb hby d5_194) rfl (l' := #[.val (.ref a0), .val (.int p1), .val (.int ((bs.getD (p1).toNatClampNeg 0) &&& (255 : Int32))), .val (.int (2 : Int32)), .val (.int (128 : Int32)), .val (.int (191 : Int32)), .val (.int ((bs.getD ((p1 + (1 : Int32))).toNatClampNeg 0) &&& (255 : Int32))), .val (.int (p1 + (2 : Int32)))]) rfl ?_
                show Steps p.tables e below (s₁.setTop (mkF m 196 #[.val (.ref a0), .val (.int p1), .val (.int ((bs.getD (p1).toNatClampNeg 0) &&& (255 : Int32))), .val (.int (2 : Int32)), .val (.int (128 : Int32)), .val (.int (191 : Int32)), .val (.int ((bs.getD ((p1 + (1 : Int32))).toNatClampNeg 0) &&& (255 : Int32))), .val (.int (p1 + (2 : Int32)))] [])) _
                refine XS.iload X0.here hx rfl (hb hby d5_196) rfl ?_
                show Steps p.tables e below (s₁.setTop (mkF m 198 #[.val (.ref a0), .val (.int p1), .val (.int ((bs.getD (p1).toNatClampNeg 0) &&& (255 : Int32))), .val (.int (2 : Int32)), .val (.int (128 : Int32)), .val (.int (191 : Int32)), .val (.int ((bs.getD ((p1 + (1 : Int32))).toNatClampNeg 0) &&& (255 : Int32))), .val (.int (p1 + (2 : Int32)))] [(.int (p1 + (2 : Int32)))])) _
                refine XS.iloadN X0.here hx rfl (hb hby d5_198) rfl ?_
                show Steps p.tables e below (s₁.setTop (mkF m 199 #[.val (.ref a0), .val (.int p1), .val (.int ((bs.getD (p1).toNatClampNeg 0) &&& (255 : Int32))), .val (.int (2 : Int32)), .val (.int (128 : Int32)), .val (.int (191 : Int32)), .val (.int ((bs.getD ((p1 + (1 : Int32))).toNatClampNeg 0) &&& (255 : Int32))), .val (.int (p1 + (2 : Int32)))] [(.int p1), (.int (p1 + (2 : Int32)))])) _
                refine XS.iloadN X0.here hx rfl (hb hby d5_199) rfl ?_
                show Steps p.tables e below (s₁.setTop (mkF m 200 #[.val (.ref a0), .val (.int p1), .val (.int ((bs.getD (p1).toNatClampNeg 0) &&& (255 : Int32))), .val (.int (2 : Int32)), .val (.int (128 : Int32)), .val (.int (191 : Int32)), .val (.int ((bs.getD ((p1 + (1 : Int32))).toNatClampNeg 0) &&& (255 : Int32))), .val (.int (p1 + (2 : Int32)))] [(.int (2 : Int32)), (.int p1), (.int (p1 + (2 : Int32)))])) _
                refine XS.iadd X0.here hx rfl (hb hby d5_200) rfl ?_
                exact k
              refine own_go (B := s₁.setTop (mkF m 226 #[.val (.ref a0), .val (.int p1), .val (.int ((bs.getD (p1).toNatClampNeg 0) &&& (255 : Int32))), .val (.int (2 : Int32)), .val (.int (128 : Int32)), .val (.int (191 : Int32)), .val (.int ((bs.getD ((p1 + (1 : Int32))).toNatClampNeg 0) &&& (255 : Int32))), .val (.int (p1 + (2 : Int32)))] [])) (fun t k => ?_) ?_
              · show Steps p.tables e below (s₁.setTop (mkF m 201 #[.val (.ref a0), .val (.int p1), .val (.int ((bs.getD (p1).toNatClampNeg 0) &&& (255 : Int32))), .val (.int (2 : Int32)), .val (.int (128 : Int32)), .val (.int (191 : Int32)), .val (.int ((bs.getD ((p1 + (1 : Int32))).toNatClampNeg 0) &&& (255 : Int32))), .val (.int (p1 + (2 : Int32)))] [(.int (p1 + (2 : Int32))), (.int (p1 + (2 : Int32)))])) _
                refine XS.icmpYes X0.here hx rfl (pc0 := 201) (pc' := 226) rfl (hb hby d5_201) rfl (flt Int32.lt_irrefl).2.1 (by decide) (by decide) ?_
                exact k
              refine own_go (B := s₁.setTop (mkF m 227 #[.val (.ref a0), .val (.int p1), .val (.int ((bs.getD (p1).toNatClampNeg 0) &&& (255 : Int32))), .val (.int (2 : Int32)), .val (.int (128 : Int32)), .val (.int (191 : Int32)), .val (.int ((bs.getD ((p1 + (1 : Int32))).toNatClampNeg 0) &&& (255 : Int32))), .val (.int (p1 + (2 : Int32)))] [(.int (2 : Int32))])) (fun t k => ?_) ?_
              · show Steps p.tables e below (s₁.setTop (mkF m 226 #[.val (.ref a0), .val (.int p1), .val (.int ((bs.getD (p1).toNatClampNeg 0) &&& (255 : Int32))), .val (.int (2 : Int32)), .val (.int (128 : Int32)), .val (.int (191 : Int32)), .val (.int ((bs.getD ((p1 + (1 : Int32))).toNatClampNeg 0) &&& (255 : Int32))), .val (.int (p1 + (2 : Int32)))] [])) _
                refine XS.iloadN X0.here hx rfl (hb hby d5_226) rfl ?_
                exact k
              obtain ⟨fs, hr, hrun, hended, hW, hsame⟩ := X0.leave (v := some (.int (2 : Int32))) (fun h => by rw [Bd.returns] at h; cases h)
              refine ⟨_, _, ?_, hrun, hended, _, _, rfl, ?_, ⟨_, rfl⟩, hW, hsame.mono (by decide) (by decide)⟩
              · show Steps p.tables e below (s₁.setTop (mkF m 227 #[.val (.ref a0), .val (.int p1), .val (.int ((bs.getD (p1).toNatClampNeg 0) &&& (255 : Int32))), .val (.int (2 : Int32)), .val (.int (128 : Int32)), .val (.int (191 : Int32)), .val (.int ((bs.getD ((p1 + (1 : Int32))).toNatClampNeg 0) &&& (255 : Int32))), .val (.int (p1 + (2 : Int32)))] [(.int (2 : Int32))])) _
                exact retI X0 hx Bd.returns (hb hby d5_227) hr
              · show Q5 Z a0 p1 kk z bs h0 n0 _ s₁.heap _
                rw [e0]
                exact ⟨by simp only [own_seq, if_pos hpz, if_pos hz, if_neg hc12, if_neg hc31, if_neg hc38, if_neg hc159, if_neg hc179, if_neg hc186], N0, rfl⟩
def own_loop (bs : List Int32) (z : Int32) : Nat → Int32 → Int32
  | 0, _ => 1
  | f + 1, i => if i < z then (if (own_seq bs z i) = (0 : Int32) then (0 : Int32) else own_loop bs z f (i + (own_seq bs z i))) else (1 : Int32)
theorem own_loop_s (bs : List Int32) (z : Int32) (f : Nat) (i : Int32) : own_loop bs z (f + 1) i = if i < z then (if (own_seq bs z i) = (0 : Int32) then (0 : Int32) else own_loop bs z f (i + (own_seq bs z i))) else (1 : Int32) := rfl
def own_ok (z i r : Int32) : Prop := r = 0 ∨ r = 1 ∨ (r = 2 ∧ ¬ z < i + 2) ∨ (r = 3 ∧ ¬ z < i + 3) ∨ (r = 4 ∧ ¬ z < i + 4)
theorem own_ok_ite {z i x y : Int32} {c : Prop} [Decidable c] (h1 : c → own_ok z i x) (h2 : ¬ c → own_ok z i y) : own_ok z i (if c then x else y) := by
  by_cases h : c
  · rw [if_pos h]; exact h1 h
  · rw [if_neg h]; exact h2 h
theorem own_eq_ite {x y w : Int32} {c : Prop} [Decidable c] (h1 : c → x = w) (h2 : ¬ c → y = w) : (if c then x else y) = w := by
  by_cases h : c
  · rw [if_pos h]; exact h1 h
  · rw [if_neg h]; exact h2 h
theorem own_eq_ite' {x y w : Int32} {c : Prop} [Decidable c] (h1 : c → w = x) (h2 : ¬ c → w = y) : w = (if c then x else y) := by
  by_cases h : c
  · rw [if_pos h]; exact h1 h
  · rw [if_neg h]; exact h2 h
set_option maxHeartbeats 8000000 in
theorem own_seq_le (bs : List Int32) (z i : Int32) (hp : ¬ i < (0 : Int32)) (hpz : i < z) (hz : z < (9 : Int32)) (h : ¬ (own_seq bs z i) = (0 : Int32)) : 1 ≤ (own_seq bs z i).toInt ∧ (own_seq bs z i).toInt ≤ 4 ∧ (i + own_seq bs z i).toInt = i.toInt + (own_seq bs z i).toInt ∧ i.toInt + (own_seq bs z i).toInt ≤ z.toInt := by
  have e0 : (0 : Int32).toInt = 0 := rfl
  have e9 : (9 : Int32).toInt = 9 := rfl
  have hp' := hp; have hpz' := hpz; have hz' := hz
  rw [own_i] at hp' hpz' hz'
  have key : ∀ k : Int32, 1 ≤ k.toInt → k.toInt ≤ 4 → (i + k).toInt = i.toInt + k.toInt := fun k h1 h2 => own_add (by omega) (by omega) (by omega) (by omega)
  have k2 := key 2 (by decide) (by decide)
  have k3 := key 3 (by decide) (by decide)
  have k4 := key 4 (by decide) (by decide)
  have k1 := key 1 (by decide) (by decide)
  have t1 : (1 : Int32).toInt = 1 := rfl
  have t2 : (2 : Int32).toInt = 2 := rfl
  have t3 : (3 : Int32).toInt = 3 := rfl
  have t4 : (4 : Int32).toInt = 4 := rfl
  have main : own_ok z i (own_seq bs z i) := by
    unfold own_seq
    repeat' (refine own_ok_ite (fun _ => ?_) (fun _ => ?_))
    all_goals first | exact Or.inl rfl | exact Or.inr (Or.inl rfl) | exact Or.inr (Or.inr (Or.inl ⟨rfl, by assumption⟩)) | exact Or.inr (Or.inr (Or.inr (Or.inl ⟨rfl, by assumption⟩))) | exact Or.inr (Or.inr (Or.inr (Or.inr ⟨rfl, by assumption⟩)))
  rcases main with q | q | ⟨q, r⟩ | ⟨q, r⟩ | ⟨q, r⟩
  · exact absurd q h
  · rw [q]; omega
  · rw [q]; rw [own_i] at r; omega
  · rw [q]; rw [own_i] at r; omega
  · rw [q]; rw [own_i] at r; omega
theorem d3_0 : decode prog_33_method_3_code 0 = .ok (.iconst 0, 1) := by decide +kernel
theorem d3_1 : decode prog_33_method_3_code 1 = .ok (.istore_n 1, 1) := by decide +kernel
theorem d3_2 : decode prog_33_method_3_code 2 = .ok (.iload_n 1, 1) := by decide +kernel
theorem d3_3 : decode prog_33_method_3_code 3 = .ok (.aload_n 0, 1) := by decide +kernel
theorem d3_4 : decode prog_33_method_3_code 4 = .ok (.arraylength, 1) := by decide +kernel
theorem d3_5 : decode prog_33_method_3_code 5 = .ok (.if_icmp .ge 22, 3) := by decide +kernel
theorem d3_8 : decode prog_33_method_3_code 8 = .ok (.aload_n 0, 1) := by decide +kernel
theorem d3_9 : decode prog_33_method_3_code 9 = .ok (.iload_n 1, 1) := by decide +kernel
theorem d3_10 : decode prog_33_method_3_code 10 = .ok (.invokestatic 30, 3) := by decide +kernel
theorem d3_13 : decode prog_33_method_3_code 13 = .ok (.istore_n 2, 1) := by decide +kernel
theorem d3_14 : decode prog_33_method_3_code 14 = .ok (.iload_n 2, 1) := by decide +kernel
theorem d3_15 : decode prog_33_method_3_code 15 = .ok (.ifCond .ne 5, 3) := by decide +kernel
theorem d3_18 : decode prog_33_method_3_code 18 = .ok (.iconst 0, 1) := by decide +kernel
theorem d3_19 : decode prog_33_method_3_code 19 = .ok (.ireturn, 1) := by decide +kernel
theorem d3_20 : decode prog_33_method_3_code 20 = .ok (.iload_n 1, 1) := by decide +kernel
theorem d3_21 : decode prog_33_method_3_code 21 = .ok (.iload_n 2, 1) := by decide +kernel
theorem d3_22 : decode prog_33_method_3_code 22 = .ok (.iadd, 1) := by decide +kernel
theorem d3_23 : decode prog_33_method_3_code 23 = .ok (.istore_n 1, 1) := by decide +kernel
theorem d3_24 : decode prog_33_method_3_code 24 = .ok (.goto (-22), 3) := by decide +kernel
theorem d3_27 : decode prog_33_method_3_code 27 = .ok (.iconst 1, 1) := by decide +kernel
theorem d3_28 : decode prog_33_method_3_code 28 = .ok (.ireturn, 1) := by decide +kernel
theorem pn_3 : plainName "com/example/ballast/ballast/model/Utf8Text" = true := by first | (simp [plainName, overriddenIn]; done) | decide +kernel
theorem ef_3 (m : MethodId) (a0 : Addr) : entryFrame m #[(.ref a0)] 3 = mkF m 0 #[.val (.ref a0), .unset, .unset] [] := by first | (simp [entryFrame, mkF, argsToLocals, Value.category]; done) | rfl
theorem pd_2 : parseMethodDescriptor "([BI)I" = some ⟨[(.array .byte), .int], some .int⟩ := by decide +kernel
def Q3 (Z : State) (a0 : Addr) (kk : ClassId) (z : Int32) (bs : List Int32) (h0 : Heap) (n0 : Nat) (v : Option Value) (h : Heap) (L : List Loc) : Prop := v = some (.int (own_loop bs z 9 0)) ∧ Fr n0 L ∧ h = h0
set_option maxRecDepth 65536 in
set_option maxHeartbeats 40000000 in
theorem rm3 (l : Launch) (Z : State) (av0 : Array Value) (hw : ∀ d ∈ tables_1, d.before av0 Z = true) (ws : List Jvm.Cond) (a0 : Addr) (kk : ClassId) (z : Int32) (bs : List Int32) (h0 : Heap) (n0 : Nat) (Z0 : n0 ≤ h0.size) (V0 : Arv Z h0 a0 kk .byte z (own_vs bs) (.int (0 : Int32))) (hz : z < (9 : Int32)) :
    MetFree l (⟨"com/example/ballast/ballast/model/Utf8Text", "isUtf8", "([B)Z"⟩ : MethodName) (head1 (Jvm.Cond.code (⟨"com/example/ballast/ballast/model/Utf8Text", "isUtf8", "([B)Z"⟩ : MethodName) prog_33_method_3_code 3 (some .boolean) :: ws) ({ frames := 1, cells := 0, slots := 0, locals := 19 } : Room)) (fun a U => a = #[(.ref a0)] ∧ Z.Warmed39 U.vm ∧ U.heap = h0) (fun _ _ _ _ _ => True) (fun _ U o U' => ∃ v L, o = .returned v ∧ Q3 Z a0 kk z bs h0 n0 v U'.heap L ∧ FrameEnd U o U' L ({ frames := 1, cells := 0, slots := 0, locals := 19 } : Room).cells ({ frames := 1, cells := 0, slots := 0, locals := 19 } : Room).slots) := by
  refine MetFree.of_bodySF (plainFor_of_name pn_3) hisR ?_
  intro p e s m args below meth c s₁ Bd hml0 hP hK
  obtain ⟨rfl, hZ, hh⟩ := hP
  have hx := Bd.exec
  have hby := Bd.bytes
  have hml : c.maxLocals = 3 := hml0
  have hown : s.vm.findClass "com/example/ballast/ballast/model/Utf8Text" = some m.cls := findClass_of_methodNamed Bd.named
  have hnm := (name_of_methodNamed Bd.named Bd.method).1
  have X0 : Stand p l e ({ frames := 1, cells := 0, slots := 0, locals := 19 } : Room) s m #[(.ref a0)] below meth c s₁ [] 0 0 := Stand.of_body Bd
  have e0 : s₁.heap = h0 := by rw [← hh, Bd.state]; rfl
  have N0 := Fr.nil n0
  have K0 : Keep h0 h0 [] := Keep.refl h0 []
  refine own_go (B := s₁.setTop (mkF m 0 #[.val (.ref a0), .unset, .unset] [])) (fun t k => castTop (ef_3 m a0) k) ?_
  refine own_go (B := s₁.setTop (mkF m 2 #[.val (.ref a0), .val (.int (0 : Int32)), .unset] [])) (fun t k => ?_) ?_
  · show Steps p.tables e below (s₁.setTop (mkF m 0 #[.val (.ref a0), .unset, .unset] [])) _
    refine XS.iconst X0.here hx rfl (hb hby d3_0) ?_
    show Steps p.tables e below (s₁.setTop (mkF m 1 #[.val (.ref a0), .unset, .unset] [(.int (0 : Int32))])) _
    refine XS.istoreN X0.here hx rfl (hb hby d3_1) rfl (l' := #[.val (.ref a0), .val (.int (0 : Int32)), .unset]) rfl ?_
    exact k
  have loop : ∀ (f : Nat) (i : Int32) (sl : Slot) (T : State) (locs : List Loc), (sl = .unset ∨ ∃ w : Int32, sl = .val (.int w)) → ¬ i < (0 : Int32) → z.toInt - i.toInt ≤ f → Stand p l e ({ frames := 1, cells := 0, slots := 0, locals := 19 } : Room) s m #[(.ref a0)] below meth c T locs 0 0 → T.heap = h0 → Fr n0 locs → ∃ s₂ o, Steps p.tables e below (T.setTop (mkF m 2 #[.val (.ref a0), .val (.int i), sl] [])) s₂ ∧ s₂.status = .running ∧ Ended s₂ below o ∧ ∃ v L, o = .returned v ∧ (v = some (.int (own_loop bs z (f + 1) i)) ∧ Fr n0 L ∧ s₂.heap = h0) ∧ FrameEnd s o s₂ L ({ frames := 1, cells := 0, slots := 0, locals := 19 } : Room).cells ({ frames := 1, cells := 0, slots := 0, locals := 19 } : Room).slots := by
    intro f
    induction f with
    | zero =>
      intro i sl T locs hsl hi hf X eT NL
      have hst : ∀ x : Int32, storeLocals #[.val (.ref a0), .val (.int i), sl] 2 (.int x) = some #[.val (.ref a0), .val (.int i), .val (.int x)] := by
        rcases hsl with rfl | ⟨w, rfl⟩ <;> intro x <;> rfl
      have hzi : ¬ (i < z) := by rw [own_i]; omega
      refine own_go (B := T.setTop (mkF m 4 #[.val (.ref a0), .val (.int i), sl] [(.ref a0), (.int i)])) (fun t k => ?_) ?_
      · show Steps p.tables e below (T.setTop (mkF m 2 #[.val (.ref a0), .val (.int i), sl] [])) _
        refine XS.iloadN X.here hx rfl (hb hby d3_2) rfl ?_
        show Steps p.tables e below (T.setTop (mkF m 3 #[.val (.ref a0), .val (.int i), sl] [(.int i)])) _
        refine XS.aloadN X.here hx rfl (hb hby d3_3) rfl rfl ?_
        exact k
      obtain ⟨cl_1, Ar_1, -, S_1, M_1, -, -⟩ := id V0
      refine own_go (B := T.setTop (mkF m 5 #[.val (.ref a0), .val (.int i), sl] [(.int z), (.int i)])) (fun t k => X.arraylength hx (by rw [(eT : _ = _)]; exact Ar_1.1) (State.isArrayOf_alike hZ.alike Ar_1.2.1) (g := (mkF m 4 #[.val (.ref a0), .val (.int i), sl] [(.ref a0), (.int i)])) rfl rfl (hb hby d3_4) t (by rw [len_of S_1 M_1]; exact k)) ?_
      refine own_go (B := T.setTop (mkF m 27 #[.val (.ref a0), .val (.int i), sl] [])) (fun t k => ?_) ?_
      · show Steps p.tables e below (T.setTop (mkF m 5 #[.val (.ref a0), .val (.int i), sl] [(.int z), (.int i)])) _
        refine XS.icmpYes X.here hx rfl (pc0 := 5) (pc' := 27) rfl (hb hby d3_5) rfl (flt hzi).2.1 (by decide) (by decide) ?_
        exact k
      refine own_go (B := T.setTop (mkF m 28 #[.val (.ref a0), .val (.int i), sl] [(.int (1 : Int32))])) (fun t k => ?_) ?_
      · show Steps p.tables e below (T.setTop (mkF m 27 #[.val (.ref a0), .val (.int i), sl] [])) _
        refine XS.iconst X.here hx rfl (hb hby d3_27) ?_
        exact k
      obtain ⟨fs, hr, hrun, hended, hW, hsame⟩ := X.leave (v := some (.int (1 : Int32))) (fun h => by rw [Bd.returns] at h; cases h)
      refine ⟨_, _, ?_, hrun, hended, _, _, rfl, ?_, ⟨_, rfl⟩, hW, hsame.mono (by decide) (by decide)⟩
      · show Steps p.tables e below (T.setTop (mkF m 28 #[.val (.ref a0), .val (.int i), sl] [(.int (1 : Int32))])) _
        exact retN X hx (t := .boolean) Bd.returns (by simp) (hb hby d3_28) hr
      · exact ⟨by rw [own_loop_s]; simp only [if_neg hzi], NL, eT⟩
    | succ f ih =>
      intro i sl T locs hsl hi hf X eT NL
      have hst : ∀ x : Int32, storeLocals #[.val (.ref a0), .val (.int i), sl] 2 (.int x) = some #[.val (.ref a0), .val (.int i), .val (.int x)] := by
        rcases hsl with rfl | ⟨w, rfl⟩ <;> intro x <;> rfl
      refine own_go (B := T.setTop (mkF m 4 #[.val (.ref a0), .val (.int i), sl] [(.ref a0), (.int i)])) (fun t k => ?_) ?_
      · show Steps p.tables e below (T.setTop (mkF m 2 #[.val (.ref a0), .val (.int i), sl] [])) _
        refine XS.iloadN X.here hx rfl (hb hby d3_2) rfl ?_
        show Steps p.tables e below (T.setTop (mkF m 3 #[.val (.ref a0), .val (.int i), sl] [(.int i)])) _
        refine XS.aloadN X.here hx rfl (hb hby d3_3) rfl rfl ?_
        exact k
      obtain ⟨cl_2, Ar_2, -, S_2, M_2, -, -⟩ := id V0
      refine own_go (B := T.setTop (mkF m 5 #[.val (.ref a0), .val (.int i), sl] [(.int z), (.int i)])) (fun t k => X.arraylength hx (by rw [(eT : _ = _)]; exact Ar_2.1) (State.isArrayOf_alike hZ.alike Ar_2.2.1) (g := (mkF m 4 #[.val (.ref a0), .val (.int i), sl] [(.ref a0), (.int i)])) rfl rfl (hb hby d3_4) t (by rw [len_of S_2 M_2]; exact k)) ?_
      by_cases hc5 : i < z
      · refine own_go (B := T.setTop (mkF m 8 #[.val (.ref a0), .val (.int i), sl] [])) (fun t k => ?_) ?_
        · show Steps p.tables e below (T.setTop (mkF m 5 #[.val (.ref a0), .val (.int i), sl] [(.int z), (.int i)])) _
          refine XS.icmpNo X.here hx rfl (hb hby d3_5) rfl (tlt hc5).2.1 ?_
          exact k
        refine own_go (B := T.setTop (mkF m 10 #[.val (.ref a0), .val (.int i), sl] [(.int i), (.ref a0)])) (fun t k => ?_) ?_
        · show Steps p.tables e below (T.setTop (mkF m 8 #[.val (.ref a0), .val (.int i), sl] [])) _
          refine XS.aloadN X.here hx rfl (hb hby d3_8) rfl rfl ?_
          show Steps p.tables e below (T.setTop (mkF m 9 #[.val (.ref a0), .val (.int i), sl] [(.ref a0)])) _
          refine XS.iloadN X.here hx rfl (hb hby d3_9) rfl ?_
          exact k
        obtain ⟨_, _, ⟨T_3, L_3, k_3, n_3⟩, -, X_3, ⟨Lc_3, hQ_3, l_3, y_3, z_3⟩, st_3⟩ := Jvm.LawKit.callS X hx (y := (⟨"com/example/ballast/ballast/model/Utf8Text", "sequenceLength", "([BI)I"⟩ : MethodName)) hown (mvT hZ (hw _ (List.mem_of_getElem? (i := 18) rfl))) (mvT hZ (hw _ (List.mem_of_getElem? (i := 19) rfl))) (mvT hZ (hw _ (List.mem_of_getElem? (i := 13) rfl))) (mvT hZ (hw _ (List.mem_of_getElem? (i := 20) rfl))) (by decide) (backOf (W := 0) (rm5 l Z av0 hw [] a0 i kk z bs h0 n0 Z0 V0 hi hc5 hz) hZ (hw _ (List.mem_of_getElem? (i := 20) rfl)) (hw _ (List.mem_of_getElem? (i := 13) rfl)) (by decide) (by decide)) (g := (mkF m 10 #[.val (.ref a0), .val (.int i), sl] [(.int i), (.ref a0)])) rfl (by rw [hml]; rfl) (argsL := [(.ref a0), (.int i)]) (rest := []) (lenOf pd_2 rfl) rfl (by show 2 * 0 + _ ≤ _; exact Nat.le_of_eq rfl) (hb hby d3_10) (fun _ _ => ⟨rfl, eT, (by decide : 0 + 0 ≤ _), (by decide : 0 + 0 ≤ _)⟩)
        dsimp only [Pt.U, Pt.locs, Pt.cells, Pt.slots] at X_3 l_3 y_3 z_3 st_3 hQ_3
        subst l_3 y_3 z_3
        obtain ⟨rfl, N_3q, e_3⟩ := hQ_3
        have N_3 := Fr.app NL N_3q
        refine own_go (B := T_3.setTop (mkF m 13 #[.val (.ref a0), .val (.int i), sl] [(.int (own_seq bs z i))])) (fun t k => st_3 t k) ?_
        refine own_go (B := T_3.setTop (mkF m 15 #[.val (.ref a0), .val (.int i), .val (.int (own_seq bs z i))] [(.int (own_seq bs z i))])) (fun t k => ?_) ?_
        · show Steps p.tables e below (T_3.setTop (mkF m 13 #[.val (.ref a0), .val (.int i), sl] [(.int (own_seq bs z i))])) _
          refine XS.istoreN X_3.here hx rfl (hb hby d3_13) rfl (l' := #[.val (.ref a0), .val (.int i), .val (.int (own_seq bs z i))]) (hst _) ?_
          show Steps p.tables e below (T_3.setTop (mkF m 14 #[.val (.ref a0), .val (.int i), .val (.int (own_seq bs z i))] [])) _
          refine XS.iloadN X_3.here hx rfl (hb hby d3_14) rfl ?_
          exact k
        by_cases hc15 : (own_seq bs z i) = (0 : Int32)
        · refine own_go (B := T_3.setTop (mkF m 18 #[.val (.ref a0), .val (.int i), .val (.int (own_seq bs z i))] [])) (fun t k => ?_) ?_
          · show Steps p.tables e below (T_3.setTop (mkF m 15 #[.val (.ref a0), .val (.int i), .val (.int (own_seq bs z i))] [(.int (own_seq bs z i))])) _
            refine XS.ifNo X_3.here hx rfl (hb hby d3_15) rfl ((if0 _ _).trans (teq hc15).2) ?_
            exact k
          refine own_go (B := T_3.setTop (mkF m 19 #[.val (.ref a0), .val (.int i), .val (.int (own_seq bs z i))] [(.int (0 : Int32))])) (fun t k => ?_) ?_
          · show Steps p.tables e below (T_3.setTop (mkF m 18 #[.val (.ref a0), .val (.int i), .val (.int (own_seq bs z i))] [])) _
            refine XS.iconst X_3.here hx rfl (hb hby d3_18) ?_
            exact k
          obtain ⟨fs, hr, hrun, hended, hW, hsame⟩ := X_3.leave (v := some (.int (0 : Int32))) (fun h => by rw [Bd.returns] at h; cases h)
          refine ⟨_, _, ?_, hrun, hended, _, _, rfl, ?_, ⟨_, rfl⟩, hW, hsame.mono (by decide) (by decide)⟩
          · show Steps p.tables e below (T_3.setTop (mkF m 19 #[.val (.ref a0), .val (.int i), .val (.int (own_seq bs z i))] [(.int (0 : Int32))])) _
            exact retN X_3 hx (t := .boolean) Bd.returns (by simp) (hb hby d3_19) hr
          · exact ⟨by rw [own_loop_s]; simp only [if_pos hc5, if_pos hc15], N_3, e_3⟩
        · refine own_go (B := T_3.setTop (mkF m 20 #[.val (.ref a0), .val (.int i), .val (.int (own_seq bs z i))] [])) (fun t k => ?_) ?_
          · show Steps p.tables e below (T_3.setTop (mkF m 15 #[.val (.ref a0), .val (.int i), .val (.int (own_seq bs z i))] [(.int (own_seq bs z i))])) _
            refine XS.ifYes X_3.here hx rfl (pc0 := 15) (pc' := 20) rfl (hb hby d3_15) rfl ((if0 _ _).trans (feq hc15).2) (by decide) (by decide) ?_
            exact k
          refine own_go (B := T_3.setTop (mkF m 2 #[.val (.ref a0), .val (.int (i + (own_seq bs z i))), .val (.int (own_seq bs z i))] [])) (fun t k => ?_) ?_
          · show Steps p.tables e below (T_3.setTop (mkF m 20 #[.val (.ref a0), .val (.int i), .val (.int (own_seq bs z i))] [])) _
            refine XS.iloadN X_3.here hx rfl (hb hby d3_20) rfl ?_
            show Steps p.tables e below (T_3.setTop (mkF m 21 #[.val (.ref a0), .val (.int i), .val (.int (own_seq bs z i))] [(.int i)])) _
            refine XS.iloadN X_3.here hx rfl (hb hby d3_21) rfl ?_
            show Steps p.tables e below (T_3.setTop (mkF m 22 #[.val (.ref a0), .val (.int i), .val (.int (own_seq bs z i))] [(.int (own_seq bs z i)), (.int i)])) _
            refine XS.iadd X_3.here hx rfl (hb hby d3_22) rfl ?_
            show Steps p.tables e below (T_3.setTop (mkF m 23 #[.val (.ref a0), .val (.int i), .val (.int (own_seq bs z i))] [(.int (i + (own_seq bs z i)))])) _
            refine XS.istoreN X_3.here hx rfl (hb hby d3_23) rfl (l' := #[.val (.ref a0), .val (.int (i + (own_seq bs z i))), .val (.int (own_seq bs z i))]) rfl ?_
            show Steps p.tables e below (T_3.setTop (mkF m 24 #[.val (.ref a0), .val (.int (i + (own_seq bs z i))), .val (.int (own_seq bs z i))] [])) _
            refine XS.goto X_3.here hx rfl (pc0 := 24) (pc' := 2) rfl (hb hby d3_24) (by decide) (by decide) ?_
            exact k
          obtain ⟨b1, b2, b3, b4⟩ := own_seq_le bs z i hi hc5 hz hc15
          have e0 : (0 : Int32).toInt = 0 := rfl
          have hi' := hi
          rw [own_i] at hi'
          rw [own_loop_s, if_pos hc5, if_neg hc15]
          exact ih _ _ T_3 _ (Or.inr ⟨_, rfl⟩) (by rw [own_i]; omega) (by omega) X_3 e_3 N_3
      · refine own_go (B := T.setTop (mkF m 27 #[.val (.ref a0), .val (.int i), sl] [])) (fun t k => ?_) ?_
        · show Steps p.tables e below (T.setTop (mkF m 5 #[.val (.ref a0), .val (.int i), sl] [(.int z), (.int i)])) _
          refine XS.icmpYes X.here hx rfl (pc0 := 5) (pc' := 27) rfl (hb hby d3_5) rfl (flt hc5).2.1 (by decide) (by decide) ?_
          exact k
        refine own_go (B := T.setTop (mkF m 28 #[.val (.ref a0), .val (.int i), sl] [(.int (1 : Int32))])) (fun t k => ?_) ?_
        · show Steps p.tables e below (T.setTop (mkF m 27 #[.val (.ref a0), .val (.int i), sl] [])) _
          refine XS.iconst X.here hx rfl (hb hby d3_27) ?_
          exact k
        obtain ⟨fs, hr, hrun, hended, hW, hsame⟩ := X.leave (v := some (.int (1 : Int32))) (fun h => by rw [Bd.returns] at h; cases h)
        refine ⟨_, _, ?_, hrun, hended, _, _, rfl, ?_, ⟨_, rfl⟩, hW, hsame.mono (by decide) (by decide)⟩
        · show Steps p.tables e below (T.setTop (mkF m 28 #[.val (.ref a0), .val (.int i), sl] [(.int (1 : Int32))])) _
          exact retN X hx (t := .boolean) Bd.returns (by simp) (hb hby d3_28) hr
        · exact ⟨by rw [own_loop_s]; simp only [if_neg hc5], NL, eT⟩
  exact loop 8 0 .unset s₁ [] (Or.inl rfl) (by decide) (by rw [own_i] at hz; have : (9 : Int32).toInt = 9 := rfl; have : (0 : Int32).toInt = 0 := rfl; omega) X0 e0 N0
theorem own_arw {Z : State} {h : Heap} {a : Addr} {k : ClassId} {ty : FieldType} {z : Int32} {vs : List Value} {dv : Value} (F : Arv Z h a k ty z vs dv) (i : Nat) (v : Value) (hi : z.toNatClampNeg ≤ i) : Arv Z h a k ty z (vs.set i v) dv := by
  obtain ⟨c, A, q1, S, q3, H, G⟩ := F
  have e : ∀ j, j < c.slots.size → (vs.set i v).getD j dv = vs.getD j dv := fun j hj => by
    simp only [List.getD_eq_getElem?_getD]
    rw [List.getElem?_set_ne (by omega)]
  exact ⟨c, A, q1, S, q3, fun j hj => by rw [e j hj]; exact H j hj, fun j hj => by rw [e j hj]; exact G j hj⟩
theorem own_clamp (z : Int32) (i : Int32) (n : Nat) (hn : i.toInt = n) (h : ¬ i < z) : z.toNatClampNeg ≤ n := by
  rw [own_i] at h; simp only [Int32.toNatClampNeg]; omega
theorem own_remv (x y : Int32) (d : Int) (hy : y.toInt = d) (hd : 1 < d) (hx : 0 ≤ x.toInt) : (x - (x / y) * y).toInt = x.toInt % d := by
  have hn : y ≠ -1 := fun q => by rw [q] at hy; have : (-1 : Int32).toInt = -1 := rfl; omega
  have h1 := (c_idiv x y d hy hn).1 hx
  have h2 : 0 ≤ x.toInt / d := Int.ediv_nonneg hx (by omega)
  have h3 := Int.mul_ediv_add_emod x.toInt d
  have h4 := Int.emod_nonneg x.toInt (by omega : d ≠ 0)
  have h5 := Int.emod_lt_of_pos x.toInt (by omega : 0 < d)
  have h6 := x.toInt_lt
  have h7 : (x / y).toInt * y.toInt = d * (x.toInt / d) := by rw [h1, hy, Int.mul_comm]
  have h8 : 0 ≤ d * (x.toInt / d) := Int.mul_nonneg (by omega) h2
  have h9 : ((x / y) * y).toInt = d * (x.toInt / d) := by rw [Jvm.Kit.i32_mul (by rw [h7]; omega) (by rw [h7]; omega), h7]
  rw [Jvm.Kit.i32_sub (by omega) (by omega), h9]; omega
theorem own_size (x : Int32) : ¬ ((x &&& (2147483647 : Int32)) - ((x &&& (2147483647 : Int32)) / (9 : Int32)) * (9 : Int32)) < (0 : Int32) ∧ ((x &&& (2147483647 : Int32)) - ((x &&& (2147483647 : Int32)) / (9 : Int32)) * (9 : Int32)) < (9 : Int32) := by
  have h1 := Jvm.Kit.i32_mask x 2147483647 (k := 31) (by decide) (by decide)
  have h2 := own_remv (x &&& 2147483647) 9 9 rfl (by decide) (by omega)
  have e0 : (0 : Int32).toInt = 0 := rfl
  have e9 : (9 : Int32).toInt = 9 := rfl
  rw [own_i, own_i]; omega
def own_us (q0 q1 : Int64) : List Int32 := [(own_unit q0 q1 (0 : Int32)), (own_unit q0 q1 (1 : Int32)), (own_unit q0 q1 (2 : Int32)), (own_unit q0 q1 (3 : Int32)), (own_unit q0 q1 (4 : Int32)), (own_unit q0 q1 (5 : Int32)), (own_unit q0 q1 (6 : Int32)), (own_unit q0 q1 (7 : Int32)), (0 : Int32), (0 : Int32), (0 : Int32)]
def own_bs (q0 q1 : Int64) : List Int32 := [(nar .byte ((own_unit q0 q1 (0 : Int32)).toInt8.toInt32)), (nar .byte ((own_unit q0 q1 (1 : Int32)).toInt8.toInt32)), (nar .byte ((own_unit q0 q1 (2 : Int32)).toInt8.toInt32)), (nar .byte ((own_unit q0 q1 (3 : Int32)).toInt8.toInt32)), (nar .byte ((own_unit q0 q1 (4 : Int32)).toInt8.toInt32)), (nar .byte ((own_unit q0 q1 (5 : Int32)).toInt8.toInt32)), (nar .byte ((own_unit q0 q1 (6 : Int32)).toInt8.toInt32)), (nar .byte ((own_unit q0 q1 (7 : Int32)).toInt8.toInt32))]
def own_stp (q0 q1 : Int64) (z p : Int32) : Int32 := own_step (own_us q0 q1) p z
def own_byte (u : Int32) : Int32 := nar .byte (u.toInt8.toInt32)
theorem own_b256 : ∀ k : Fin 256, (own_byte (Int32.ofNat k.1) &&& (255 : Int32)) = Int32.ofNat k.1 ∧ ((own_byte (Int32.ofNat k.1) &&& (192 : Int32)) = (128 : Int32) ↔ (128 ≤ k.1 ∧ k.1 ≤ 191)) := by decide +kernel
theorem own_of (u : Int32) (h : 0 ≤ u.toInt ∧ u.toInt < 256) : ∃ k : Fin 256, u = Int32.ofNat k.1 ∧ u.toInt = (k.1 : Int) := by
  refine ⟨⟨u.toInt.toNat, by omega⟩, ?_, ?_⟩
  · apply Int32.toInt_inj.mp
    show u.toInt = (Int32.ofNat u.toInt.toNat).toInt
    rw [Int32.toInt_ofNat_small (by omega)]; omega
  · show u.toInt = ((u.toInt.toNat : Nat) : Int); omega
theorem own_b255 {u : Int32} (h : 0 ≤ u.toInt ∧ u.toInt < 256) : own_byte u &&& (255 : Int32) = u := by
  obtain ⟨k, rfl, -⟩ := own_of u h
  exact (own_b256 k).1
theorem own_b192 {u : Int32} (h : 0 ≤ u.toInt ∧ u.toInt < 256) : ((own_byte u &&& (192 : Int32)) = (128 : Int32)) = (128 ≤ u.toInt ∧ u.toInt ≤ 191) := by
  obtain ⟨k, rfl, e⟩ := own_of u h
  rw [e]
  exact propext ((own_b256 k).2.trans ⟨fun q => by omega, fun q => by omega⟩)
theorem own_isub {p q : Int32} (h1 : -1000000000 ≤ p.toInt - q.toInt) (h2 : p.toInt - q.toInt ≤ 1000000000) : (p - q).toInt = p.toInt - q.toInt := Jvm.Kit.i32_sub (by omega) (by omega)
theorem own_iadd {p q : Int32} (h1 : -1000000000 ≤ p.toInt + q.toInt) (h2 : p.toInt + q.toInt ≤ 1000000000) : (p + q).toInt = p.toInt + q.toInt := Jvm.Kit.i32_add (by omega) (by omega)
theorem own_imul {p q : Int32} (h1 : -1000000000 ≤ p.toInt * q.toInt) (h2 : p.toInt * q.toInt ≤ 1000000000) : (p * q).toInt = p.toInt * q.toInt := Jvm.Kit.i32_mul (by omega) (by omega)
theorem own_cp2 (a b : Int32) (ha : 0 ≤ a.toInt ∧ a.toInt < 256) (hb : 0 ≤ b.toInt ∧ b.toInt < 256) : (((a - (192 : Int32)) * (64 : Int32)) + (b - (128 : Int32))).toInt = (a.toInt - 192) * 64 + (b.toInt - 128) := by
  have c1 : (192 : Int32).toInt = 192 := rfl
  have c2 : (64 : Int32).toInt = 64 := rfl
  have c3 : (128 : Int32).toInt = 128 := rfl
  have e1 : (a - (192 : Int32)).toInt = a.toInt - 192 := own_isub (by omega) (by omega)
  have e2 : ((a - (192 : Int32)) * (64 : Int32)).toInt = (a.toInt - 192) * 64 := by rw [own_imul (by rw [e1, c2]; omega) (by rw [e1, c2]; omega), e1, c2]
  have e3 : (b - (128 : Int32)).toInt = b.toInt - 128 := own_isub (by omega) (by omega)
  rw [own_iadd (by omega) (by omega), e2, e3]
set_option maxHeartbeats 8000000 in
theorem own_cp3 (a b c : Int32) (ha : 0 ≤ a.toInt ∧ a.toInt < 256) (hb : 0 ≤ b.toInt ∧ b.toInt < 256) (hc : 0 ≤ c.toInt ∧ c.toInt < 256) : ((((a - (224 : Int32)) * (4096 : Int32)) + ((b - (128 : Int32)) * (64 : Int32))) + (c - (128 : Int32))).toInt = (a.toInt - 224) * 4096 + (b.toInt - 128) * 64 + (c.toInt - 128) := by
  have c1 : (224 : Int32).toInt = 224 := rfl
  have c2 : (64 : Int32).toInt = 64 := rfl
  have c3 : (128 : Int32).toInt = 128 := rfl
  have c4 : (4096 : Int32).toInt = 4096 := rfl
  have e1 : (a - (224 : Int32)).toInt = a.toInt - 224 := own_isub (by omega) (by omega)
  have e2 : ((a - (224 : Int32)) * (4096 : Int32)).toInt = (a.toInt - 224) * 4096 := by rw [own_imul (by rw [e1, c4]; omega) (by rw [e1, c4]; omega), e1, c4]
  have e3 : (b - (128 : Int32)).toInt = b.toInt - 128 := own_isub (by omega) (by omega)
  have e4 : ((b - (128 : Int32)) * (64 : Int32)).toInt = (b.toInt - 128) * 64 := by rw [own_imul (by rw [e3, c2]; omega) (by rw [e3, c2]; omega), e3, c2]
  have e5 : (c - (128 : Int32)).toInt = c.toInt - 128 := own_isub (by omega) (by omega)
  have e6 : (((a - (224 : Int32)) * (4096 : Int32)) + ((b - (128 : Int32)) * (64 : Int32))).toInt = (a.toInt - 224) * 4096 + (b.toInt - 128) * 64 := by rw [own_iadd (by omega) (by omega), e2, e4]
  rw [own_iadd (by omega) (by omega), e6, e5]
set_option maxHeartbeats 8000000 in
theorem own_cp4 (a b c d : Int32) (ha : 0 ≤ a.toInt ∧ a.toInt < 256) (hb : 0 ≤ b.toInt ∧ b.toInt < 256) (hc : 0 ≤ c.toInt ∧ c.toInt < 256) (hd : 0 ≤ d.toInt ∧ d.toInt < 256) : (((((a - (240 : Int32)) * (262144 : Int32)) + ((b - (128 : Int32)) * (4096 : Int32))) + ((c - (128 : Int32)) * (64 : Int32))) + (d - (128 : Int32))).toInt = (a.toInt - 240) * 262144 + (b.toInt - 128) * 4096 + (c.toInt - 128) * 64 + (d.toInt - 128) := by
  have c1 : (240 : Int32).toInt = 240 := rfl
  have c2 : (64 : Int32).toInt = 64 := rfl
  have c3 : (128 : Int32).toInt = 128 := rfl
  have c4 : (4096 : Int32).toInt = 4096 := rfl
  have c5 : (262144 : Int32).toInt = 262144 := rfl
  have e1 : (a - (240 : Int32)).toInt = a.toInt - 240 := own_isub (by omega) (by omega)
  have e2 : ((a - (240 : Int32)) * (262144 : Int32)).toInt = (a.toInt - 240) * 262144 := by rw [own_imul (by rw [e1, c5]; omega) (by rw [e1, c5]; omega), e1, c5]
  have e3 : (b - (128 : Int32)).toInt = b.toInt - 128 := own_isub (by omega) (by omega)
  have e4 : ((b - (128 : Int32)) * (4096 : Int32)).toInt = (b.toInt - 128) * 4096 := by rw [own_imul (by rw [e3, c4]; omega) (by rw [e3, c4]; omega), e3, c4]
  have e5 : (c - (128 : Int32)).toInt = c.toInt - 128 := own_isub (by omega) (by omega)
  have e6 : ((c - (128 : Int32)) * (64 : Int32)).toInt = (c.toInt - 128) * 64 := by rw [own_imul (by rw [e5, c2]; omega) (by rw [e5, c2]; omega), e5, c2]
  have e7 : (d - (128 : Int32)).toInt = d.toInt - 128 := own_isub (by omega) (by omega)
  have e8 : (((a - (240 : Int32)) * (262144 : Int32)) + ((b - (128 : Int32)) * (4096 : Int32))).toInt = (a.toInt - 240) * 262144 + (b.toInt - 128) * 4096 := by rw [own_iadd (by omega) (by omega), e2, e4]
  have e9 : ((((a - (240 : Int32)) * (262144 : Int32)) + ((b - (128 : Int32)) * (4096 : Int32))) + ((c - (128 : Int32)) * (64 : Int32))).toInt = (a.toInt - 240) * 262144 + (b.toInt - 128) * 4096 + (c.toInt - 128) * 64 := by rw [own_iadd (by omega) (by omega), e8, e6]
  rw [own_iadd (by omega) (by omega), e9, e7]
set_option maxHeartbeats 40000000 in
theorem own_core (A B C D Z P : Int) (ha : 0 ≤ A ∧ A < 256) (hb : 0 ≤ B ∧ B < 256) (hc : 0 ≤ C ∧ C < 256) (hd : 0 ≤ D ∧ D < 256) : (if A < 128 then (1 : Int32) else (if A < 194 then (0 : Int32) else (if 223 < A then (if 239 < A then (if 244 < A then (0 : Int32) else (if A = 240 then (if Z < P + 4 then (0 : Int32) else (if B < 144 then (0 : Int32) else (if 191 < B then (0 : Int32) else (if (128 ≤ C ∧ C ≤ 191) then (if (128 ≤ D ∧ D ≤ 191) then (4 : Int32) else (0 : Int32)) else (0 : Int32))))) else (if A = 244 then (if Z < P + 4 then (0 : Int32) else (if B < 128 then (0 : Int32) else (if 143 < B then (0 : Int32) else (if (128 ≤ C ∧ C ≤ 191) then (if (128 ≤ D ∧ D ≤ 191) then (4 : Int32) else (0 : Int32)) else (0 : Int32))))) else (if Z < P + 4 then (0 : Int32) else (if B < 128 then (0 : Int32) else (if 191 < B then (0 : Int32) else (if (128 ≤ C ∧ C ≤ 191) then (if (128 ≤ D ∧ D ≤ 191) then (4 : Int32) else (0 : Int32)) else (0 : Int32)))))))) else (if A = 224 then (if Z < P + 3 then (0 : Int32) else (if B < 160 then (0 : Int32) else (if 191 < B then (0 : Int32) else (if (128 ≤ C ∧ C ≤ 191) then (3 : Int32) else (0 : Int32))))) else (if A = 237 then (if Z < P + 3 then (0 : Int32) else (if B < 128 then (0 : Int32) else (if 159 < B then (0 : Int32) else (if (128 ≤ C ∧ C ≤ 191) then (3 : Int32) else (0 : Int32))))) else (if Z < P + 3 then (0 : Int32) else (if B < 128 then (0 : Int32) else (if 191 < B then (0 : Int32) else (if (128 ≤ C ∧ C ≤ 191) then (3 : Int32) else (0 : Int32)))))))) else (if Z < P + 2 then (0 : Int32) else (if B < 128 then (0 : Int32) else (if 191 < B then (0 : Int32) else (2 : Int32))))))) = (if 127 < A then (if A < 192 then (0 : Int32) else (if 223 < A then (if 239 < A then (if 247 < A then (0 : Int32) else (if Z - P < 4 then (0 : Int32) else (if (B < 128 ∨ 191 < B) then (0 : Int32) else (if (C < 128 ∨ 191 < C) then (0 : Int32) else (if (D < 128 ∨ 191 < D) then (0 : Int32) else (if (A - 240) * 262144 + (B - 128) * 4096 + (C - 128) * 64 + (D - 128) < 65536 then (0 : Int32) else (if 1114111 < (A - 240) * 262144 + (B - 128) * 4096 + (C - 128) * 64 + (D - 128) then (0 : Int32) else (4 : Int32)))))))) else (if Z - P < 3 then (0 : Int32) else (if (B < 128 ∨ 191 < B) then (0 : Int32) else (if (C < 128 ∨ 191 < C) then (0 : Int32) else (if (A - 224) * 4096 + (B - 128) * 64 + (C - 128) < 2048 then (0 : Int32) else (if (A - 224) * 4096 + (B - 128) * 64 + (C - 128) < 55296 then (3 : Int32) else (if 57343 < (A - 224) * 4096 + (B - 128) * 64 + (C - 128) then (3 : Int32) else (0 : Int32)))))))) else (if Z - P < 2 then (0 : Int32) else (if (B < 128 ∨ 191 < B) then (0 : Int32) else (if (A - 192) * 64 + (B - 128) < 128 then (0 : Int32) else (2 : Int32)))))) else (1 : Int32)) := by
  repeat' (refine own_eq_ite (fun _ => ?_) (fun _ => ?_))
  all_goals (repeat' (first | refine own_eq_ite' (fun _ => ?_) (fun _ => ?_) | rfl | (exfalso; omega)))
set_option maxHeartbeats 40000000 in
theorem own_key (bs us : List Int32) (z p : Int32) (hb : ∀ j, bs.getD j 0 = own_byte (us.getD j 0)) (hu : ∀ j, 0 ≤ (us.getD j 0).toInt ∧ (us.getD j 0).toInt < 256) (hp : ¬ p < (0 : Int32)) (hpz : p < z) (hz : z < (9 : Int32)) :
    own_seq bs z p = own_lenf (us.getD (p).toNatClampNeg 0) (us.getD ((p + (1 : Int32))).toNatClampNeg 0) (us.getD ((p + (2 : Int32))).toNatClampNeg 0) (us.getD ((p + (3 : Int32))).toNatClampNeg 0) (z - p) := by
  simp only [own_seq, own_lenf, own_cont, hb, own_b255 (hu _), own_b192 (hu _)]
  have ha := hu (p).toNatClampNeg
  have hb' := hu ((p + (1 : Int32))).toNatClampNeg
  have hc := hu ((p + (2 : Int32))).toNatClampNeg
  have hd := hu ((p + (3 : Int32))).toNatClampNeg
  generalize us.getD (p).toNatClampNeg 0 = a at *
  generalize us.getD ((p + (1 : Int32))).toNatClampNeg 0 = b at *
  generalize us.getD ((p + (2 : Int32))).toNatClampNeg 0 = c at *
  generalize us.getD ((p + (3 : Int32))).toNatClampNeg 0 = d at *
  rw [own_i] at hp hpz hz
  have e0 : (0 : Int32).toInt = 0 := rfl
  have e9 : (9 : Int32).toInt = 9 := rfl
  have q2 : (p + (2 : Int32)).toInt = p.toInt + 2 := own_iadd (q := 2) (by show _ ≤ p.toInt + 2; omega) (by show p.toInt + 2 ≤ _; omega)
  have q3 : (p + (3 : Int32)).toInt = p.toInt + 3 := own_iadd (q := 3) (by show _ ≤ p.toInt + 3; omega) (by show p.toInt + 3 ≤ _; omega)
  have q4 : (p + (4 : Int32)).toInt = p.toInt + 4 := own_iadd (q := 4) (by show _ ≤ p.toInt + 4; omega) (by show p.toInt + 4 ≤ _; omega)
  have qv : (z - p).toInt = z.toInt - p.toInt := own_isub (by omega) (by omega)
  have r2 := own_cp2 a b ha hb'
  have r3 := own_cp3 a b c ha hb' hc
  have r4 := own_cp4 a b c d ha hb' hc hd
  have l0 : (0 : Int32).toInt = 0 := rfl
  have l1 : (1 : Int32).toInt = 1 := rfl
  have l2 : (2 : Int32).toInt = 2 := rfl
  have l3 : (3 : Int32).toInt = 3 := rfl
  have l4 : (4 : Int32).toInt = 4 := rfl
  have l127 : (127 : Int32).toInt = 127 := rfl
  have l128 : (128 : Int32).toInt = 128 := rfl
  have l143 : (143 : Int32).toInt = 143 := rfl
  have l144 : (144 : Int32).toInt = 144 := rfl
  have l159 : (159 : Int32).toInt = 159 := rfl
  have l160 : (160 : Int32).toInt = 160 := rfl
  have l191 : (191 : Int32).toInt = 191 := rfl
  have l192 : (192 : Int32).toInt = 192 := rfl
  have l194 : (194 : Int32).toInt = 194 := rfl
  have l223 : (223 : Int32).toInt = 223 := rfl
  have l224 : (224 : Int32).toInt = 224 := rfl
  have l237 : (237 : Int32).toInt = 237 := rfl
  have l239 : (239 : Int32).toInt = 239 := rfl
  have l240 : (240 : Int32).toInt = 240 := rfl
  have l244 : (244 : Int32).toInt = 244 := rfl
  have l247 : (247 : Int32).toInt = 247 := rfl
  have l2048 : (2048 : Int32).toInt = 2048 := rfl
  have l55296 : (55296 : Int32).toInt = 55296 := rfl
  have l57343 : (57343 : Int32).toInt = 57343 := rfl
  have l65536 : (65536 : Int32).toInt = 65536 := rfl
  have l1114111 : (1114111 : Int32).toInt = 1114111 := rfl
  have s0 : ∀ (P : Prop) [Decidable P], ((if P then (1 : Int32) else (0 : Int32)) = (0 : Int32)) = ¬ P := fun P _ => by by_cases h : P <;> simp [h]
  have s1 : ∀ (P Q : Prop) [Decidable P] [Decidable Q], ((if P then (0 : Int32) else (if Q then (0 : Int32) else (1 : Int32))) = (0 : Int32)) = (P ∨ Q) := fun P Q _ _ => by by_cases h : P <;> by_cases h' : Q <;> simp [h, h']
  simp only [s1]
  simp only [own_i, own_eqi, q2, q3, q4, qv, r2, r3, r4, l0, l1, l2, l3, l4, l127, l128, l143, l144, l159, l160, l191, l192, l194, l223, l224, l237, l239, l240, l244, l247, l2048, l55296, l57343, l65536, l1114111]
  exact congrArg Int32.toInt (own_core a.toInt b.toInt c.toInt d.toInt z.toInt p.toInt ha hb' hc hd)
def own_iter (f : Int32 → Int32) : Nat → Int32 → Int32
  | 0, p => p
  | g + 1, p => own_iter f g (f p)
theorem own_iter_fix (f : Int32 → Int32) (p : Int32) (h : f p = p) : ∀ g, own_iter f g p = p
  | 0 => rfl
  | g + 1 => by show own_iter f g (f p) = p; rw [h]; exact own_iter_fix f p h g
theorem own_getD (xs : List Int32) (j : Nat) (h : xs.length ≤ j) : xs.getD j 0 = 0 := by
  rw [List.getD_eq_getElem?_getD, List.getElem?_eq_none h]; rfl
theorem own_iter8 (f : Int32 → Int32) (p : Int32) : own_iter f 8 p = f (f (f (f (f (f (f (f p))))))) := rfl
theorem own_it (bs us : List Int32) (z : Int32) (hb : ∀ j, bs.getD j 0 = own_byte (us.getD j 0)) (hu : ∀ j, 0 ≤ (us.getD j 0).toInt ∧ (us.getD j 0).toInt < 256) (hz0 : ¬ z < (0 : Int32)) (hz : z < (9 : Int32)) :
    ∀ (f : Nat) (p : Int32) (g : Nat), ¬ p < (0 : Int32) → p.toInt ≤ z.toInt → z.toInt - p.toInt ≤ f → f ≤ g → own_loop bs z (f + 1) p = if own_iter (fun p => own_step us p z) g p = z then (1 : Int32) else (0 : Int32) := by
  have e0 : (0 : Int32).toInt = 0 := rfl
  intro f
  induction f with
  | zero =>
    intro p g hp h1 h2 hg
    have hpz : ¬ p < z := by rw [own_i]; omega
    have ep : p = z := Int32.toInt_inj.mp (by omega)
    rw [own_loop_s, if_neg hpz, own_iter_fix _ _ (by show own_step us p z = p; unfold own_step; rw [if_neg hp, if_neg hpz]), if_pos ep]
  | succ f ih =>
    intro p g hp h1 h2 hg
    by_cases hpz : p < z
    · obtain ⟨g, rfl⟩ : ∃ g', g = g' + 1 := ⟨g - 1, by omega⟩
      have key := own_key bs us z p hb hu hp hpz hz
      rw [own_loop_s, if_pos hpz]
      have hs : own_step us p z = if own_seq bs z p = 0 then (-1 : Int32) else p + own_seq bs z p := by
        unfold own_step; rw [if_neg hp, if_pos hpz, ← key]
      show _ = if own_iter (fun p => own_step us p z) g (own_step us p z) = z then _ else _
      rw [hs]
      by_cases hl : own_seq bs z p = 0
      · rw [if_pos hl, if_pos hl, own_iter_fix _ _ (by show own_step us (-1) z = -1; unfold own_step; rw [if_pos (by decide)])]
        rw [if_neg]
        intro q
        rw [← q] at hz0
        exact hz0 (by decide)
      · rw [if_neg hl, if_neg hl]
        obtain ⟨b1, b2, b3, b4⟩ := own_seq_le bs z p hp hpz hz hl
        rw [own_i] at hp
        exact ih _ g (by rw [own_i]; omega) (by omega) (by omega) (by omega)
    · have ep : p = z := Int32.toInt_inj.mp (by rw [own_i] at hpz; omega)
      rw [own_loop_s, if_neg hpz, own_iter_fix _ _ (by show own_step us p z = p; unfold own_step; rw [if_neg hp, if_neg hpz]), if_pos ep]
theorem own_unitR (x y : Int64) (i : Int32) : 0 ≤ (own_unit x y i).toInt ∧ (own_unit x y i).toInt < 256 := by
  unfold own_unit
  generalize ((x.toUInt64 >>> (((8 : Int32) * i) &&& 0x3f).toInt64.toUInt64).toInt64) = w
  have h1 := c_maskL w 255 8 (by decide) (by decide)
  have h2 : ((w &&& (255 : Int64)).toInt32).toInt = (w &&& 255).toInt := Jvm.Kit.i32_of_i64 (by omega) (by omega)
  split
  · omega
  · have h3 := c_mask ((w &&& (255 : Int64)).toInt32) 63 6 (by decide) (by decide)
    have h4 := c_or 128 (((w &&& (255 : Int64)).toInt32) &&& (63 : Int32)) 7 (by decide) 128 rfl (by decide) (by omega) (by omega)
    have c1 : (128 : Int32).toInt = 128 := rfl
    have h5 := Int32.toInt_lt ((128 : Int32) ||| (((w &&& (255 : Int64)).toInt32) &&& (63 : Int32)))
    have h6 := Int32.le_toInt ((128 : Int32) ||| (((w &&& (255 : Int64)).toInt32) &&& (63 : Int32)))
    omega
set_option maxHeartbeats 8000000 in
theorem own_fin (q0 q1 : Int64) (z : Int32) (hz0 : ¬ z < (0 : Int32)) (hz9 : z < (9 : Int32)) : own_loop (own_bs q0 q1) z 9 0 = if (own_stp q0 q1 z (own_stp q0 q1 z (own_stp q0 q1 z (own_stp q0 q1 z (own_stp q0 q1 z (own_stp q0 q1 z (own_stp q0 q1 z (own_stp q0 q1 z (0 : Int32))))))))) = z then (1 : Int32) else (0 : Int32) := by
  have e0 : (0 : Int32).toInt = 0 := rfl
  have e9 : (9 : Int32).toInt = 9 := rfl
  have z0 := hz0; have z9 := hz9
  rw [own_i] at z0 z9
  have h := own_it (own_bs q0 q1) (own_us q0 q1) z ?_ ?_ hz0 hz9 8 0 8 (by decide) (by omega) (by omega) (Nat.le_refl _)
  · rw [own_iter8] at h
    exact h
  all_goals intro j
  · rcases j with _ | _ | _ | _ | _ | _ | _ | _ | j
    · show nar .byte ((own_unit q0 q1 (0 : Int32)).toInt8.toInt32) = own_byte (own_unit q0 q1 (0 : Int32)); unfold own_byte; rfl
    · show nar .byte ((own_unit q0 q1 (1 : Int32)).toInt8.toInt32) = own_byte (own_unit q0 q1 (1 : Int32)); unfold own_byte; rfl
    · show nar .byte ((own_unit q0 q1 (2 : Int32)).toInt8.toInt32) = own_byte (own_unit q0 q1 (2 : Int32)); unfold own_byte; rfl
    · show nar .byte ((own_unit q0 q1 (3 : Int32)).toInt8.toInt32) = own_byte (own_unit q0 q1 (3 : Int32)); unfold own_byte; rfl
    · show nar .byte ((own_unit q0 q1 (4 : Int32)).toInt8.toInt32) = own_byte (own_unit q0 q1 (4 : Int32)); unfold own_byte; rfl
    · show nar .byte ((own_unit q0 q1 (5 : Int32)).toInt8.toInt32) = own_byte (own_unit q0 q1 (5 : Int32)); unfold own_byte; rfl
    · show nar .byte ((own_unit q0 q1 (6 : Int32)).toInt8.toInt32) = own_byte (own_unit q0 q1 (6 : Int32)); unfold own_byte; rfl
    · show nar .byte ((own_unit q0 q1 (7 : Int32)).toInt8.toInt32) = own_byte (own_unit q0 q1 (7 : Int32)); unfold own_byte; rfl
    · have e1 : (own_bs q0 q1).getD (j + 8) 0 = 0 := own_getD _ _ (by simp [own_bs])
      have e2 : (own_us q0 q1).getD (j + 8) 0 = 0 := by
        rcases j with _ | _ | _ | j
        · rfl
        · rfl
        · rfl
        · exact own_getD _ _ (by simp [own_us])
      rw [e1, e2]; decide
  · rcases j with _ | _ | _ | _ | _ | _ | _ | _ | j
    · exact own_unitR q0 q1 (0 : Int32)
    · exact own_unitR q0 q1 (1 : Int32)
    · exact own_unitR q0 q1 (2 : Int32)
    · exact own_unitR q0 q1 (3 : Int32)
    · exact own_unitR q0 q1 (4 : Int32)
    · exact own_unitR q0 q1 (5 : Int32)
    · exact own_unitR q0 q1 (6 : Int32)
    · exact own_unitR q0 q1 (7 : Int32)
    · have e2 : (own_us q0 q1).getD (j + 8) 0 = 0 := by
        rcases j with _ | _ | _ | j
        · rfl
        · rfl
        · rfl
        · exact own_getD _ _ (by simp [own_us])
      rw [e2]; decide
theorem pn_0 : plainName "com/example/ballast/ballast/model/Utf8TextIsUtf8PinLaw" = true := by first | (simp [plainName, overriddenIn]; done) | decide +kernel
theorem ef_0 (m : MethodId) (q0 : Int64) (q1 : Int64) (p2 : Int32) : entryFrame m #[(.long q0), (.long q1), (.int p2)] maxLocals = mkF m 0 #[.val (.long q0), .second, .val (.long q1), .second, .val (.int p2), .unset, .unset, .unset, .unset, .unset] [] := by first | (simp [entryFrame, mkF, argsToLocals, Value.category, maxLocals]; done) | rfl
theorem pd_3 : parseMethodDescriptor "(JJI)I" = some ⟨[.long, .long, .int], some .int⟩ := by decide +kernel
theorem pd_4 : parseMethodDescriptor "([III)I" = some ⟨[(.array .int), .int, .int], some .int⟩ := by decide +kernel
theorem pd_5 : parseMethodDescriptor "([B)Z" = some ⟨[(.array .byte)], some .boolean⟩ := by decide +kernel
def Q0 (Z : State) (q0 : Int64) (q1 : Int64) (p2 : Int32) (h0 : Heap) (n0 : Nat) (v : Option Value) (h : Heap) (L : List Loc) : Prop := v = some (.int 1) ∧ Fr n0 L ∧ True
set_option maxRecDepth 65536 in
set_option maxHeartbeats 40000000 in
theorem rm0 (l : Launch) (Z : State) (av0 : Array Value) (hw : ∀ d ∈ tables_1, d.before av0 Z = true) (ws : List Jvm.Cond) (q0 : Int64) (q1 : Int64) (p2 : Int32) (h0 : Heap) (n0 : Nat) (Z0 : n0 ≤ h0.size) :
    MetFree l x (head1 (Jvm.Cond.code x code maxLocals ret :: ws) room_1) (fun a U => a = #[(.long q0), (.long q1), (.int p2)] ∧ Z.Warmed39 U.vm ∧ U.heap = h0) (fun _ _ _ _ _ => True) (fun _ U o U' => ∃ v L, o = .returned v ∧ Q0 Z q0 q1 p2 h0 n0 v U'.heap L ∧ FrameEnd U o U' L room_1.cells room_1.slots) := by
  refine MetFree.of_bodySF (plainFor_of_name pn_0) hisR ?_
  intro p e s m args below meth c s₁ Bd hml0 hP hK
  obtain ⟨rfl, hZ, hh⟩ := hP
  have hx := Bd.exec
  have hby := Bd.bytes
  have hml : c.maxLocals = 10 := hml0
  have hown : s.vm.findClass "com/example/ballast/ballast/model/Utf8TextIsUtf8PinLaw" = some m.cls := findClass_of_methodNamed Bd.named
  have hnm := (name_of_methodNamed Bd.named Bd.method).1
  have X0 : Stand p l e room_1 s m #[(.long q0), (.long q1), (.int p2)] below meth c s₁ [] 0 0 := Stand.of_body Bd
  have e0 : s₁.heap = h0 := by rw [← hh, Bd.state]; rfl
  have N0 := Fr.nil n0
  have K0 : Keep h0 h0 [] := Keep.refl h0 []
  refine own_go (B := s₁.setTop (mkF m 0 #[.val (.long q0), .second, .val (.long q1), .second, .val (.int p2), .unset, .unset, .unset, .unset, .unset] [])) (fun t k => castTop (ef_0 m q0 q1 p2) k) ?_
  refine own_go (B := s₁.setTop (mkF m 12 #[.val (.long q0), .second, .val (.long q1), .second, .val (.int p2), .val (.int ((p2 &&& (2147483647 : Int32)) - ((p2 &&& (2147483647 : Int32)) / (9 : Int32)) * (9 : Int32))), .unset, .unset, .unset, .unset] [(.int (11 : Int32))])) (fun t k => ?_) ?_
  · show Steps p.tables e below (s₁.setTop (mkF m 0 #[.val (.long q0), .second, .val (.long q1), .second, .val (.int p2), .unset, .unset, .unset, .unset, .unset] [])) _
    refine XS.iload X0.here hx rfl (hb hby at_0) rfl ?_
    show Steps p.tables e below (s₁.setTop (mkF m 2 #[.val (.long q0), .second, .val (.long q1), .second, .val (.int p2), .unset, .unset, .unset, .unset, .unset] [(.int p2)])) _
    refine X0.ldcInt hx hown (mvT hZ (hw _ (List.mem_of_getElem? (i := 0) rfl))) (g := (mkF m 2 #[.val (.long q0), .second, .val (.long q1), .second, .val (.int p2), .unset, .unset, .unset, .unset, .unset] [(.int p2)])) rfl (hb hby at_2) _ ?_
    show Steps p.tables e below (s₁.setTop (mkF m 4 #[.val (.long q0), .second, .val (.long q1), .second, .val (.int p2), .unset, .unset, .unset, .unset, .unset] [(.int (2147483647 : Int32)), (.int p2)])) _
    refine XS.iand X0.here hx rfl (hb hby at_4) rfl ?_
    show Steps p.tables e below (s₁.setTop (mkF m 5 #[.val (.long q0), .second, .val (.long q1), .second, .val (.int p2), .unset, .unset, .unset, .unset, .unset] [(.int (p2 &&& (2147483647 : Int32)))])) _
    refine XS.bipush X0.here hx rfl (hb hby at_5) ?_
    show Steps p.tables e below (s₁.setTop (mkF m 7 #[.val (.long q0), .second, .val (.long q1), .second, .val (.int p2), .unset, .unset, .unset, .unset, .unset] [(.int (9 : Int32)), (.int (p2 &&& (2147483647 : Int32)))])) _
    refine XS.irem X0.here hx rfl (hb hby at_7) rfl (by decide) ?_
    show Steps p.tables e below (s₁.setTop (mkF m 8 #[.val (.long q0), .second, .val (.long q1), .second, .val (.int p2), .unset, .unset, .unset, .unset, .unset] [(.int ((p2 &&& (2147483647 : Int32)) - ((p2 &&& (2147483647 : Int32)) / (9 : Int32)) * (9 : Int32)))])) _
    refine XS.istore X0.here hx rfl (hb hby at_8) rfl (l' := #[.val (.long q0), .second, .val (.long q1), .second, .val (.int p2), .val (.int ((p2 &&& (2147483647 : Int32)) - ((p2 &&& (2147483647 : Int32)) / (9 : Int32)) * (9 : Int32))), .unset, .unset, .unset, .unset]) rfl ?_
    show Steps p.tables e below (s₁.setTop (mkF m 10 #[.val (.long q0), .second, .val (.long q1), .second, .val (.int p2), .val (.int ((p2 &&& (2147483647 : Int32)) - ((p2 &&& (2147483647 : Int32)) / (9 : Int32)) * (9 : Int32))), .unset, .unset, .unset, .unset] [])) _
    refine XS.bipush X0.here hx rfl (hb hby at_10) ?_
    exact k
  obtain ⟨z, hzq⟩ : ∃ z : Int32, z = ((p2 &&& (2147483647 : Int32)) - ((p2 &&& (2147483647 : Int32)) / (9 : Int32)) * (9 : Int32)) := ⟨_, rfl⟩
  rw [← hzq]
  have hz0 : ¬ z < (0 : Int32) := hzq ▸ (own_size p2).1
  have hz9 : z < (9 : Int32) := hzq ▸ (own_size p2).2
  · show ∃ s₂ o, Steps p.tables e below (s₁.setTop (mkF m 12 #[.val (.long q0), .second, .val (.long q1), .second, .val (.int p2), .val (.int z), .unset, .unset, .unset, .unset] [(.int (11 : Int32))])) s₂ ∧ _
    obtain ⟨T_1, h_1, k_1, X_1, e_1, E_1, A_1, st_1⟩ := newP X0 hx hZ (hw _ (List.mem_of_getElem? (i := 1) rfl)) e0 (g := (mkF m 12 #[.val (.long q0), .second, .val (.long q1), .second, .val (.int p2), .val (.int z), .unset, .unset, .unset, .unset] [(.int (11 : Int32))])) rfl (hb hby at_12) rfl (by decide) (cap := 11) (by decide) (by decide) (by decide) (by decide)
    obtain ⟨b_1, g_1⟩ : ∃ z, z = h0.size := ⟨_, rfl⟩
    rw [← g_1] at A_1 st_1
    have g_b_1 : n0 ≤ b_1 := Nat.le_trans Z0 (Nat.le_of_eq g_1.symm)
    have sz_b_1 : h0.size ≤ b_1 := Nat.le_trans K0.1 (Nat.le_of_eq g_1.symm)
    have c1 : Keep h0 h_1 [] := K0.ext E_1
    have Z0__1 : n0 ≤ h_1.size := Nat.le_trans Z0 E_1.1
    have V_b_1 : Arv Z h_1 b_1 k_1 .int (11 : Int32) [(.int (0 : Int32)), (.int (0 : Int32)), (.int (0 : Int32)), (.int (0 : Int32)), (.int (0 : Int32)), (.int (0 : Int32)), (.int (0 : Int32)), (.int (0 : Int32)), (.int (0 : Int32)), (.int (0 : Int32)), (.int (0 : Int32))] (.int (0 : Int32)) := (Arv.new A_1 (by decide)).pad (pad_rep [] (.int (0 : Int32)) 11)
    refine own_go (B := T_1.setTop (mkF m 14 #[.val (.long q0), .second, .val (.long q1), .second, .val (.int p2), .val (.int z), .unset, .unset, .unset, .unset] [(.ref b_1)])) (fun t k => st_1 t k) ?_
    refine own_go (B := T_1.setTop (mkF m 22 #[.val (.long q0), .second, .val (.long q1), .second, .val (.int p2), .val (.int z), .val (.ref b_1), .unset, .unset, .unset] [(.int (0 : Int32)), (.long q1), (.long q0), (.int (0 : Int32)), (.ref b_1)])) (fun t k => ?_) ?_
    · show Steps p.tables e below (T_1.setTop (mkF m 14 #[.val (.long q0), .second, .val (.long q1), .second, .val (.int p2), .val (.int z), .unset, .unset, .unset, .unset] [(.ref b_1)])) _
      refine XS.astore X_1.here hx rfl (hb hby at_14) rfl rfl (l' := #[.val (.long q0), .second, .val (.long q1), .second, .val (.int p2), .val (.int z), .val (.ref b_1), .unset, .unset, .unset]) rfl ?_
      show Steps p.tables e below (T_1.setTop (mkF m 16 #[.val (.long q0), .second, .val (.long q1), .second, .val (.int p2), .val (.int z), .val (.ref b_1), .unset, .unset, .unset] [])) _
      refine XS.aload X_1.here hx rfl (hb hby at_16) rfl rfl ?_
      show Steps p.tables e below (T_1.setTop (mkF m 18 #[.val (.long q0), .second, .val (.long q1), .second, .val (.int p2), .val (.int z), .val (.ref b_1), .unset, .unset, .unset] [(.ref b_1)])) _
      refine XS.iconst X_1.here hx rfl (hb hby at_18) ?_
      show Steps p.tables e below (T_1.setTop (mkF m 19 #[.val (.long q0), .second, .val (.long q1), .second, .val (.int p2), .val (.int z), .val (.ref b_1), .unset, .unset, .unset] [(.int (0 : Int32)), (.ref b_1)])) _
      refine XS.lloadN X_1.here hx rfl (hb hby at_19) rfl ?_
      show Steps p.tables e below (T_1.setTop (mkF m 20 #[.val (.long q0), .second, .val (.long q1), .second, .val (.int p2), .val (.int z), .val (.ref b_1), .unset, .unset, .unset] [(.long q0), (.int (0 : Int32)), (.ref b_1)])) _
      refine XS.lloadN X_1.here hx rfl (hb hby at_20) rfl ?_
      show Steps p.tables e below (T_1.setTop (mkF m 21 #[.val (.long q0), .second, .val (.long q1), .second, .val (.int p2), .val (.int z), .val (.ref b_1), .unset, .unset, .unset] [(.long q1), (.long q0), (.int (0 : Int32)), (.ref b_1)])) _
      refine XS.iconst X_1.here hx rfl (hb hby at_21) ?_
      exact k
    obtain ⟨_, _, ⟨T_2, L_2, k_2, n_2⟩, -, X_2, ⟨Lc_2, hQ_2, l_2, y_2, z_2⟩, st_2⟩ := Jvm.LawKit.callS X_1 hx (y := (⟨"com/example/ballast/ballast/model/Utf8TextIsUtf8PinLaw", "unit", "(JJI)I"⟩ : MethodName)) hown (mvT hZ (hw _ (List.mem_of_getElem? (i := 2) rfl))) (mvT hZ (hw _ (List.mem_of_getElem? (i := 3) rfl))) (mvT hZ (hw _ (List.mem_of_getElem? (i := 4) rfl))) (mvT hZ (hw _ (List.mem_of_getElem? (i := 5) rfl))) (by decide) (backOf (W := 2) (rm1 l Z av0 hw [] q0 q1 (0 : Int32)  h_1 n0 Z0__1 ) hZ (hw _ (List.mem_of_getElem? (i := 5) rfl)) (hw _ (List.mem_of_getElem? (i := 4) rfl)) (by decide) (by decide)) (g := (mkF m 22 #[.val (.long q0), .second, .val (.long q1), .second, .val (.int p2), .val (.int z), .val (.ref b_1), .unset, .unset, .unset] [(.int (0 : Int32)), (.long q1), (.long q0), (.int (0 : Int32)), (.ref b_1)])) rfl (by rw [hml]; rfl) (argsL := [(.long q0), (.long q1), (.int (0 : Int32))]) (rest := [(.int (0 : Int32)), (.ref b_1)]) (lenOf pd_3 rfl) rfl (by show 2 * 0 + _ ≤ _; exact Nat.le_of_eq rfl) (hb hby at_22) (fun _ _ => ⟨rfl, e_1, (by decide : 1 + 0 ≤ _), (by decide : 11 + 0 ≤ _)⟩)
    dsimp only [Pt.U, Pt.locs, Pt.cells, Pt.slots] at X_2 l_2 y_2 z_2 st_2 hQ_2
    subst l_2 y_2 z_2
    obtain ⟨rfl, N_2q, e_2⟩ := hQ_2
    have N_2 := Fr.app N0 N_2q
    refine own_go (B := T_2.setTop (mkF m 25 #[.val (.long q0), .second, .val (.long q1), .second, .val (.int p2), .val (.int z), .val (.ref b_1), .unset, .unset, .unset] [(.int (own_unit q0 q1 (0 : Int32))), (.int (0 : Int32)), (.ref b_1)])) (fun t k => st_2 t k) ?_
    obtain ⟨cl_3, Ar_3, q_3, S_3, M_3, H_3, G_3⟩ := id V_b_1
    have hin_3 : ¬ ((0 : Int32) < 0 ∨ cl_3.slots.size ≤ ((0 : Int32)).toNatClampNeg) := inb_of S_3 ⟨by decide, by decide⟩
    obtain ⟨T_3, h_3, X_3, e_3, W_3, st_3⟩ := stI X_2 hx hZ e_2 Ar_3 (j := (0 : Int32)) hin_3 (g := (mkF m 25 #[.val (.long q0), .second, .val (.long q1), .second, .val (.int p2), .val (.int z), .val (.ref b_1), .unset, .unset, .unset] [(.int (own_unit q0 q1 (0 : Int32))), (.int (0 : Int32)), (.ref b_1)])) rfl rfl (hb hby at_25)
    have c2 : Keep h0 h_3 [] := c1.wr W_3 (Or.inr sz_b_1)
    have V_3 : Arv Z h_3 b_1 k_1 .int (11 : Int32) [(.int (own_unit q0 q1 (0 : Int32))), (.int (0 : Int32)), (.int (0 : Int32)), (.int (0 : Int32)), (.int (0 : Int32)), (.int (0 : Int32)), (.int (0 : Int32)), (.int (0 : Int32)), (.int (0 : Int32)), (.int (0 : Int32)), (.int (0 : Int32))] (.int (0 : Int32)) := Arv.set Ar_3 q_3 S_3 M_3 H_3 G_3 rfl W_3 0 rfl (Nat.le_of_ble_eq_true rfl)
    have N_3 := Fr.snoc X_3 N_2 g_b_1
    have Z0__3 : n0 ≤ h_3.size := by rw [W_3.size]; exact Z0__1
    refine own_go (B := T_3.setTop (mkF m 26 #[.val (.long q0), .second, .val (.long q1), .second, .val (.int p2), .val (.int z), .val (.ref b_1), .unset, .unset, .unset] [])) (fun t k => st_3 t k) ?_
    refine own_go (B := T_3.setTop (mkF m 32 #[.val (.long q0), .second, .val (.long q1), .second, .val (.int p2), .val (.int z), .val (.ref b_1), .unset, .unset, .unset] [(.int (1 : Int32)), (.long q1), (.long q0), (.int (1 : Int32)), (.ref b_1)])) (fun t k => ?_) ?_
    · show Steps p.tables e below (T_3.setTop (mkF m 26 #[.val (.long q0), .second, .val (.long q1), .second, .val (.int p2), .val (.int z), .val (.ref b_1), .unset, .unset, .unset] [])) _
      refine XS.aload X_3.here hx rfl (hb hby at_26) rfl rfl ?_
      show Steps p.tables e below (T_3.setTop (mkF m 28 #[.val (.long q0), .second, .val (.long q1), .second, .val (.int p2), .val (.int z), .val (.ref b_1), .unset, .unset, .unset] [(.ref b_1)])) _
      refine XS.iconst X_3.here hx rfl (hb hby at_28) ?_
      show Steps p.tables e below (T_3.setTop (mkF m 29 #[.val (.long q0), .second, .val (.long q1), .second, .val (.int p2), .val (.int z), .val (.ref b_1), .unset, .unset, .unset] [(.int (1 : Int32)), (.ref b_1)])) _
      refine XS.lloadN X_3.here hx rfl (hb hby at_29) rfl ?_
      show Steps p.tables e below (T_3.setTop (mkF m 30 #[.val (.long q0), .second, .val (.long q1), .second, .val (.int p2), .val (.int z), .val (.ref b_1), .unset, .unset, .unset] [(.long q0), (.int (1 : Int32)), (.ref b_1)])) _
      refine XS.lloadN X_3.here hx rfl (hb hby at_30) rfl ?_
      show Steps p.tables e below (T_3.setTop (mkF m 31 #[.val (.long q0), .second, .val (.long q1), .second, .val (.int p2), .val (.int z), .val (.ref b_1), .unset, .unset, .unset] [(.long q1), (.long q0), (.int (1 : Int32)), (.ref b_1)])) _
      refine XS.iconst X_3.here hx rfl (hb hby at_31) ?_
      exact k
    obtain ⟨_, _, ⟨T_4, L_4, k_4, n_4⟩, -, X_4, ⟨Lc_4, hQ_4, l_4, y_4, z_4⟩, st_4⟩ := Jvm.LawKit.callS X_3 hx (y := (⟨"com/example/ballast/ballast/model/Utf8TextIsUtf8PinLaw", "unit", "(JJI)I"⟩ : MethodName)) hown (mvT hZ (hw _ (List.mem_of_getElem? (i := 2) rfl))) (mvT hZ (hw _ (List.mem_of_getElem? (i := 3) rfl))) (mvT hZ (hw _ (List.mem_of_getElem? (i := 4) rfl))) (mvT hZ (hw _ (List.mem_of_getElem? (i := 5) rfl))) (by decide) (backOf (W := 2) (rm1 l Z av0 hw [] q0 q1 (1 : Int32)  h_3 n0 Z0__3 ) hZ (hw _ (List.mem_of_getElem? (i := 5) rfl)) (hw _ (List.mem_of_getElem? (i := 4) rfl)) (by decide) (by decide)) (g := (mkF m 32 #[.val (.long q0), .second, .val (.long q1), .second, .val (.int p2), .val (.int z), .val (.ref b_1), .unset, .unset, .unset] [(.int (1 : Int32)), (.long q1), (.long q0), (.int (1 : Int32)), (.ref b_1)])) rfl (by rw [hml]; rfl) (argsL := [(.long q0), (.long q1), (.int (1 : Int32))]) (rest := [(.int (1 : Int32)), (.ref b_1)]) (lenOf pd_3 rfl) rfl (by show 2 * 0 + _ ≤ _; exact Nat.le_of_eq rfl) (hb hby at_32) (fun _ _ => ⟨rfl, e_3, (by decide : 1 + 0 ≤ _), (by decide : 11 + 0 ≤ _)⟩)
    dsimp only [Pt.U, Pt.locs, Pt.cells, Pt.slots] at X_4 l_4 y_4 z_4 st_4 hQ_4
    subst l_4 y_4 z_4
    obtain ⟨rfl, N_4q, e_4⟩ := hQ_4
    have N_4 := Fr.app N_3 N_4q
    refine own_go (B := T_4.setTop (mkF m 35 #[.val (.long q0), .second, .val (.long q1), .second, .val (.int p2), .val (.int z), .val (.ref b_1), .unset, .unset, .unset] [(.int (own_unit q0 q1 (1 : Int32))), (.int (1 : Int32)), (.ref b_1)])) (fun t k => st_4 t k) ?_
    obtain ⟨cl_5, Ar_5, q_5, S_5, M_5, H_5, G_5⟩ := id V_3
    have hin_5 : ¬ ((1 : Int32) < 0 ∨ cl_5.slots.size ≤ ((1 : Int32)).toNatClampNeg) := inb_of S_5 ⟨by decide, by decide⟩
    obtain ⟨T_5, h_5, X_5, e_5, W_5, st_5⟩ := stI X_4 hx hZ e_4 Ar_5 (j := (1 : Int32)) hin_5 (g := (mkF m 35 #[.val (.long q0), .second, .val (.long q1), .second, .val (.int p2), .val (.int z), .val (.ref b_1), .unset, .unset, .unset] [(.int (own_unit q0 q1 (1 : Int32))), (.int (1 : Int32)), (.ref b_1)])) rfl rfl (hb hby at_35)
    have c3 : Keep h0 h_5 [] := c2.wr W_5 (Or.inr sz_b_1)
    have V_5 : Arv Z h_5 b_1 k_1 .int (11 : Int32) [(.int (own_unit q0 q1 (0 : Int32))), (.int (own_unit q0 q1 (1 : Int32))), (.int (0 : Int32)), (.int (0 : Int32)), (.int (0 : Int32)), (.int (0 : Int32)), (.int (0 : Int32)), (.int (0 : Int32)), (.int (0 : Int32)), (.int (0 : Int32)), (.int (0 : Int32))] (.int (0 : Int32)) := Arv.set Ar_5 q_5 S_5 M_5 H_5 G_5 rfl W_5 1 rfl (Nat.le_of_ble_eq_true rfl)
    have N_5 := Fr.snoc X_5 N_4 g_b_1
    have Z0__5 : n0 ≤ h_5.size := by rw [W_5.size]; exact Z0__3
    refine own_go (B := T_5.setTop (mkF m 36 #[.val (.long q0), .second, .val (.long q1), .second, .val (.int p2), .val (.int z), .val (.ref b_1), .unset, .unset, .unset] [])) (fun t k => st_5 t k) ?_
    refine own_go (B := T_5.setTop (mkF m 42 #[.val (.long q0), .second, .val (.long q1), .second, .val (.int p2), .val (.int z), .val (.ref b_1), .unset, .unset, .unset] [(.int (2 : Int32)), (.long q1), (.long q0), (.int (2 : Int32)), (.ref b_1)])) (fun t k => ?_) ?_
    · show Steps p.tables e below (T_5.setTop (mkF m 36 #[.val (.long q0), .second, .val (.long q1), .second, .val (.int p2), .val (.int z), .val (.ref b_1), .unset, .unset, .unset] [])) _
      refine XS.aload X_5.here hx rfl (hb hby at_36) rfl rfl ?_
      show Steps p.tables e below (T_5.setTop (mkF m 38 #[.val (.long q0), .second, .val (.long q1), .second, .val (.int p2), .val (.int z), .val (.ref b_1), .unset, .unset, .unset] [(.ref b_1)])) _
      refine XS.iconst X_5.here hx rfl (hb hby at_38) ?_
      show Steps p.tables e below (T_5.setTop (mkF m 39 #[.val (.long q0), .second, .val (.long q1), .second, .val (.int p2), .val (.int z), .val (.ref b_1), .unset, .unset, .unset] [(.int (2 : Int32)), (.ref b_1)])) _
      refine XS.lloadN X_5.here hx rfl (hb hby at_39) rfl ?_
      show Steps p.tables e below (T_5.setTop (mkF m 40 #[.val (.long q0), .second, .val (.long q1), .second, .val (.int p2), .val (.int z), .val (.ref b_1), .unset, .unset, .unset] [(.long q0), (.int (2 : Int32)), (.ref b_1)])) _
      refine XS.lloadN X_5.here hx rfl (hb hby at_40) rfl ?_
      show Steps p.tables e below (T_5.setTop (mkF m 41 #[.val (.long q0), .second, .val (.long q1), .second, .val (.int p2), .val (.int z), .val (.ref b_1), .unset, .unset, .unset] [(.long q1), (.long q0), (.int (2 : Int32)), (.ref b_1)])) _
      refine XS.iconst X_5.here hx rfl (hb hby at_41) ?_
      exact k
    obtain ⟨_, _, ⟨T_6, L_6, k_6, n_6⟩, -, X_6, ⟨Lc_6, hQ_6, l_6, y_6, z_6⟩, st_6⟩ := Jvm.LawKit.callS X_5 hx (y := (⟨"com/example/ballast/ballast/model/Utf8TextIsUtf8PinLaw", "unit", "(JJI)I"⟩ : MethodName)) hown (mvT hZ (hw _ (List.mem_of_getElem? (i := 2) rfl))) (mvT hZ (hw _ (List.mem_of_getElem? (i := 3) rfl))) (mvT hZ (hw _ (List.mem_of_getElem? (i := 4) rfl))) (mvT hZ (hw _ (List.mem_of_getElem? (i := 5) rfl))) (by decide) (backOf (W := 2) (rm1 l Z av0 hw [] q0 q1 (2 : Int32)  h_5 n0 Z0__5 ) hZ (hw _ (List.mem_of_getElem? (i := 5) rfl)) (hw _ (List.mem_of_getElem? (i := 4) rfl)) (by decide) (by decide)) (g := (mkF m 42 #[.val (.long q0), .second, .val (.long q1), .second, .val (.int p2), .val (.int z), .val (.ref b_1), .unset, .unset, .unset] [(.int (2 : Int32)), (.long q1), (.long q0), (.int (2 : Int32)), (.ref b_1)])) rfl (by rw [hml]; rfl) (argsL := [(.long q0), (.long q1), (.int (2 : Int32))]) (rest := [(.int (2 : Int32)), (.ref b_1)]) (lenOf pd_3 rfl) rfl (by show 2 * 0 + _ ≤ _; exact Nat.le_of_eq rfl) (hb hby at_42) (fun _ _ => ⟨rfl, e_5, (by decide : 1 + 0 ≤ _), (by decide : 11 + 0 ≤ _)⟩)
    dsimp only [Pt.U, Pt.locs, Pt.cells, Pt.slots] at X_6 l_6 y_6 z_6 st_6 hQ_6
    subst l_6 y_6 z_6
    obtain ⟨rfl, N_6q, e_6⟩ := hQ_6
    have N_6 := Fr.app N_5 N_6q
    refine own_go (B := T_6.setTop (mkF m 45 #[.val (.long q0), .second, .val (.long q1), .second, .val (.int p2), .val (.int z), .val (.ref b_1), .unset, .unset, .unset] [(.int (own_unit q0 q1 (2 : Int32))), (.int (2 : Int32)), (.ref b_1)])) (fun t k => st_6 t k) ?_
    obtain ⟨cl_7, Ar_7, q_7, S_7, M_7, H_7, G_7⟩ := id V_5
    have hin_7 : ¬ ((2 : Int32) < 0 ∨ cl_7.slots.size ≤ ((2 : Int32)).toNatClampNeg) := inb_of S_7 ⟨by decide, by decide⟩
    obtain ⟨T_7, h_7, X_7, e_7, W_7, st_7⟩ := stI X_6 hx hZ e_6 Ar_7 (j := (2 : Int32)) hin_7 (g := (mkF m 45 #[.val (.long q0), .second, .val (.long q1), .second, .val (.int p2), .val (.int z), .val (.ref b_1), .unset, .unset, .unset] [(.int (own_unit q0 q1 (2 : Int32))), (.int (2 : Int32)), (.ref b_1)])) rfl rfl (hb hby at_45)
    have c4 : Keep h0 h_7 [] := c3.wr W_7 (Or.inr sz_b_1)
    have V_7 : Arv Z h_7 b_1 k_1 .int (11 : Int32) [(.int (own_unit q0 q1 (0 : Int32))), (.int (own_unit q0 q1 (1 : Int32))), (.int (own_unit q0 q1 (2 : Int32))), (.int (0 : Int32)), (.int (0 : Int32)), (.int (0 : Int32)), (.int (0 : Int32)), (.int (0 : Int32)), (.int (0 : Int32)), (.int (0 : Int32)), (.int (0 : Int32))] (.int (0 : Int32)) := Arv.set Ar_7 q_7 S_7 M_7 H_7 G_7 rfl W_7 2 rfl (Nat.le_of_ble_eq_true rfl)
    have N_7 := Fr.snoc X_7 N_6 g_b_1
    have Z0__7 : n0 ≤ h_7.size := by rw [W_7.size]; exact Z0__5
    refine own_go (B := T_7.setTop (mkF m 46 #[.val (.long q0), .second, .val (.long q1), .second, .val (.int p2), .val (.int z), .val (.ref b_1), .unset, .unset, .unset] [])) (fun t k => st_7 t k) ?_
    refine own_go (B := T_7.setTop (mkF m 52 #[.val (.long q0), .second, .val (.long q1), .second, .val (.int p2), .val (.int z), .val (.ref b_1), .unset, .unset, .unset] [(.int (3 : Int32)), (.long q1), (.long q0), (.int (3 : Int32)), (.ref b_1)])) (fun t k => ?_) ?_
    · show Steps p.tables e below (T_7.setTop (mkF m 46 #[.val (.long q0), .second, .val (.long q1), .second, .val (.int p2), .val (.int z), .val (.ref b_1), .unset, .unset, .unset] [])) _
      refine XS.aload X_7.here hx rfl (hb hby at_46) rfl rfl ?_
      show Steps p.tables e below (T_7.setTop (mkF m 48 #[.val (.long q0), .second, .val (.long q1), .second, .val (.int p2), .val (.int z), .val (.ref b_1), .unset, .unset, .unset] [(.ref b_1)])) _
      refine XS.iconst X_7.here hx rfl (hb hby at_48) ?_
      show Steps p.tables e below (T_7.setTop (mkF m 49 #[.val (.long q0), .second, .val (.long q1), .second, .val (.int p2), .val (.int z), .val (.ref b_1), .unset, .unset, .unset] [(.int (3 : Int32)), (.ref b_1)])) _
      refine XS.lloadN X_7.here hx rfl (hb hby at_49) rfl ?_
      show Steps p.tables e below (T_7.setTop (mkF m 50 #[.val (.long q0), .second, .val (.long q1), .second, .val (.int p2), .val (.int z), .val (.ref b_1), .unset, .unset, .unset] [(.long q0), (.int (3 : Int32)), (.ref b_1)])) _
      refine XS.lloadN X_7.here hx rfl (hb hby at_50) rfl ?_
      show Steps p.tables e below (T_7.setTop (mkF m 51 #[.val (.long q0), .second, .val (.long q1), .second, .val (.int p2), .val (.int z), .val (.ref b_1), .unset, .unset, .unset] [(.long q1), (.long q0), (.int (3 : Int32)), (.ref b_1)])) _
      refine XS.iconst X_7.here hx rfl (hb hby at_51) ?_
      exact k
    obtain ⟨_, _, ⟨T_8, L_8, k_8, n_8⟩, -, X_8, ⟨Lc_8, hQ_8, l_8, y_8, z_8⟩, st_8⟩ := Jvm.LawKit.callS X_7 hx (y := (⟨"com/example/ballast/ballast/model/Utf8TextIsUtf8PinLaw", "unit", "(JJI)I"⟩ : MethodName)) hown (mvT hZ (hw _ (List.mem_of_getElem? (i := 2) rfl))) (mvT hZ (hw _ (List.mem_of_getElem? (i := 3) rfl))) (mvT hZ (hw _ (List.mem_of_getElem? (i := 4) rfl))) (mvT hZ (hw _ (List.mem_of_getElem? (i := 5) rfl))) (by decide) (backOf (W := 2) (rm1 l Z av0 hw [] q0 q1 (3 : Int32)  h_7 n0 Z0__7 ) hZ (hw _ (List.mem_of_getElem? (i := 5) rfl)) (hw _ (List.mem_of_getElem? (i := 4) rfl)) (by decide) (by decide)) (g := (mkF m 52 #[.val (.long q0), .second, .val (.long q1), .second, .val (.int p2), .val (.int z), .val (.ref b_1), .unset, .unset, .unset] [(.int (3 : Int32)), (.long q1), (.long q0), (.int (3 : Int32)), (.ref b_1)])) rfl (by rw [hml]; rfl) (argsL := [(.long q0), (.long q1), (.int (3 : Int32))]) (rest := [(.int (3 : Int32)), (.ref b_1)]) (lenOf pd_3 rfl) rfl (by show 2 * 0 + _ ≤ _; exact Nat.le_of_eq rfl) (hb hby at_52) (fun _ _ => ⟨rfl, e_7, (by decide : 1 + 0 ≤ _), (by decide : 11 + 0 ≤ _)⟩)
    dsimp only [Pt.U, Pt.locs, Pt.cells, Pt.slots] at X_8 l_8 y_8 z_8 st_8 hQ_8
    subst l_8 y_8 z_8
    obtain ⟨rfl, N_8q, e_8⟩ := hQ_8
    have N_8 := Fr.app N_7 N_8q
    refine own_go (B := T_8.setTop (mkF m 55 #[.val (.long q0), .second, .val (.long q1), .second, .val (.int p2), .val (.int z), .val (.ref b_1), .unset, .unset, .unset] [(.int (own_unit q0 q1 (3 : Int32))), (.int (3 : Int32)), (.ref b_1)])) (fun t k => st_8 t k) ?_
    obtain ⟨cl_9, Ar_9, q_9, S_9, M_9, H_9, G_9⟩ := id V_7
    have hin_9 : ¬ ((3 : Int32) < 0 ∨ cl_9.slots.size ≤ ((3 : Int32)).toNatClampNeg) := inb_of S_9 ⟨by decide, by decide⟩
    obtain ⟨T_9, h_9, X_9, e_9, W_9, st_9⟩ := stI X_8 hx hZ e_8 Ar_9 (j := (3 : Int32)) hin_9 (g := (mkF m 55 #[.val (.long q0), .second, .val (.long q1), .second, .val (.int p2), .val (.int z), .val (.ref b_1), .unset, .unset, .unset] [(.int (own_unit q0 q1 (3 : Int32))), (.int (3 : Int32)), (.ref b_1)])) rfl rfl (hb hby at_55)
    have c5 : Keep h0 h_9 [] := c4.wr W_9 (Or.inr sz_b_1)
    have V_9 : Arv Z h_9 b_1 k_1 .int (11 : Int32) [(.int (own_unit q0 q1 (0 : Int32))), (.int (own_unit q0 q1 (1 : Int32))), (.int (own_unit q0 q1 (2 : Int32))), (.int (own_unit q0 q1 (3 : Int32))), (.int (0 : Int32)), (.int (0 : Int32)), (.int (0 : Int32)), (.int (0 : Int32)), (.int (0 : Int32)), (.int (0 : Int32)), (.int (0 : Int32))] (.int (0 : Int32)) := Arv.set Ar_9 q_9 S_9 M_9 H_9 G_9 rfl W_9 3 rfl (Nat.le_of_ble_eq_true rfl)
    have N_9 := Fr.snoc X_9 N_8 g_b_1
    have Z0__9 : n0 ≤ h_9.size := by rw [W_9.size]; exact Z0__7
    refine own_go (B := T_9.setTop (mkF m 56 #[.val (.long q0), .second, .val (.long q1), .second, .val (.int p2), .val (.int z), .val (.ref b_1), .unset, .unset, .unset] [])) (fun t k => st_9 t k) ?_
    refine own_go (B := T_9.setTop (mkF m 62 #[.val (.long q0), .second, .val (.long q1), .second, .val (.int p2), .val (.int z), .val (.ref b_1), .unset, .unset, .unset] [(.int (4 : Int32)), (.long q1), (.long q0), (.int (4 : Int32)), (.ref b_1)])) (fun t k => ?_) ?_
    · show Steps p.tables e below (T_9.setTop (mkF m 56 #[.val (.long q0), .second, .val (.long q1), .second, .val (.int p2), .val (.int z), .val (.ref b_1), .unset, .unset, .unset] [])) _
      refine XS.aload X_9.here hx rfl (hb hby at_56) rfl rfl ?_
      show Steps p.tables e below (T_9.setTop (mkF m 58 #[.val (.long q0), .second, .val (.long q1), .second, .val (.int p2), .val (.int z), .val (.ref b_1), .unset, .unset, .unset] [(.ref b_1)])) _
      refine XS.iconst X_9.here hx rfl (hb hby at_58) ?_
      show Steps p.tables e below (T_9.setTop (mkF m 59 #[.val (.long q0), .second, .val (.long q1), .second, .val (.int p2), .val (.int z), .val (.ref b_1), .unset, .unset, .unset] [(.int (4 : Int32)), (.ref b_1)])) _
      refine XS.lloadN X_9.here hx rfl (hb hby at_59) rfl ?_
      show Steps p.tables e below (T_9.setTop (mkF m 60 #[.val (.long q0), .second, .val (.long q1), .second, .val (.int p2), .val (.int z), .val (.ref b_1), .unset, .unset, .unset] [(.long q0), (.int (4 : Int32)), (.ref b_1)])) _
      refine XS.lloadN X_9.here hx rfl (hb hby at_60) rfl ?_
      show Steps p.tables e below (T_9.setTop (mkF m 61 #[.val (.long q0), .second, .val (.long q1), .second, .val (.int p2), .val (.int z), .val (.ref b_1), .unset, .unset, .unset] [(.long q1), (.long q0), (.int (4 : Int32)), (.ref b_1)])) _
      refine XS.iconst X_9.here hx rfl (hb hby at_61) ?_
      exact k
    obtain ⟨_, _, ⟨T_10, L_10, k_10, n_10⟩, -, X_10, ⟨Lc_10, hQ_10, l_10, y_10, z_10⟩, st_10⟩ := Jvm.LawKit.callS X_9 hx (y := (⟨"com/example/ballast/ballast/model/Utf8TextIsUtf8PinLaw", "unit", "(JJI)I"⟩ : MethodName)) hown (mvT hZ (hw _ (List.mem_of_getElem? (i := 2) rfl))) (mvT hZ (hw _ (List.mem_of_getElem? (i := 3) rfl))) (mvT hZ (hw _ (List.mem_of_getElem? (i := 4) rfl))) (mvT hZ (hw _ (List.mem_of_getElem? (i := 5) rfl))) (by decide) (backOf (W := 2) (rm1 l Z av0 hw [] q0 q1 (4 : Int32)  h_9 n0 Z0__9 ) hZ (hw _ (List.mem_of_getElem? (i := 5) rfl)) (hw _ (List.mem_of_getElem? (i := 4) rfl)) (by decide) (by decide)) (g := (mkF m 62 #[.val (.long q0), .second, .val (.long q1), .second, .val (.int p2), .val (.int z), .val (.ref b_1), .unset, .unset, .unset] [(.int (4 : Int32)), (.long q1), (.long q0), (.int (4 : Int32)), (.ref b_1)])) rfl (by rw [hml]; rfl) (argsL := [(.long q0), (.long q1), (.int (4 : Int32))]) (rest := [(.int (4 : Int32)), (.ref b_1)]) (lenOf pd_3 rfl) rfl (by show 2 * 0 + _ ≤ _; exact Nat.le_of_eq rfl) (hb hby at_62) (fun _ _ => ⟨rfl, e_9, (by decide : 1 + 0 ≤ _), (by decide : 11 + 0 ≤ _)⟩)
    dsimp only [Pt.U, Pt.locs, Pt.cells, Pt.slots] at X_10 l_10 y_10 z_10 st_10 hQ_10
    subst l_10 y_10 z_10
    obtain ⟨rfl, N_10q, e_10⟩ := hQ_10
    have N_10 := Fr.app N_9 N_10q
    refine own_go (B := T_10.setTop (mkF m 65 #[.val (.long q0), .second, .val (.long q1), .second, .val (.int p2), .val (.int z), .val (.ref b_1), .unset, .unset, .unset] [(.int (own_unit q0 q1 (4 : Int32))), (.int (4 : Int32)), (.ref b_1)])) (fun t k => st_10 t k) ?_
    obtain ⟨cl_11, Ar_11, q_11, S_11, M_11, H_11, G_11⟩ := id V_9
    have hin_11 : ¬ ((4 : Int32) < 0 ∨ cl_11.slots.size ≤ ((4 : Int32)).toNatClampNeg) := inb_of S_11 ⟨by decide, by decide⟩
    obtain ⟨T_11, h_11, X_11, e_11, W_11, st_11⟩ := stI X_10 hx hZ e_10 Ar_11 (j := (4 : Int32)) hin_11 (g := (mkF m 65 #[.val (.long q0), .second, .val (.long q1), .second, .val (.int p2), .val (.int z), .val (.ref b_1), .unset, .unset, .unset] [(.int (own_unit q0 q1 (4 : Int32))), (.int (4 : Int32)), (.ref b_1)])) rfl rfl (hb hby at_65)
    have c6 : Keep h0 h_11 [] := c5.wr W_11 (Or.inr sz_b_1)
    have V_11 : Arv Z h_11 b_1 k_1 .int (11 : Int32) [(.int (own_unit q0 q1 (0 : Int32))), (.int (own_unit q0 q1 (1 : Int32))), (.int (own_unit q0 q1 (2 : Int32))), (.int (own_unit q0 q1 (3 : Int32))), (.int (own_unit q0 q1 (4 : Int32))), (.int (0 : Int32)), (.int (0 : Int32)), (.int (0 : Int32)), (.int (0 : Int32)), (.int (0 : Int32)), (.int (0 : Int32))] (.int (0 : Int32)) := Arv.set Ar_11 q_11 S_11 M_11 H_11 G_11 rfl W_11 4 rfl (Nat.le_of_ble_eq_true rfl)
    have N_11 := Fr.snoc X_11 N_10 g_b_1
    have Z0__11 : n0 ≤ h_11.size := by rw [W_11.size]; exact Z0__9
    refine own_go (B := T_11.setTop (mkF m 66 #[.val (.long q0), .second, .val (.long q1), .second, .val (.int p2), .val (.int z), .val (.ref b_1), .unset, .unset, .unset] [])) (fun t k => st_11 t k) ?_
    refine own_go (B := T_11.setTop (mkF m 72 #[.val (.long q0), .second, .val (.long q1), .second, .val (.int p2), .val (.int z), .val (.ref b_1), .unset, .unset, .unset] [(.int (5 : Int32)), (.long q1), (.long q0), (.int (5 : Int32)), (.ref b_1)])) (fun t k => ?_) ?_
    · show Steps p.tables e below (T_11.setTop (mkF m 66 #[.val (.long q0), .second, .val (.long q1), .second, .val (.int p2), .val (.int z), .val (.ref b_1), .unset, .unset, .unset] [])) _
      refine XS.aload X_11.here hx rfl (hb hby at_66) rfl rfl ?_
      show Steps p.tables e below (T_11.setTop (mkF m 68 #[.val (.long q0), .second, .val (.long q1), .second, .val (.int p2), .val (.int z), .val (.ref b_1), .unset, .unset, .unset] [(.ref b_1)])) _
      refine XS.iconst X_11.here hx rfl (hb hby at_68) ?_
      show Steps p.tables e below (T_11.setTop (mkF m 69 #[.val (.long q0), .second, .val (.long q1), .second, .val (.int p2), .val (.int z), .val (.ref b_1), .unset, .unset, .unset] [(.int (5 : Int32)), (.ref b_1)])) _
      refine XS.lloadN X_11.here hx rfl (hb hby at_69) rfl ?_
      show Steps p.tables e below (T_11.setTop (mkF m 70 #[.val (.long q0), .second, .val (.long q1), .second, .val (.int p2), .val (.int z), .val (.ref b_1), .unset, .unset, .unset] [(.long q0), (.int (5 : Int32)), (.ref b_1)])) _
      refine XS.lloadN X_11.here hx rfl (hb hby at_70) rfl ?_
      show Steps p.tables e below (T_11.setTop (mkF m 71 #[.val (.long q0), .second, .val (.long q1), .second, .val (.int p2), .val (.int z), .val (.ref b_1), .unset, .unset, .unset] [(.long q1), (.long q0), (.int (5 : Int32)), (.ref b_1)])) _
      refine XS.iconst X_11.here hx rfl (hb hby at_71) ?_
      exact k
    obtain ⟨_, _, ⟨T_12, L_12, k_12, n_12⟩, -, X_12, ⟨Lc_12, hQ_12, l_12, y_12, z_12⟩, st_12⟩ := Jvm.LawKit.callS X_11 hx (y := (⟨"com/example/ballast/ballast/model/Utf8TextIsUtf8PinLaw", "unit", "(JJI)I"⟩ : MethodName)) hown (mvT hZ (hw _ (List.mem_of_getElem? (i := 2) rfl))) (mvT hZ (hw _ (List.mem_of_getElem? (i := 3) rfl))) (mvT hZ (hw _ (List.mem_of_getElem? (i := 4) rfl))) (mvT hZ (hw _ (List.mem_of_getElem? (i := 5) rfl))) (by decide) (backOf (W := 2) (rm1 l Z av0 hw [] q0 q1 (5 : Int32)  h_11 n0 Z0__11 ) hZ (hw _ (List.mem_of_getElem? (i := 5) rfl)) (hw _ (List.mem_of_getElem? (i := 4) rfl)) (by decide) (by decide)) (g := (mkF m 72 #[.val (.long q0), .second, .val (.long q1), .second, .val (.int p2), .val (.int z), .val (.ref b_1), .unset, .unset, .unset] [(.int (5 : Int32)), (.long q1), (.long q0), (.int (5 : Int32)), (.ref b_1)])) rfl (by rw [hml]; rfl) (argsL := [(.long q0), (.long q1), (.int (5 : Int32))]) (rest := [(.int (5 : Int32)), (.ref b_1)]) (lenOf pd_3 rfl) rfl (by show 2 * 0 + _ ≤ _; exact Nat.le_of_eq rfl) (hb hby at_72) (fun _ _ => ⟨rfl, e_11, (by decide : 1 + 0 ≤ _), (by decide : 11 + 0 ≤ _)⟩)
    dsimp only [Pt.U, Pt.locs, Pt.cells, Pt.slots] at X_12 l_12 y_12 z_12 st_12 hQ_12
    subst l_12 y_12 z_12
    obtain ⟨rfl, N_12q, e_12⟩ := hQ_12
    have N_12 := Fr.app N_11 N_12q
    refine own_go (B := T_12.setTop (mkF m 75 #[.val (.long q0), .second, .val (.long q1), .second, .val (.int p2), .val (.int z), .val (.ref b_1), .unset, .unset, .unset] [(.int (own_unit q0 q1 (5 : Int32))), (.int (5 : Int32)), (.ref b_1)])) (fun t k => st_12 t k) ?_
    obtain ⟨cl_13, Ar_13, q_13, S_13, M_13, H_13, G_13⟩ := id V_11
    have hin_13 : ¬ ((5 : Int32) < 0 ∨ cl_13.slots.size ≤ ((5 : Int32)).toNatClampNeg) := inb_of S_13 ⟨by decide, by decide⟩
    obtain ⟨T_13, h_13, X_13, e_13, W_13, st_13⟩ := stI X_12 hx hZ e_12 Ar_13 (j := (5 : Int32)) hin_13 (g := (mkF m 75 #[.val (.long q0), .second, .val (.long q1), .second, .val (.int p2), .val (.int z), .val (.ref b_1), .unset, .unset, .unset] [(.int (own_unit q0 q1 (5 : Int32))), (.int (5 : Int32)), (.ref b_1)])) rfl rfl (hb hby at_75)
    have c7 : Keep h0 h_13 [] := c6.wr W_13 (Or.inr sz_b_1)
    have V_13 : Arv Z h_13 b_1 k_1 .int (11 : Int32) [(.int (own_unit q0 q1 (0 : Int32))), (.int (own_unit q0 q1 (1 : Int32))), (.int (own_unit q0 q1 (2 : Int32))), (.int (own_unit q0 q1 (3 : Int32))), (.int (own_unit q0 q1 (4 : Int32))), (.int (own_unit q0 q1 (5 : Int32))), (.int (0 : Int32)), (.int (0 : Int32)), (.int (0 : Int32)), (.int (0 : Int32)), (.int (0 : Int32))] (.int (0 : Int32)) := Arv.set Ar_13 q_13 S_13 M_13 H_13 G_13 rfl W_13 5 rfl (Nat.le_of_ble_eq_true rfl)
    have N_13 := Fr.snoc X_13 N_12 g_b_1
    have Z0__13 : n0 ≤ h_13.size := by rw [W_13.size]; exact Z0__11
    refine own_go (B := T_13.setTop (mkF m 76 #[.val (.long q0), .second, .val (.long q1), .second, .val (.int p2), .val (.int z), .val (.ref b_1), .unset, .unset, .unset] [])) (fun t k => st_13 t k) ?_
    refine own_go (B := T_13.setTop (mkF m 84 #[.val (.long q0), .second, .val (.long q1), .second, .val (.int p2), .val (.int z), .val (.ref b_1), .unset, .unset, .unset] [(.int (6 : Int32)), (.long q1), (.long q0), (.int (6 : Int32)), (.ref b_1)])) (fun t k => ?_) ?_
    · show Steps p.tables e below (T_13.setTop (mkF m 76 #[.val (.long q0), .second, .val (.long q1), .second, .val (.int p2), .val (.int z), .val (.ref b_1), .unset, .unset, .unset] [])) _
      refine XS.aload X_13.here hx rfl (hb hby at_76) rfl rfl ?_
      show Steps p.tables e below (T_13.setTop (mkF m 78 #[.val (.long q0), .second, .val (.long q1), .second, .val (.int p2), .val (.int z), .val (.ref b_1), .unset, .unset, .unset] [(.ref b_1)])) _
      refine XS.bipush X_13.here hx rfl (hb hby at_78) ?_
      show Steps p.tables e below (T_13.setTop (mkF m 80 #[.val (.long q0), .second, .val (.long q1), .second, .val (.int p2), .val (.int z), .val (.ref b_1), .unset, .unset, .unset] [(.int (6 : Int32)), (.ref b_1)])) _
      refine XS.lloadN X_13.here hx rfl (hb hby at_80) rfl ?_
      show Steps p.tables e below (T_13.setTop (mkF m 81 #[.val (.long q0), .second, .val (.long q1), .second, .val (.int p2), .val (.int z), .val (.ref b_1), .unset, .unset, .unset] [(.long q0), (.int (6 : Int32)), (.ref b_1)])) _
      refine XS.lloadN X_13.here hx rfl (hb hby at_81) rfl ?_
      show Steps p.tables e below (T_13.setTop (mkF m 82 #[.val (.long q0), .second, .val (.long q1), .second, .val (.int p2), .val (.int z), .val (.ref b_1), .unset, .unset, .unset] [(.long q1), (.long q0), (.int (6 : Int32)), (.ref b_1)])) _
      refine XS.bipush X_13.here hx rfl (hb hby at_82) ?_
      exact k
    obtain ⟨_, _, ⟨T_14, L_14, k_14, n_14⟩, -, X_14, ⟨Lc_14, hQ_14, l_14, y_14, z_14⟩, st_14⟩ := Jvm.LawKit.callS X_13 hx (y := (⟨"com/example/ballast/ballast/model/Utf8TextIsUtf8PinLaw", "unit", "(JJI)I"⟩ : MethodName)) hown (mvT hZ (hw _ (List.mem_of_getElem? (i := 2) rfl))) (mvT hZ (hw _ (List.mem_of_getElem? (i := 3) rfl))) (mvT hZ (hw _ (List.mem_of_getElem? (i := 4) rfl))) (mvT hZ (hw _ (List.mem_of_getElem? (i := 5) rfl))) (by decide) (backOf (W := 2) (rm1 l Z av0 hw [] q0 q1 (6 : Int32)  h_13 n0 Z0__13 ) hZ (hw _ (List.mem_of_getElem? (i := 5) rfl)) (hw _ (List.mem_of_getElem? (i := 4) rfl)) (by decide) (by decide)) (g := (mkF m 84 #[.val (.long q0), .second, .val (.long q1), .second, .val (.int p2), .val (.int z), .val (.ref b_1), .unset, .unset, .unset] [(.int (6 : Int32)), (.long q1), (.long q0), (.int (6 : Int32)), (.ref b_1)])) rfl (by rw [hml]; rfl) (argsL := [(.long q0), (.long q1), (.int (6 : Int32))]) (rest := [(.int (6 : Int32)), (.ref b_1)]) (lenOf pd_3 rfl) rfl (by show 2 * 0 + _ ≤ _; exact Nat.le_of_eq rfl) (hb hby at_84) (fun _ _ => ⟨rfl, e_13, (by decide : 1 + 0 ≤ _), (by decide : 11 + 0 ≤ _)⟩)
    dsimp only [Pt.U, Pt.locs, Pt.cells, Pt.slots] at X_14 l_14 y_14 z_14 st_14 hQ_14
    subst l_14 y_14 z_14
    obtain ⟨rfl, N_14q, e_14⟩ := hQ_14
    have N_14 := Fr.app N_13 N_14q
    refine own_go (B := T_14.setTop (mkF m 87 #[.val (.long q0), .second, .val (.long q1), .second, .val (.int p2), .val (.int z), .val (.ref b_1), .unset, .unset, .unset] [(.int (own_unit q0 q1 (6 : Int32))), (.int (6 : Int32)), (.ref b_1)])) (fun t k => st_14 t k) ?_
    obtain ⟨cl_15, Ar_15, q_15, S_15, M_15, H_15, G_15⟩ := id V_13
    have hin_15 : ¬ ((6 : Int32) < 0 ∨ cl_15.slots.size ≤ ((6 : Int32)).toNatClampNeg) := inb_of S_15 ⟨by decide, by decide⟩
    obtain ⟨T_15, h_15, X_15, e_15, W_15, st_15⟩ := stI X_14 hx hZ e_14 Ar_15 (j := (6 : Int32)) hin_15 (g := (mkF m 87 #[.val (.long q0), .second, .val (.long q1), .second, .val (.int p2), .val (.int z), .val (.ref b_1), .unset, .unset, .unset] [(.int (own_unit q0 q1 (6 : Int32))), (.int (6 : Int32)), (.ref b_1)])) rfl rfl (hb hby at_87)
    have c8 : Keep h0 h_15 [] := c7.wr W_15 (Or.inr sz_b_1)
    have V_15 : Arv Z h_15 b_1 k_1 .int (11 : Int32) [(.int (own_unit q0 q1 (0 : Int32))), (.int (own_unit q0 q1 (1 : Int32))), (.int (own_unit q0 q1 (2 : Int32))), (.int (own_unit q0 q1 (3 : Int32))), (.int (own_unit q0 q1 (4 : Int32))), (.int (own_unit q0 q1 (5 : Int32))), (.int (own_unit q0 q1 (6 : Int32))), (.int (0 : Int32)), (.int (0 : Int32)), (.int (0 : Int32)), (.int (0 : Int32))] (.int (0 : Int32)) := Arv.set Ar_15 q_15 S_15 M_15 H_15 G_15 rfl W_15 6 rfl (Nat.le_of_ble_eq_true rfl)
    have N_15 := Fr.snoc X_15 N_14 g_b_1
    have Z0__15 : n0 ≤ h_15.size := by rw [W_15.size]; exact Z0__13
    refine own_go (B := T_15.setTop (mkF m 88 #[.val (.long q0), .second, .val (.long q1), .second, .val (.int p2), .val (.int z), .val (.ref b_1), .unset, .unset, .unset] [])) (fun t k => st_15 t k) ?_
    refine own_go (B := T_15.setTop (mkF m 96 #[.val (.long q0), .second, .val (.long q1), .second, .val (.int p2), .val (.int z), .val (.ref b_1), .unset, .unset, .unset] [(.int (7 : Int32)), (.long q1), (.long q0), (.int (7 : Int32)), (.ref b_1)])) (fun t k => ?_) ?_
    · show Steps p.tables e below (T_15.setTop (mkF m 88 #[.val (.long q0), .second, .val (.long q1), .second, .val (.int p2), .val (.int z), .val (.ref b_1), .unset, .unset, .unset] [])) _
      refine XS.aload X_15.here hx rfl (hb hby at_88) rfl rfl ?_
      show Steps p.tables e below (T_15.setTop (mkF m 90 #[.val (.long q0), .second, .val (.long q1), .second, .val (.int p2), .val (.int z), .val (.ref b_1), .unset, .unset, .unset] [(.ref b_1)])) _
      refine XS.bipush X_15.here hx rfl (hb hby at_90) ?_
      show Steps p.tables e below (T_15.setTop (mkF m 92 #[.val (.long q0), .second, .val (.long q1), .second, .val (.int p2), .val (.int z), .val (.ref b_1), .unset, .unset, .unset] [(.int (7 : Int32)), (.ref b_1)])) _
      refine XS.lloadN X_15.here hx rfl (hb hby at_92) rfl ?_
      show Steps p.tables e below (T_15.setTop (mkF m 93 #[.val (.long q0), .second, .val (.long q1), .second, .val (.int p2), .val (.int z), .val (.ref b_1), .unset, .unset, .unset] [(.long q0), (.int (7 : Int32)), (.ref b_1)])) _
      refine XS.lloadN X_15.here hx rfl (hb hby at_93) rfl ?_
      show Steps p.tables e below (T_15.setTop (mkF m 94 #[.val (.long q0), .second, .val (.long q1), .second, .val (.int p2), .val (.int z), .val (.ref b_1), .unset, .unset, .unset] [(.long q1), (.long q0), (.int (7 : Int32)), (.ref b_1)])) _
      refine XS.bipush X_15.here hx rfl (hb hby at_94) ?_
      exact k
    obtain ⟨_, _, ⟨T_16, L_16, k_16, n_16⟩, -, X_16, ⟨Lc_16, hQ_16, l_16, y_16, z_16⟩, st_16⟩ := Jvm.LawKit.callS X_15 hx (y := (⟨"com/example/ballast/ballast/model/Utf8TextIsUtf8PinLaw", "unit", "(JJI)I"⟩ : MethodName)) hown (mvT hZ (hw _ (List.mem_of_getElem? (i := 2) rfl))) (mvT hZ (hw _ (List.mem_of_getElem? (i := 3) rfl))) (mvT hZ (hw _ (List.mem_of_getElem? (i := 4) rfl))) (mvT hZ (hw _ (List.mem_of_getElem? (i := 5) rfl))) (by decide) (backOf (W := 2) (rm1 l Z av0 hw [] q0 q1 (7 : Int32)  h_15 n0 Z0__15 ) hZ (hw _ (List.mem_of_getElem? (i := 5) rfl)) (hw _ (List.mem_of_getElem? (i := 4) rfl)) (by decide) (by decide)) (g := (mkF m 96 #[.val (.long q0), .second, .val (.long q1), .second, .val (.int p2), .val (.int z), .val (.ref b_1), .unset, .unset, .unset] [(.int (7 : Int32)), (.long q1), (.long q0), (.int (7 : Int32)), (.ref b_1)])) rfl (by rw [hml]; rfl) (argsL := [(.long q0), (.long q1), (.int (7 : Int32))]) (rest := [(.int (7 : Int32)), (.ref b_1)]) (lenOf pd_3 rfl) rfl (by show 2 * 0 + _ ≤ _; exact Nat.le_of_eq rfl) (hb hby at_96) (fun _ _ => ⟨rfl, e_15, (by decide : 1 + 0 ≤ _), (by decide : 11 + 0 ≤ _)⟩)
    dsimp only [Pt.U, Pt.locs, Pt.cells, Pt.slots] at X_16 l_16 y_16 z_16 st_16 hQ_16
    subst l_16 y_16 z_16
    obtain ⟨rfl, N_16q, e_16⟩ := hQ_16
    have N_16 := Fr.app N_15 N_16q
    refine own_go (B := T_16.setTop (mkF m 99 #[.val (.long q0), .second, .val (.long q1), .second, .val (.int p2), .val (.int z), .val (.ref b_1), .unset, .unset, .unset] [(.int (own_unit q0 q1 (7 : Int32))), (.int (7 : Int32)), (.ref b_1)])) (fun t k => st_16 t k) ?_
    obtain ⟨cl_17, Ar_17, q_17, S_17, M_17, H_17, G_17⟩ := id V_15
    have hin_17 : ¬ ((7 : Int32) < 0 ∨ cl_17.slots.size ≤ ((7 : Int32)).toNatClampNeg) := inb_of S_17 ⟨by decide, by decide⟩
    obtain ⟨T_17, h_17, X_17, e_17, W_17, st_17⟩ := stI X_16 hx hZ e_16 Ar_17 (j := (7 : Int32)) hin_17 (g := (mkF m 99 #[.val (.long q0), .second, .val (.long q1), .second, .val (.int p2), .val (.int z), .val (.ref b_1), .unset, .unset, .unset] [(.int (own_unit q0 q1 (7 : Int32))), (.int (7 : Int32)), (.ref b_1)])) rfl rfl (hb hby at_99)
    have c9 : Keep h0 h_17 [] := c8.wr W_17 (Or.inr sz_b_1)
    have V_17 : Arv Z h_17 b_1 k_1 .int (11 : Int32) [(.int (own_unit q0 q1 (0 : Int32))), (.int (own_unit q0 q1 (1 : Int32))), (.int (own_unit q0 q1 (2 : Int32))), (.int (own_unit q0 q1 (3 : Int32))), (.int (own_unit q0 q1 (4 : Int32))), (.int (own_unit q0 q1 (5 : Int32))), (.int (own_unit q0 q1 (6 : Int32))), (.int (own_unit q0 q1 (7 : Int32))), (.int (0 : Int32)), (.int (0 : Int32)), (.int (0 : Int32))] (.int (0 : Int32)) := Arv.set Ar_17 q_17 S_17 M_17 H_17 G_17 rfl W_17 7 rfl (Nat.le_of_ble_eq_true rfl)
    have N_17 := Fr.snoc X_17 N_16 g_b_1
    have Z0__17 : n0 ≤ h_17.size := by rw [W_17.size]; exact Z0__15
    refine own_go (B := T_17.setTop (mkF m 100 #[.val (.long q0), .second, .val (.long q1), .second, .val (.int p2), .val (.int z), .val (.ref b_1), .unset, .unset, .unset] [])) (fun t k => st_17 t k) ?_
    refine own_go (B := T_17.setTop (mkF m 102 #[.val (.long q0), .second, .val (.long q1), .second, .val (.int p2), .val (.int z), .val (.ref b_1), .unset, .unset, .unset] [(.int z)])) (fun t k => ?_) ?_
    · show Steps p.tables e below (T_17.setTop (mkF m 100 #[.val (.long q0), .second, .val (.long q1), .second, .val (.int p2), .val (.int z), .val (.ref b_1), .unset, .unset, .unset] [])) _
      refine XS.iload X_17.here hx rfl (hb hby at_100) rfl ?_
      exact k
    obtain ⟨T_18, h_18, k_18, X_18, e_18, E_18, A_18, st_18⟩ := newP X_17 hx hZ (hw _ (List.mem_of_getElem? (i := 7) rfl)) e_17 (g := (mkF m 102 #[.val (.long q0), .second, .val (.long q1), .second, .val (.int p2), .val (.int z), .val (.ref b_1), .unset, .unset, .unset] [(.int z)])) rfl (hb hby at_102) rfl hz0 (cap := 8) (by rw [own_i] at hz9; have : (9 : Int32).toInt = 9 := rfl; simp only [Int32.toNatClampNeg]; omega) (by decide) (by decide) (by decide)
    obtain ⟨b_18, g_18⟩ : ∃ z, z = h_17.size := ⟨_, rfl⟩
    rw [← g_18] at A_18 st_18
    have g_b_18 : n0 ≤ b_18 := Nat.le_trans Z0__17 (Nat.le_of_eq g_18.symm)
    have sz_b_18 : h0.size ≤ b_18 := Nat.le_trans c9.1 (Nat.le_of_eq g_18.symm)
    have ne_b_1_b_18 : b_1 ≠ b_18 := Nat.ne_of_lt (Nat.lt_of_lt_of_le (V_17).lt (Nat.le_of_eq g_18.symm))
    have c10 : Keep h0 h_18 [] := c9.ext E_18
    have c11 := V_17.ext E_18
    have Z0__18 : n0 ≤ h_18.size := Nat.le_trans Z0__17 E_18.1
    have V_b_18 : Arv Z h_18 b_18 k_18 .byte z [(.int (0 : Int32)), (.int (0 : Int32)), (.int (0 : Int32)), (.int (0 : Int32)), (.int (0 : Int32)), (.int (0 : Int32)), (.int (0 : Int32)), (.int (0 : Int32))] (.int (0 : Int32)) := (Arv.new A_18 hz0).pad (pad_rep [] (.int (0 : Int32)) 8)
    refine own_go (B := T_18.setTop (mkF m 104 #[.val (.long q0), .second, .val (.long q1), .second, .val (.int p2), .val (.int z), .val (.ref b_1), .unset, .unset, .unset] [(.ref b_18)])) (fun t k => st_18 t k) ?_
    refine own_go (B := T_18.setTop (mkF m 108 #[.val (.long q0), .second, .val (.long q1), .second, .val (.int p2), .val (.int z), .val (.ref b_1), .val (.ref b_18), .unset, .unset] [(.int z)])) (fun t k => ?_) ?_
    · show Steps p.tables e below (T_18.setTop (mkF m 104 #[.val (.long q0), .second, .val (.long q1), .second, .val (.int p2), .val (.int z), .val (.ref b_1), .unset, .unset, .unset] [(.ref b_18)])) _
      refine XS.astore X_18.here hx rfl (hb hby at_104) rfl rfl (l' := #[.val (.long q0), .second, .val (.long q1), .second, .val (.int p2), .val (.int z), .val (.ref b_1), .val (.ref b_18), .unset, .unset]) rfl ?_
      show Steps p.tables e below (T_18.setTop (mkF m 106 #[.val (.long q0), .second, .val (.long q1), .second, .val (.int p2), .val (.int z), .val (.ref b_1), .val (.ref b_18), .unset, .unset] [])) _
      refine XS.iload X_18.here hx rfl (hb hby at_106) rfl ?_
      exact k
    obtain ⟨T_19, h_19, L_19, ⟨X_19, e_19, N_19, K_19, Z0__19, cj_19_0, cj_19_1⟩, st_19⟩ : ∃ (T' : State) (h' : Heap) (L' : List Loc), (Stand p l e room_1 s m #[(.long q0), (.long q1), (.int p2)] below meth c T' L' 2 19 ∧ T'.heap = h' ∧ Fr n0 L' ∧ Keep h0 h' [] ∧ n0 ≤ h'.size ∧ Arv Z h' b_1 k_1 .int (11 : Int32) [(.int (own_unit q0 q1 (0 : Int32))), (.int (own_unit q0 q1 (1 : Int32))), (.int (own_unit q0 q1 (2 : Int32))), (.int (own_unit q0 q1 (3 : Int32))), (.int (own_unit q0 q1 (4 : Int32))), (.int (own_unit q0 q1 (5 : Int32))), (.int (own_unit q0 q1 (6 : Int32))), (.int (own_unit q0 q1 (7 : Int32))), (.int (0 : Int32)), (.int (0 : Int32)), (.int (0 : Int32))] (.int (0 : Int32)) ∧ Arv Z h' b_18 k_18 .byte z [(.int (nar .byte ((own_unit q0 q1 (0 : Int32)).toInt8.toInt32))), (.int (0 : Int32)), (.int (0 : Int32)), (.int (0 : Int32)), (.int (0 : Int32)), (.int (0 : Int32)), (.int (0 : Int32)), (.int (0 : Int32))] (.int (0 : Int32))) ∧ ∀ t, Steps p.tables e below (T'.setTop (mkF m 120 #[.val (.long q0), .second, .val (.long q1), .second, .val (.int p2), .val (.int z), .val (.ref b_1), .val (.ref b_18), .unset, .unset] [])) t → Steps p.tables e below (T_18.setTop (mkF m 108 #[.val (.long q0), .second, .val (.long q1), .second, .val (.int p2), .val (.int z), .val (.ref b_1), .val (.ref b_18), .unset, .unset] [(.int z)])) t := by
      by_cases hc108 : (0 : Int32) < z
      · refine own_gj (B := T_18.setTop (mkF m 111 #[.val (.long q0), .second, .val (.long q1), .second, .val (.int p2), .val (.int z), .val (.ref b_1), .val (.ref b_18), .unset, .unset] [])) (fun t k => ?_) ?_
        · show Steps p.tables e below (T_18.setTop (mkF m 108 #[.val (.long q0), .second, .val (.long q1), .second, .val (.int p2), .val (.int z), .val (.ref b_1), .val (.ref b_18), .unset, .unset] [(.int z)])) _
          refine XS.ifNo X_18.here hx rfl (hb hby at_108) rfl ((if0 _ _).trans (tlt hc108).2.2.2) ?_
          exact k
        refine own_gj (B := T_18.setTop (mkF m 117 #[.val (.long q0), .second, .val (.long q1), .second, .val (.int p2), .val (.int z), .val (.ref b_1), .val (.ref b_18), .unset, .unset] [(.int (0 : Int32)), (.ref b_1), (.int (0 : Int32)), (.ref b_18)])) (fun t k => ?_) ?_
        · show Steps p.tables e below (T_18.setTop (mkF m 111 #[.val (.long q0), .second, .val (.long q1), .second, .val (.int p2), .val (.int z), .val (.ref b_1), .val (.ref b_18), .unset, .unset] [])) _
          refine XS.aload X_18.here hx rfl (hb hby at_111) rfl rfl ?_
          show Steps p.tables e below (T_18.setTop (mkF m 113 #[.val (.long q0), .second, .val (.long q1), .second, .val (.int p2), .val (.int z), .val (.ref b_1), .val (.ref b_18), .unset, .unset] [(.ref b_18)])) _
          refine XS.iconst X_18.here hx rfl (hb hby at_113) ?_
          show Steps p.tables e below (T_18.setTop (mkF m 114 #[.val (.long q0), .second, .val (.long q1), .second, .val (.int p2), .val (.int z), .val (.ref b_1), .val (.ref b_18), .unset, .unset] [(.int (0 : Int32)), (.ref b_18)])) _
          refine XS.aload X_18.here hx rfl (hb hby at_114) rfl rfl ?_
          show Steps p.tables e below (T_18.setTop (mkF m 116 #[.val (.long q0), .second, .val (.long q1), .second, .val (.int p2), .val (.int z), .val (.ref b_1), .val (.ref b_18), .unset, .unset] [(.ref b_1), (.int (0 : Int32)), (.ref b_18)])) _
          refine XS.iconst X_18.here hx rfl (hb hby at_116) ?_
          exact k
        obtain ⟨cl_20, Ar_20, q_20, S_20, M_20, H_20, G_20⟩ := id c11
        have hin_20 : ¬ ((0 : Int32) < 0 ∨ cl_20.slots.size ≤ ((0 : Int32)).toNatClampNeg) := inb_of S_20 ⟨by decide, by decide⟩
        have hat_20 : cl_20.slots[((0 : Int32)).toNatClampNeg]? = some (.int (own_unit q0 q1 (0 : Int32))) := H_20.at hin_20 rfl
        refine own_gj (B := T_18.setTop (mkF m 118 #[.val (.long q0), .second, .val (.long q1), .second, .val (.int p2), .val (.int z), .val (.ref b_1), .val (.ref b_18), .unset, .unset] [(.int (own_unit q0 q1 (0 : Int32))), (.int (0 : Int32)), (.ref b_18)])) (fun t k => X_18.iaload hx (j := (0 : Int32)) (v := (.int (own_unit q0 q1 (0 : Int32)))) (by rw [(e_18 : _ = _)]; exact Ar_20.1) (State.isArrayOf_alike hZ.alike Ar_20.2.1) Ar_20.2.2 hin_20 hat_20 (g := (mkF m 117 #[.val (.long q0), .second, .val (.long q1), .second, .val (.int p2), .val (.int z), .val (.ref b_1), .val (.ref b_18), .unset, .unset] [(.int (0 : Int32)), (.ref b_1), (.int (0 : Int32)), (.ref b_18)])) rfl rfl (hb hby at_117) t k) ?_
        refine own_gj (B := T_18.setTop (mkF m 119 #[.val (.long q0), .second, .val (.long q1), .second, .val (.int p2), .val (.int z), .val (.ref b_1), .val (.ref b_18), .unset, .unset] [(.int ((own_unit q0 q1 (0 : Int32)).toInt8.toInt32)), (.int (0 : Int32)), (.ref b_18)])) (fun t k => ?_) ?_
        · show Steps p.tables e below (T_18.setTop (mkF m 118 #[.val (.long q0), .second, .val (.long q1), .second, .val (.int p2), .val (.int z), .val (.ref b_1), .val (.ref b_18), .unset, .unset] [(.int (own_unit q0 q1 (0 : Int32))), (.int (0 : Int32)), (.ref b_18)])) _
          refine XS.i2b X_18.here hx rfl (hb hby at_118) rfl ?_
          exact k
        obtain ⟨cl_21, Ar_21, q_21, S_21, M_21, H_21, G_21⟩ := id V_b_18
        have hin_21 : ¬ ((0 : Int32) < 0 ∨ cl_21.slots.size ≤ ((0 : Int32)).toNatClampNeg) := inb_of S_21 ⟨by decide, hc108⟩
        obtain ⟨T_21, h_21, X_21, e_21, W_21, st_21⟩ := stB X_18 hx hZ e_18 Ar_21 (j := (0 : Int32)) hin_21 (g := (mkF m 119 #[.val (.long q0), .second, .val (.long q1), .second, .val (.int p2), .val (.int z), .val (.ref b_1), .val (.ref b_18), .unset, .unset] [(.int ((own_unit q0 q1 (0 : Int32)).toInt8.toInt32)), (.int (0 : Int32)), (.ref b_18)])) rfl rfl (hb hby at_119)
        have c12 : Keep h0 h_21 [] := c10.wr W_21 (Or.inr sz_b_18)
        have c13 := c11.other W_21 ne_b_1_b_18
        have V_21 : Arv Z h_21 b_18 k_18 .byte z [(.int (nar .byte ((own_unit q0 q1 (0 : Int32)).toInt8.toInt32))), (.int (0 : Int32)), (.int (0 : Int32)), (.int (0 : Int32)), (.int (0 : Int32)), (.int (0 : Int32)), (.int (0 : Int32)), (.int (0 : Int32))] (.int (0 : Int32)) := Arv.set Ar_21 q_21 S_21 M_21 H_21 G_21 (fits_nar_byte _) W_21 0 rfl (Nat.le_of_ble_eq_true rfl)
        have N_21 := Fr.snoc X_21 N_17 g_b_18
        have Z0__21 : n0 ≤ h_21.size := by rw [W_21.size]; exact Z0__18
        refine own_gj (B := T_21.setTop (mkF m 120 #[.val (.long q0), .second, .val (.long q1), .second, .val (.int p2), .val (.int z), .val (.ref b_1), .val (.ref b_18), .unset, .unset] [])) (fun t k => st_21 t k) ?_
        exact ⟨T_21, _, _, ⟨X_21, e_21, N_21, c12, Z0__21, c13, V_21⟩, fun t k => k⟩
      · refine own_gj (B := T_18.setTop (mkF m 120 #[.val (.long q0), .second, .val (.long q1), .second, .val (.int p2), .val (.int z), .val (.ref b_1), .val (.ref b_18), .unset, .unset] [])) (fun t k => ?_) ?_
        · show Steps p.tables e below (T_18.setTop (mkF m 108 #[.val (.long q0), .second, .val (.long q1), .second, .val (.int p2), .val (.int z), .val (.ref b_1), .val (.ref b_18), .unset, .unset] [(.int z)])) _
          refine XS.ifYes X_18.here hx rfl (pc0 := 108) (pc' := 120) rfl (hb hby at_108) rfl ((if0 _ _).trans (flt hc108).2.2.2) (by decide) (by decide) ?_
          exact k
        exact ⟨T_18, _, _, ⟨X_18, e_18, N_17, c10, Z0__18, c11, (own_arw V_b_18 0 (.int (nar .byte ((own_unit q0 q1 (0 : Int32)).toInt8.toInt32))) (own_clamp z 0 0 rfl hc108))⟩, fun t k => k⟩
    refine own_go (B := T_19.setTop (mkF m 120 #[.val (.long q0), .second, .val (.long q1), .second, .val (.int p2), .val (.int z), .val (.ref b_1), .val (.ref b_18), .unset, .unset] [])) (fun t k => st_19 t k) ?_
    refine own_go (B := T_19.setTop (mkF m 123 #[.val (.long q0), .second, .val (.long q1), .second, .val (.int p2), .val (.int z), .val (.ref b_1), .val (.ref b_18), .unset, .unset] [(.int (1 : Int32)), (.int z)])) (fun t k => ?_) ?_
    · show Steps p.tables e below (T_19.setTop (mkF m 120 #[.val (.long q0), .second, .val (.long q1), .second, .val (.int p2), .val (.int z), .val (.ref b_1), .val (.ref b_18), .unset, .unset] [])) _
      refine XS.iload X_19.here hx rfl (hb hby at_120) rfl ?_
      show Steps p.tables e below (T_19.setTop (mkF m 122 #[.val (.long q0), .second, .val (.long q1), .second, .val (.int p2), .val (.int z), .val (.ref b_1), .val (.ref b_18), .unset, .unset] [(.int z)])) _
      refine XS.iconst X_19.here hx rfl (hb hby at_122) ?_
      exact k
    obtain ⟨T_22, h_22, L_22, ⟨X_22, e_22, N_22, K_22, Z0__22, cj_22_0, cj_22_1⟩, st_22⟩ : ∃ (T' : State) (h' : Heap) (L' : List Loc), (Stand p l e room_1 s m #[(.long q0), (.long q1), (.int p2)] below meth c T' L' 2 19 ∧ T'.heap = h' ∧ Fr n0 L' ∧ Keep h0 h' [] ∧ n0 ≤ h'.size ∧ Arv Z h' b_1 k_1 .int (11 : Int32) [(.int (own_unit q0 q1 (0 : Int32))), (.int (own_unit q0 q1 (1 : Int32))), (.int (own_unit q0 q1 (2 : Int32))), (.int (own_unit q0 q1 (3 : Int32))), (.int (own_unit q0 q1 (4 : Int32))), (.int (own_unit q0 q1 (5 : Int32))), (.int (own_unit q0 q1 (6 : Int32))), (.int (own_unit q0 q1 (7 : Int32))), (.int (0 : Int32)), (.int (0 : Int32)), (.int (0 : Int32))] (.int (0 : Int32)) ∧ Arv Z h' b_18 k_18 .byte z [(.int (nar .byte ((own_unit q0 q1 (0 : Int32)).toInt8.toInt32))), (.int (nar .byte ((own_unit q0 q1 (1 : Int32)).toInt8.toInt32))), (.int (0 : Int32)), (.int (0 : Int32)), (.int (0 : Int32)), (.int (0 : Int32)), (.int (0 : Int32)), (.int (0 : Int32))] (.int (0 : Int32))) ∧ ∀ t, Steps p.tables e below (T'.setTop (mkF m 135 #[.val (.long q0), .second, .val (.long q1), .second, .val (.int p2), .val (.int z), .val (.ref b_1), .val (.ref b_18), .unset, .unset] [])) t → Steps p.tables e below (T_19.setTop (mkF m 123 #[.val (.long q0), .second, .val (.long q1), .second, .val (.int p2), .val (.int z), .val (.ref b_1), .val (.ref b_18), .unset, .unset] [(.int (1 : Int32)), (.int z)])) t := by
      by_cases hc123 : (1 : Int32) < z
      · refine own_gj (B := T_19.setTop (mkF m 126 #[.val (.long q0), .second, .val (.long q1), .second, .val (.int p2), .val (.int z), .val (.ref b_1), .val (.ref b_18), .unset, .unset] [])) (fun t k => ?_) ?_
        · show Steps p.tables e below (T_19.setTop (mkF m 123 #[.val (.long q0), .second, .val (.long q1), .second, .val (.int p2), .val (.int z), .val (.ref b_1), .val (.ref b_18), .unset, .unset] [(.int (1 : Int32)), (.int z)])) _
          refine XS.icmpNo X_19.here hx rfl (hb hby at_123) rfl (tlt hc123).2.2.2 ?_
          exact k
        refine own_gj (B := T_19.setTop (mkF m 132 #[.val (.long q0), .second, .val (.long q1), .second, .val (.int p2), .val (.int z), .val (.ref b_1), .val (.ref b_18), .unset, .unset] [(.int (1 : Int32)), (.ref b_1), (.int (1 : Int32)), (.ref b_18)])) (fun t k => ?_) ?_
        · show Steps p.tables e below (T_19.setTop (mkF m 126 #[.val (.long q0), .second, .val (.long q1), .second, .val (.int p2), .val (.int z), .val (.ref b_1), .val (.ref b_18), .unset, .unset] [])) _
          refine XS.aload X_19.here hx rfl (hb hby at_126) rfl rfl ?_
          show Steps p.tables e below (T_19.setTop (mkF m 128 #[.val (.long q0), .second, .val (.long q1), .second, .val (.int p2), .val (.int z), .val (.ref b_1), .val (.ref b_18), .unset, .unset] [(.ref b_18)])) _
          refine XS.iconst X_19.here hx rfl (hb hby at_128) ?_
          show Steps p.tables e below (T_19.setTop (mkF m 129 #[.val (.long q0), .second, .val (.long q1), .second, .val (.int p2), .val (.int z), .val (.ref b_1), .val (.ref b_18), .unset, .unset] [(.int (1 : Int32)), (.ref b_18)])) _
          refine XS.aload X_19.here hx rfl (hb hby at_129) rfl rfl ?_
          show Steps p.tables e below (T_19.setTop (mkF m 131 #[.val (.long q0), .second, .val (.long q1), .second, .val (.int p2), .val (.int z), .val (.ref b_1), .val (.ref b_18), .unset, .unset] [(.ref b_1), (.int (1 : Int32)), (.ref b_18)])) _
          refine XS.iconst X_19.here hx rfl (hb hby at_131) ?_
          exact k
        obtain ⟨cl_23, Ar_23, q_23, S_23, M_23, H_23, G_23⟩ := id cj_19_0
        have hin_23 : ¬ ((1 : Int32) < 0 ∨ cl_23.slots.size ≤ ((1 : Int32)).toNatClampNeg) := inb_of S_23 ⟨by decide, by decide⟩
        have hat_23 : cl_23.slots[((1 : Int32)).toNatClampNeg]? = some (.int (own_unit q0 q1 (1 : Int32))) := H_23.at hin_23 rfl
        refine own_gj (B := T_19.setTop (mkF m 133 #[.val (.long q0), .second, .val (.long q1), .second, .val (.int p2), .val (.int z), .val (.ref b_1), .val (.ref b_18), .unset, .unset] [(.int (own_unit q0 q1 (1 : Int32))), (.int (1 : Int32)), (.ref b_18)])) (fun t k => X_19.iaload hx (j := (1 : Int32)) (v := (.int (own_unit q0 q1 (1 : Int32)))) (by rw [(e_19 : _ = _)]; exact Ar_23.1) (State.isArrayOf_alike hZ.alike Ar_23.2.1) Ar_23.2.2 hin_23 hat_23 (g := (mkF m 132 #[.val (.long q0), .second, .val (.long q1), .second, .val (.int p2), .val (.int z), .val (.ref b_1), .val (.ref b_18), .unset, .unset] [(.int (1 : Int32)), (.ref b_1), (.int (1 : Int32)), (.ref b_18)])) rfl rfl (hb hby at_132) t k) ?_
        refine own_gj (B := T_19.setTop (mkF m 134 #[.val (.long q0), .second, .val (.long q1), .second, .val (.int p2), .val (.int z), .val (.ref b_1), .val (.ref b_18), .unset, .unset] [(.int ((own_unit q0 q1 (1 : Int32)).toInt8.toInt32)), (.int (1 : Int32)), (.ref b_18)])) (fun t k => ?_) ?_
        · show Steps p.tables e below (T_19.setTop (mkF m 133 #[.val (.long q0), .second, .val (.long q1), .second, .val (.int p2), .val (.int z), .val (.ref b_1), .val (.ref b_18), .unset, .unset] [(.int (own_unit q0 q1 (1 : Int32))), (.int (1 : Int32)), (.ref b_18)])) _
          refine XS.i2b X_19.here hx rfl (hb hby at_133) rfl ?_
          exact k
        obtain ⟨cl_24, Ar_24, q_24, S_24, M_24, H_24, G_24⟩ := id cj_19_1
        have hin_24 : ¬ ((1 : Int32) < 0 ∨ cl_24.slots.size ≤ ((1 : Int32)).toNatClampNeg) := inb_of S_24 ⟨by decide, hc123⟩
        obtain ⟨T_24, h_24, X_24, e_24, W_24, st_24⟩ := stB X_19 hx hZ e_19 Ar_24 (j := (1 : Int32)) hin_24 (g := (mkF m 134 #[.val (.long q0), .second, .val (.long q1), .second, .val (.int p2), .val (.int z), .val (.ref b_1), .val (.ref b_18), .unset, .unset] [(.int ((own_unit q0 q1 (1 : Int32)).toInt8.toInt32)), (.int (1 : Int32)), (.ref b_18)])) rfl rfl (hb hby at_134)
        have c14 : Keep h0 h_24 [] := K_19.wr W_24 (Or.inr sz_b_18)
        have c15 := cj_19_0.other W_24 ne_b_1_b_18
        have V_24 : Arv Z h_24 b_18 k_18 .byte z [(.int (nar .byte ((own_unit q0 q1 (0 : Int32)).toInt8.toInt32))), (.int (nar .byte ((own_unit q0 q1 (1 : Int32)).toInt8.toInt32))), (.int (0 : Int32)), (.int (0 : Int32)), (.int (0 : Int32)), (.int (0 : Int32)), (.int (0 : Int32)), (.int (0 : Int32))] (.int (0 : Int32)) := Arv.set Ar_24 q_24 S_24 M_24 H_24 G_24 (fits_nar_byte _) W_24 1 rfl (Nat.le_of_ble_eq_true rfl)
        have N_24 := Fr.snoc X_24 N_19 g_b_18
        have Z0__24 : n0 ≤ h_24.size := by rw [W_24.size]; exact Z0__19
        refine own_gj (B := T_24.setTop (mkF m 135 #[.val (.long q0), .second, .val (.long q1), .second, .val (.int p2), .val (.int z), .val (.ref b_1), .val (.ref b_18), .unset, .unset] [])) (fun t k => st_24 t k) ?_
        exact ⟨T_24, _, _, ⟨X_24, e_24, N_24, c14, Z0__24, c15, V_24⟩, fun t k => k⟩
      · refine own_gj (B := T_19.setTop (mkF m 135 #[.val (.long q0), .second, .val (.long q1), .second, .val (.int p2), .val (.int z), .val (.ref b_1), .val (.ref b_18), .unset, .unset] [])) (fun t k => ?_) ?_
        · show Steps p.tables e below (T_19.setTop (mkF m 123 #[.val (.long q0), .second, .val (.long q1), .second, .val (.int p2), .val (.int z), .val (.ref b_1), .val (.ref b_18), .unset, .unset] [(.int (1 : Int32)), (.int z)])) _
          refine XS.icmpYes X_19.here hx rfl (pc0 := 123) (pc' := 135) rfl (hb hby at_123) rfl (flt hc123).2.2.2 (by decide) (by decide) ?_
          exact k
        exact ⟨T_19, _, _, ⟨X_19, e_19, N_19, K_19, Z0__19, cj_19_0, (own_arw cj_19_1 1 (.int (nar .byte ((own_unit q0 q1 (1 : Int32)).toInt8.toInt32))) (own_clamp z 1 1 rfl hc123))⟩, fun t k => k⟩
    refine own_go (B := T_22.setTop (mkF m 135 #[.val (.long q0), .second, .val (.long q1), .second, .val (.int p2), .val (.int z), .val (.ref b_1), .val (.ref b_18), .unset, .unset] [])) (fun t k => st_22 t k) ?_
    refine own_go (B := T_22.setTop (mkF m 138 #[.val (.long q0), .second, .val (.long q1), .second, .val (.int p2), .val (.int z), .val (.ref b_1), .val (.ref b_18), .unset, .unset] [(.int (2 : Int32)), (.int z)])) (fun t k => ?_) ?_
    · show Steps p.tables e below (T_22.setTop (mkF m 135 #[.val (.long q0), .second, .val (.long q1), .second, .val (.int p2), .val (.int z), .val (.ref b_1), .val (.ref b_18), .unset, .unset] [])) _
      refine XS.iload X_22.here hx rfl (hb hby at_135) rfl ?_
      show Steps p.tables e below (T_22.setTop (mkF m 137 #[.val (.long q0), .second, .val (.long q1), .second, .val (.int p2), .val (.int z), .val (.ref b_1), .val (.ref b_18), .unset, .unset] [(.int z)])) _
      refine XS.iconst X_22.here hx rfl (hb hby at_137) ?_
      exact k
    obtain ⟨T_25, h_25, L_25, ⟨X_25, e_25, N_25, K_25, Z0__25, cj_25_0, cj_25_1⟩, st_25⟩ : ∃ (T' : State) (h' : Heap) (L' : List Loc), (Stand p l e room_1 s m #[(.long q0), (.long q1), (.int p2)] below meth c T' L' 2 19 ∧ T'.heap = h' ∧ Fr n0 L' ∧ Keep h0 h' [] ∧ n0 ≤ h'.size ∧ Arv Z h' b_1 k_1 .int (11 : Int32) [(.int (own_unit q0 q1 (0 : Int32))), (.int (own_unit q0 q1 (1 : Int32))), (.int (own_unit q0 q1 (2 : Int32))), (.int (own_unit q0 q1 (3 : Int32))), (.int (own_unit q0 q1 (4 : Int32))), (.int (own_unit q0 q1 (5 : Int32))), (.int (own_unit q0 q1 (6 : Int32))), (.int (own_unit q0 q1 (7 : Int32))), (.int (0 : Int32)), (.int (0 : Int32)), (.int (0 : Int32))] (.int (0 : Int32)) ∧ Arv Z h' b_18 k_18 .byte z [(.int (nar .byte ((own_unit q0 q1 (0 : Int32)).toInt8.toInt32))), (.int (nar .byte ((own_unit q0 q1 (1 : Int32)).toInt8.toInt32))), (.int (nar .byte ((own_unit q0 q1 (2 : Int32)).toInt8.toInt32))), (.int (0 : Int32)), (.int (0 : Int32)), (.int (0 : Int32)), (.int (0 : Int32)), (.int (0 : Int32))] (.int (0 : Int32))) ∧ ∀ t, Steps p.tables e below (T'.setTop (mkF m 150 #[.val (.long q0), .second, .val (.long q1), .second, .val (.int p2), .val (.int z), .val (.ref b_1), .val (.ref b_18), .unset, .unset] [])) t → Steps p.tables e below (T_22.setTop (mkF m 138 #[.val (.long q0), .second, .val (.long q1), .second, .val (.int p2), .val (.int z), .val (.ref b_1), .val (.ref b_18), .unset, .unset] [(.int (2 : Int32)), (.int z)])) t := by
      by_cases hc138 : (2 : Int32) < z
      · refine own_gj (B := T_22.setTop (mkF m 141 #[.val (.long q0), .second, .val (.long q1), .second, .val (.int p2), .val (.int z), .val (.ref b_1), .val (.ref b_18), .unset, .unset] [])) (fun t k => ?_) ?_
        · show Steps p.tables e below (T_22.setTop (mkF m 138 #[.val (.long q0), .second, .val (.long q1), .second, .val (.int p2), .val (.int z), .val (.ref b_1), .val (.ref b_18), .unset, .unset] [(.int (2 : Int32)), (.int z)])) _
          refine XS.icmpNo X_22.here hx rfl (hb hby at_138) rfl (tlt hc138).2.2.2 ?_
          exact k
        refine own_gj (B := T_22.setTop (mkF m 147 #[.val (.long q0), .second, .val (.long q1), .second, .val (.int p2), .val (.int z), .val (.ref b_1), .val (.ref b_18), .unset, .unset] [(.int (2 : Int32)), (.ref b_1), (.int (2 : Int32)), (.ref b_18)])) (fun t k => ?_) ?_
        · show Steps p.tables e below (T_22.setTop (mkF m 141 #[.val (.long q0), .second, .val (.long q1), .second, .val (.int p2), .val (.int z), .val (.ref b_1), .val (.ref b_18), .unset, .unset] [])) _
          refine XS.aload X_22.here hx rfl (hb hby at_141) rfl rfl ?_
          show Steps p.tables e below (T_22.setTop (mkF m 143 #[.val (.long q0), .second, .val (.long q1), .second, .val (.int p2), .val (.int z), .val (.ref b_1), .val (.ref b_18), .unset, .unset] [(.ref b_18)])) _
          refine XS.iconst X_22.here hx rfl (hb hby at_143) ?_
          show Steps p.tables e below (T_22.setTop (mkF m 144 #[.val (.long q0), .second, .val (.long q1), .second, .val (.int p2), .val (.int z), .val (.ref b_1), .val (.ref b_18), .unset, .unset] [(.int (2 : Int32)), (.ref b_18)])) _
          refine XS.aload X_22.here hx rfl (hb hby at_144) rfl rfl ?_
          show Steps p.tables e below (T_22.setTop (mkF m 146 #[.val (.long q0), .second, .val (.long q1), .second, .val (.int p2), .val (.int z), .val (.ref b_1), .val (.ref b_18), .unset, .unset] [(.ref b_1), (.int (2 : Int32)), (.ref b_18)])) _
          refine XS.iconst X_22.here hx rfl (hb hby at_146) ?_
          exact k
        obtain ⟨cl_26, Ar_26, q_26, S_26, M_26, H_26, G_26⟩ := id cj_22_0
        have hin_26 : ¬ ((2 : Int32) < 0 ∨ cl_26.slots.size ≤ ((2 : Int32)).toNatClampNeg) := inb_of S_26 ⟨by decide, by decide⟩
        have hat_26 : cl_26.slots[((2 : Int32)).toNatClampNeg]? = some (.int (own_unit q0 q1 (2 : Int32))) := H_26.at hin_26 rfl
        refine own_gj (B := T_22.setTop (mkF m 148 #[.val (.long q0), .second, .val (.long q1), .second, .val (.int p2), .val (.int z), .val (.ref b_1), .val (.ref b_18), .unset, .unset] [(.int (own_unit q0 q1 (2 : Int32))), (.int (2 : Int32)), (.ref b_18)])) (fun t k => X_22.iaload hx (j := (2 : Int32)) (v := (.int (own_unit q0 q1 (2 : Int32)))) (by rw [(e_22 : _ = _)]; exact Ar_26.1) (State.isArrayOf_alike hZ.alike Ar_26.2.1) Ar_26.2.2 hin_26 hat_26 (g := (mkF m 147 #[.val (.long q0), .second, .val (.long q1), .second, .val (.int p2), .val (.int z), .val (.ref b_1), .val (.ref b_18), .unset, .unset] [(.int (2 : Int32)), (.ref b_1), (.int (2 : Int32)), (.ref b_18)])) rfl rfl (hb hby at_147) t k) ?_
        refine own_gj (B := T_22.setTop (mkF m 149 #[.val (.long q0), .second, .val (.long q1), .second, .val (.int p2), .val (.int z), .val (.ref b_1), .val (.ref b_18), .unset, .unset] [(.int ((own_unit q0 q1 (2 : Int32)).toInt8.toInt32)), (.int (2 : Int32)), (.ref b_18)])) (fun t k => ?_) ?_
        · show Steps p.tables e below (T_22.setTop (mkF m 148 #[.val (.long q0), .second, .val (.long q1), .second, .val (.int p2), .val (.int z), .val (.ref b_1), .val (.ref b_18), .unset, .unset] [(.int (own_unit q0 q1 (2 : Int32))), (.int (2 : Int32)), (.ref b_18)])) _
          refine XS.i2b X_22.here hx rfl (hb hby at_148) rfl ?_
          exact k
        obtain ⟨cl_27, Ar_27, q_27, S_27, M_27, H_27, G_27⟩ := id cj_22_1
        have hin_27 : ¬ ((2 : Int32) < 0 ∨ cl_27.slots.size ≤ ((2 : Int32)).toNatClampNeg) := inb_of S_27 ⟨by decide, hc138⟩
        obtain ⟨T_27, h_27, X_27, e_27, W_27, st_27⟩ := stB X_22 hx hZ e_22 Ar_27 (j := (2 : Int32)) hin_27 (g := (mkF m 149 #[.val (.long q0), .second, .val (.long q1), .second, .val (.int p2), .val (.int z), .val (.ref b_1), .val (.ref b_18), .unset, .unset] [(.int ((own_unit q0 q1 (2 : Int32)).toInt8.toInt32)), (.int (2 : Int32)), (.ref b_18)])) rfl rfl (hb hby at_149)
        have c16 : Keep h0 h_27 [] := K_22.wr W_27 (Or.inr sz_b_18)
        have c17 := cj_22_0.other W_27 ne_b_1_b_18
        have V_27 : Arv Z h_27 b_18 k_18 .byte z [(.int (nar .byte ((own_unit q0 q1 (0 : Int32)).toInt8.toInt32))), (.int (nar .byte ((own_unit q0 q1 (1 : Int32)).toInt8.toInt32))), (.int (nar .byte ((own_unit q0 q1 (2 : Int32)).toInt8.toInt32))), (.int (0 : Int32)), (.int (0 : Int32)), (.int (0 : Int32)), (.int (0 : Int32)), (.int (0 : Int32))] (.int (0 : Int32)) := Arv.set Ar_27 q_27 S_27 M_27 H_27 G_27 (fits_nar_byte _) W_27 2 rfl (Nat.le_of_ble_eq_true rfl)
        have N_27 := Fr.snoc X_27 N_22 g_b_18
        have Z0__27 : n0 ≤ h_27.size := by rw [W_27.size]; exact Z0__22
        refine own_gj (B := T_27.setTop (mkF m 150 #[.val (.long q0), .second, .val (.long q1), .second, .val (.int p2), .val (.int z), .val (.ref b_1), .val (.ref b_18), .unset, .unset] [])) (fun t k => st_27 t k) ?_
        exact ⟨T_27, _, _, ⟨X_27, e_27, N_27, c16, Z0__27, c17, V_27⟩, fun t k => k⟩
      · refine own_gj (B := T_22.setTop (mkF m 150 #[.val (.long q0), .second, .val (.long q1), .second, .val (.int p2), .val (.int z), .val (.ref b_1), .val (.ref b_18), .unset, .unset] [])) (fun t k => ?_) ?_
        · show Steps p.tables e below (T_22.setTop (mkF m 138 #[.val (.long q0), .second, .val (.long q1), .second, .val (.int p2), .val (.int z), .val (.ref b_1), .val (.ref b_18), .unset, .unset] [(.int (2 : Int32)), (.int z)])) _
          refine XS.icmpYes X_22.here hx rfl (pc0 := 138) (pc' := 150) rfl (hb hby at_138) rfl (flt hc138).2.2.2 (by decide) (by decide) ?_
          exact k
        exact ⟨T_22, _, _, ⟨X_22, e_22, N_22, K_22, Z0__22, cj_22_0, (own_arw cj_22_1 2 (.int (nar .byte ((own_unit q0 q1 (2 : Int32)).toInt8.toInt32))) (own_clamp z 2 2 rfl hc138))⟩, fun t k => k⟩
    refine own_go (B := T_25.setTop (mkF m 150 #[.val (.long q0), .second, .val (.long q1), .second, .val (.int p2), .val (.int z), .val (.ref b_1), .val (.ref b_18), .unset, .unset] [])) (fun t k => st_25 t k) ?_
    refine own_go (B := T_25.setTop (mkF m 153 #[.val (.long q0), .second, .val (.long q1), .second, .val (.int p2), .val (.int z), .val (.ref b_1), .val (.ref b_18), .unset, .unset] [(.int (3 : Int32)), (.int z)])) (fun t k => ?_) ?_
    · show Steps p.tables e below (T_25.setTop (mkF m 150 #[.val (.long q0), .second, .val (.long q1), .second, .val (.int p2), .val (.int z), .val (.ref b_1), .val (.ref b_18), .unset, .unset] [])) _
      refine XS.iload X_25.here hx rfl (hb hby at_150) rfl ?_
      show Steps p.tables e below (T_25.setTop (mkF m 152 #[.val (.long q0), .second, .val (.long q1), .second, .val (.int p2), .val (.int z), .val (.ref b_1), .val (.ref b_18), .unset, .unset] [(.int z)])) _
      refine XS.iconst X_25.here hx rfl (hb hby at_152) ?_
      exact k
    obtain ⟨T_28, h_28, L_28, ⟨X_28, e_28, N_28, K_28, Z0__28, cj_28_0, cj_28_1⟩, st_28⟩ : ∃ (T' : State) (h' : Heap) (L' : List Loc), (Stand p l e room_1 s m #[(.long q0), (.long q1), (.int p2)] below meth c T' L' 2 19 ∧ T'.heap = h' ∧ Fr n0 L' ∧ Keep h0 h' [] ∧ n0 ≤ h'.size ∧ Arv Z h' b_1 k_1 .int (11 : Int32) [(.int (own_unit q0 q1 (0 : Int32))), (.int (own_unit q0 q1 (1 : Int32))), (.int (own_unit q0 q1 (2 : Int32))), (.int (own_unit q0 q1 (3 : Int32))), (.int (own_unit q0 q1 (4 : Int32))), (.int (own_unit q0 q1 (5 : Int32))), (.int (own_unit q0 q1 (6 : Int32))), (.int (own_unit q0 q1 (7 : Int32))), (.int (0 : Int32)), (.int (0 : Int32)), (.int (0 : Int32))] (.int (0 : Int32)) ∧ Arv Z h' b_18 k_18 .byte z [(.int (nar .byte ((own_unit q0 q1 (0 : Int32)).toInt8.toInt32))), (.int (nar .byte ((own_unit q0 q1 (1 : Int32)).toInt8.toInt32))), (.int (nar .byte ((own_unit q0 q1 (2 : Int32)).toInt8.toInt32))), (.int (nar .byte ((own_unit q0 q1 (3 : Int32)).toInt8.toInt32))), (.int (0 : Int32)), (.int (0 : Int32)), (.int (0 : Int32)), (.int (0 : Int32))] (.int (0 : Int32))) ∧ ∀ t, Steps p.tables e below (T'.setTop (mkF m 165 #[.val (.long q0), .second, .val (.long q1), .second, .val (.int p2), .val (.int z), .val (.ref b_1), .val (.ref b_18), .unset, .unset] [])) t → Steps p.tables e below (T_25.setTop (mkF m 153 #[.val (.long q0), .second, .val (.long q1), .second, .val (.int p2), .val (.int z), .val (.ref b_1), .val (.ref b_18), .unset, .unset] [(.int (3 : Int32)), (.int z)])) t := by
      by_cases hc153 : (3 : Int32) < z
      · refine own_gj (B := T_25.setTop (mkF m 156 #[.val (.long q0), .second, .val (.long q1), .second, .val (.int p2), .val (.int z), .val (.ref b_1), .val (.ref b_18), .unset, .unset] [])) (fun t k => ?_) ?_
        · show Steps p.tables e below (T_25.setTop (mkF m 153 #[.val (.long q0), .second, .val (.long q1), .second, .val (.int p2), .val (.int z), .val (.ref b_1), .val (.ref b_18), .unset, .unset] [(.int (3 : Int32)), (.int z)])) _
          refine XS.icmpNo X_25.here hx rfl (hb hby at_153) rfl (tlt hc153).2.2.2 ?_
          exact k
        refine own_gj (B := T_25.setTop (mkF m 162 #[.val (.long q0), .second, .val (.long q1), .second, .val (.int p2), .val (.int z), .val (.ref b_1), .val (.ref b_18), .unset, .unset] [(.int (3 : Int32)), (.ref b_1), (.int (3 : Int32)), (.ref b_18)])) (fun t k => ?_) ?_
        · show Steps p.tables e below (T_25.setTop (mkF m 156 #[.val (.long q0), .second, .val (.long q1), .second, .val (.int p2), .val (.int z), .val (.ref b_1), .val (.ref b_18), .unset, .unset] [])) _
          refine XS.aload X_25.here hx rfl (hb hby at_156) rfl rfl ?_
          show Steps p.tables e below (T_25.setTop (mkF m 158 #[.val (.long q0), .second, .val (.long q1), .second, .val (.int p2), .val (.int z), .val (.ref b_1), .val (.ref b_18), .unset, .unset] [(.ref b_18)])) _
          refine XS.iconst X_25.here hx rfl (hb hby at_158) ?_
          show Steps p.tables e below (T_25.setTop (mkF m 159 #[.val (.long q0), .second, .val (.long q1), .second, .val (.int p2), .val (.int z), .val (.ref b_1), .val (.ref b_18), .unset, .unset] [(.int (3 : Int32)), (.ref b_18)])) _
          refine XS.aload X_25.here hx rfl (hb hby at_159) rfl rfl ?_
          show Steps p.tables e below (T_25.setTop (mkF m 161 #[.val (.long q0), .second, .val (.long q1), .second, .val (.int p2), .val (.int z), .val (.ref b_1), .val (.ref b_18), .unset, .unset] [(.ref b_1), (.int (3 : Int32)), (.ref b_18)])) _
          refine XS.iconst X_25.here hx rfl (hb hby at_161) ?_
          exact k
        obtain ⟨cl_29, Ar_29, q_29, S_29, M_29, H_29, G_29⟩ := id cj_25_0
        have hin_29 : ¬ ((3 : Int32) < 0 ∨ cl_29.slots.size ≤ ((3 : Int32)).toNatClampNeg) := inb_of S_29 ⟨by decide, by decide⟩
        have hat_29 : cl_29.slots[((3 : Int32)).toNatClampNeg]? = some (.int (own_unit q0 q1 (3 : Int32))) := H_29.at hin_29 rfl
        refine own_gj (B := T_25.setTop (mkF m 163 #[.val (.long q0), .second, .val (.long q1), .second, .val (.int p2), .val (.int z), .val (.ref b_1), .val (.ref b_18), .unset, .unset] [(.int (own_unit q0 q1 (3 : Int32))), (.int (3 : Int32)), (.ref b_18)])) (fun t k => X_25.iaload hx (j := (3 : Int32)) (v := (.int (own_unit q0 q1 (3 : Int32)))) (by rw [(e_25 : _ = _)]; exact Ar_29.1) (State.isArrayOf_alike hZ.alike Ar_29.2.1) Ar_29.2.2 hin_29 hat_29 (g := (mkF m 162 #[.val (.long q0), .second, .val (.long q1), .second, .val (.int p2), .val (.int z), .val (.ref b_1), .val (.ref b_18), .unset, .unset] [(.int (3 : Int32)), (.ref b_1), (.int (3 : Int32)), (.ref b_18)])) rfl rfl (hb hby at_162) t k) ?_
        refine own_gj (B := T_25.setTop (mkF m 164 #[.val (.long q0), .second, .val (.long q1), .second, .val (.int p2), .val (.int z), .val (.ref b_1), .val (.ref b_18), .unset, .unset] [(.int ((own_unit q0 q1 (3 : Int32)).toInt8.toInt32)), (.int (3 : Int32)), (.ref b_18)])) (fun t k => ?_) ?_
        · show Steps p.tables e below (T_25.setTop (mkF m 163 #[.val (.long q0), .second, .val (.long q1), .second, .val (.int p2), .val (.int z), .val (.ref b_1), .val (.ref b_18), .unset, .unset] [(.int (own_unit q0 q1 (3 : Int32))), (.int (3 : Int32)), (.ref b_18)])) _
          refine XS.i2b X_25.here hx rfl (hb hby at_163) rfl ?_
          exact k
        obtain ⟨cl_30, Ar_30, q_30, S_30, M_30, H_30, G_30⟩ := id cj_25_1
        have hin_30 : ¬ ((3 : Int32) < 0 ∨ cl_30.slots.size ≤ ((3 : Int32)).toNatClampNeg) := inb_of S_30 ⟨by decide, hc153⟩
        obtain ⟨T_30, h_30, X_30, e_30, W_30, st_30⟩ := stB X_25 hx hZ e_25 Ar_30 (j := (3 : Int32)) hin_30 (g := (mkF m 164 #[.val (.long q0), .second, .val (.long q1), .second, .val (.int p2), .val (.int z), .val (.ref b_1), .val (.ref b_18), .unset, .unset] [(.int ((own_unit q0 q1 (3 : Int32)).toInt8.toInt32)), (.int (3 : Int32)), (.ref b_18)])) rfl rfl (hb hby at_164)
        have c18 : Keep h0 h_30 [] := K_25.wr W_30 (Or.inr sz_b_18)
        have c19 := cj_25_0.other W_30 ne_b_1_b_18
        have V_30 : Arv Z h_30 b_18 k_18 .byte z [(.int (nar .byte ((own_unit q0 q1 (0 : Int32)).toInt8.toInt32))), (.int (nar .byte ((own_unit q0 q1 (1 : Int32)).toInt8.toInt32))), (.int (nar .byte ((own_unit q0 q1 (2 : Int32)).toInt8.toInt32))), (.int (nar .byte ((own_unit q0 q1 (3 : Int32)).toInt8.toInt32))), (.int (0 : Int32)), (.int (0 : Int32)), (.int (0 : Int32)), (.int (0 : Int32))] (.int (0 : Int32)) := Arv.set Ar_30 q_30 S_30 M_30 H_30 G_30 (fits_nar_byte _) W_30 3 rfl (Nat.le_of_ble_eq_true rfl)
        have N_30 := Fr.snoc X_30 N_25 g_b_18
        have Z0__30 : n0 ≤ h_30.size := by rw [W_30.size]; exact Z0__25
        refine own_gj (B := T_30.setTop (mkF m 165 #[.val (.long q0), .second, .val (.long q1), .second, .val (.int p2), .val (.int z), .val (.ref b_1), .val (.ref b_18), .unset, .unset] [])) (fun t k => st_30 t k) ?_
        exact ⟨T_30, _, _, ⟨X_30, e_30, N_30, c18, Z0__30, c19, V_30⟩, fun t k => k⟩
      · refine own_gj (B := T_25.setTop (mkF m 165 #[.val (.long q0), .second, .val (.long q1), .second, .val (.int p2), .val (.int z), .val (.ref b_1), .val (.ref b_18), .unset, .unset] [])) (fun t k => ?_) ?_
        · show Steps p.tables e below (T_25.setTop (mkF m 153 #[.val (.long q0), .second, .val (.long q1), .second, .val (.int p2), .val (.int z), .val (.ref b_1), .val (.ref b_18), .unset, .unset] [(.int (3 : Int32)), (.int z)])) _
          refine XS.icmpYes X_25.here hx rfl (pc0 := 153) (pc' := 165) rfl (hb hby at_153) rfl (flt hc153).2.2.2 (by decide) (by decide) ?_
          exact k
        exact ⟨T_25, _, _, ⟨X_25, e_25, N_25, K_25, Z0__25, cj_25_0, (own_arw cj_25_1 3 (.int (nar .byte ((own_unit q0 q1 (3 : Int32)).toInt8.toInt32))) (own_clamp z 3 3 rfl hc153))⟩, fun t k => k⟩
    refine own_go (B := T_28.setTop (mkF m 165 #[.val (.long q0), .second, .val (.long q1), .second, .val (.int p2), .val (.int z), .val (.ref b_1), .val (.ref b_18), .unset, .unset] [])) (fun t k => st_28 t k) ?_
    refine own_go (B := T_28.setTop (mkF m 168 #[.val (.long q0), .second, .val (.long q1), .second, .val (.int p2), .val (.int z), .val (.ref b_1), .val (.ref b_18), .unset, .unset] [(.int (4 : Int32)), (.int z)])) (fun t k => ?_) ?_
    · show Steps p.tables e below (T_28.setTop (mkF m 165 #[.val (.long q0), .second, .val (.long q1), .second, .val (.int p2), .val (.int z), .val (.ref b_1), .val (.ref b_18), .unset, .unset] [])) _
      refine XS.iload X_28.here hx rfl (hb hby at_165) rfl ?_
      show Steps p.tables e below (T_28.setTop (mkF m 167 #[.val (.long q0), .second, .val (.long q1), .second, .val (.int p2), .val (.int z), .val (.ref b_1), .val (.ref b_18), .unset, .unset] [(.int z)])) _
      refine XS.iconst X_28.here hx rfl (hb hby at_167) ?_
      exact k
    obtain ⟨T_31, h_31, L_31, ⟨X_31, e_31, N_31, K_31, Z0__31, cj_31_0, cj_31_1⟩, st_31⟩ : ∃ (T' : State) (h' : Heap) (L' : List Loc), (Stand p l e room_1 s m #[(.long q0), (.long q1), (.int p2)] below meth c T' L' 2 19 ∧ T'.heap = h' ∧ Fr n0 L' ∧ Keep h0 h' [] ∧ n0 ≤ h'.size ∧ Arv Z h' b_1 k_1 .int (11 : Int32) [(.int (own_unit q0 q1 (0 : Int32))), (.int (own_unit q0 q1 (1 : Int32))), (.int (own_unit q0 q1 (2 : Int32))), (.int (own_unit q0 q1 (3 : Int32))), (.int (own_unit q0 q1 (4 : Int32))), (.int (own_unit q0 q1 (5 : Int32))), (.int (own_unit q0 q1 (6 : Int32))), (.int (own_unit q0 q1 (7 : Int32))), (.int (0 : Int32)), (.int (0 : Int32)), (.int (0 : Int32))] (.int (0 : Int32)) ∧ Arv Z h' b_18 k_18 .byte z [(.int (nar .byte ((own_unit q0 q1 (0 : Int32)).toInt8.toInt32))), (.int (nar .byte ((own_unit q0 q1 (1 : Int32)).toInt8.toInt32))), (.int (nar .byte ((own_unit q0 q1 (2 : Int32)).toInt8.toInt32))), (.int (nar .byte ((own_unit q0 q1 (3 : Int32)).toInt8.toInt32))), (.int (nar .byte ((own_unit q0 q1 (4 : Int32)).toInt8.toInt32))), (.int (0 : Int32)), (.int (0 : Int32)), (.int (0 : Int32))] (.int (0 : Int32))) ∧ ∀ t, Steps p.tables e below (T'.setTop (mkF m 180 #[.val (.long q0), .second, .val (.long q1), .second, .val (.int p2), .val (.int z), .val (.ref b_1), .val (.ref b_18), .unset, .unset] [])) t → Steps p.tables e below (T_28.setTop (mkF m 168 #[.val (.long q0), .second, .val (.long q1), .second, .val (.int p2), .val (.int z), .val (.ref b_1), .val (.ref b_18), .unset, .unset] [(.int (4 : Int32)), (.int z)])) t := by
      by_cases hc168 : (4 : Int32) < z
      · refine own_gj (B := T_28.setTop (mkF m 171 #[.val (.long q0), .second, .val (.long q1), .second, .val (.int p2), .val (.int z), .val (.ref b_1), .val (.ref b_18), .unset, .unset] [])) (fun t k => ?_) ?_
        · show Steps p.tables e below (T_28.setTop (mkF m 168 #[.val (.long q0), .second, .val (.long q1), .second, .val (.int p2), .val (.int z), .val (.ref b_1), .val (.ref b_18), .unset, .unset] [(.int (4 : Int32)), (.int z)])) _
          refine XS.icmpNo X_28.here hx rfl (hb hby at_168) rfl (tlt hc168).2.2.2 ?_
          exact k
        refine own_gj (B := T_28.setTop (mkF m 177 #[.val (.long q0), .second, .val (.long q1), .second, .val (.int p2), .val (.int z), .val (.ref b_1), .val (.ref b_18), .unset, .unset] [(.int (4 : Int32)), (.ref b_1), (.int (4 : Int32)), (.ref b_18)])) (fun t k => ?_) ?_
        · show Steps p.tables e below (T_28.setTop (mkF m 171 #[.val (.long q0), .second, .val (.long q1), .second, .val (.int p2), .val (.int z), .val (.ref b_1), .val (.ref b_18), .unset, .unset] [])) _
          refine XS.aload X_28.here hx rfl (hb hby at_171) rfl rfl ?_
          show Steps p.tables e below (T_28.setTop (mkF m 173 #[.val (.long q0), .second, .val (.long q1), .second, .val (.int p2), .val (.int z), .val (.ref b_1), .val (.ref b_18), .unset, .unset] [(.ref b_18)])) _
          refine XS.iconst X_28.here hx rfl (hb hby at_173) ?_
          show Steps p.tables e below (T_28.setTop (mkF m 174 #[.val (.long q0), .second, .val (.long q1), .second, .val (.int p2), .val (.int z), .val (.ref b_1), .val (.ref b_18), .unset, .unset] [(.int (4 : Int32)), (.ref b_18)])) _
          refine XS.aload X_28.here hx rfl (hb hby at_174) rfl rfl ?_
          show Steps p.tables e below (T_28.setTop (mkF m 176 #[.val (.long q0), .second, .val (.long q1), .second, .val (.int p2), .val (.int z), .val (.ref b_1), .val (.ref b_18), .unset, .unset] [(.ref b_1), (.int (4 : Int32)), (.ref b_18)])) _
          refine XS.iconst X_28.here hx rfl (hb hby at_176) ?_
          exact k
        obtain ⟨cl_32, Ar_32, q_32, S_32, M_32, H_32, G_32⟩ := id cj_28_0
        have hin_32 : ¬ ((4 : Int32) < 0 ∨ cl_32.slots.size ≤ ((4 : Int32)).toNatClampNeg) := inb_of S_32 ⟨by decide, by decide⟩
        have hat_32 : cl_32.slots[((4 : Int32)).toNatClampNeg]? = some (.int (own_unit q0 q1 (4 : Int32))) := H_32.at hin_32 rfl
        refine own_gj (B := T_28.setTop (mkF m 178 #[.val (.long q0), .second, .val (.long q1), .second, .val (.int p2), .val (.int z), .val (.ref b_1), .val (.ref b_18), .unset, .unset] [(.int (own_unit q0 q1 (4 : Int32))), (.int (4 : Int32)), (.ref b_18)])) (fun t k => X_28.iaload hx (j := (4 : Int32)) (v := (.int (own_unit q0 q1 (4 : Int32)))) (by rw [(e_28 : _ = _)]; exact Ar_32.1) (State.isArrayOf_alike hZ.alike Ar_32.2.1) Ar_32.2.2 hin_32 hat_32 (g := (mkF m 177 #[.val (.long q0), .second, .val (.long q1), .second, .val (.int p2), .val (.int z), .val (.ref b_1), .val (.ref b_18), .unset, .unset] [(.int (4 : Int32)), (.ref b_1), (.int (4 : Int32)), (.ref b_18)])) rfl rfl (hb hby at_177) t k) ?_
        refine own_gj (B := T_28.setTop (mkF m 179 #[.val (.long q0), .second, .val (.long q1), .second, .val (.int p2), .val (.int z), .val (.ref b_1), .val (.ref b_18), .unset, .unset] [(.int ((own_unit q0 q1 (4 : Int32)).toInt8.toInt32)), (.int (4 : Int32)), (.ref b_18)])) (fun t k => ?_) ?_
        · show Steps p.tables e below (T_28.setTop (mkF m 178 #[.val (.long q0), .second, .val (.long q1), .second, .val (.int p2), .val (.int z), .val (.ref b_1), .val (.ref b_18), .unset, .unset] [(.int (own_unit q0 q1 (4 : Int32))), (.int (4 : Int32)), (.ref b_18)])) _
          refine XS.i2b X_28.here hx rfl (hb hby at_178) rfl ?_
          exact k
        obtain ⟨cl_33, Ar_33, q_33, S_33, M_33, H_33, G_33⟩ := id cj_28_1
        have hin_33 : ¬ ((4 : Int32) < 0 ∨ cl_33.slots.size ≤ ((4 : Int32)).toNatClampNeg) := inb_of S_33 ⟨by decide, hc168⟩
        obtain ⟨T_33, h_33, X_33, e_33, W_33, st_33⟩ := stB X_28 hx hZ e_28 Ar_33 (j := (4 : Int32)) hin_33 (g := (mkF m 179 #[.val (.long q0), .second, .val (.long q1), .second, .val (.int p2), .val (.int z), .val (.ref b_1), .val (.ref b_18), .unset, .unset] [(.int ((own_unit q0 q1 (4 : Int32)).toInt8.toInt32)), (.int (4 : Int32)), (.ref b_18)])) rfl rfl (hb hby at_179)
        have c20 : Keep h0 h_33 [] := K_28.wr W_33 (Or.inr sz_b_18)
        have c21 := cj_28_0.other W_33 ne_b_1_b_18
        have V_33 : Arv Z h_33 b_18 k_18 .byte z [(.int (nar .byte ((own_unit q0 q1 (0 : Int32)).toInt8.toInt32))), (.int (nar .byte ((own_unit q0 q1 (1 : Int32)).toInt8.toInt32))), (.int (nar .byte ((own_unit q0 q1 (2 : Int32)).toInt8.toInt32))), (.int (nar .byte ((own_unit q0 q1 (3 : Int32)).toInt8.toInt32))), (.int (nar .byte ((own_unit q0 q1 (4 : Int32)).toInt8.toInt32))), (.int (0 : Int32)), (.int (0 : Int32)), (.int (0 : Int32))] (.int (0 : Int32)) := Arv.set Ar_33 q_33 S_33 M_33 H_33 G_33 (fits_nar_byte _) W_33 4 rfl (Nat.le_of_ble_eq_true rfl)
        have N_33 := Fr.snoc X_33 N_28 g_b_18
        have Z0__33 : n0 ≤ h_33.size := by rw [W_33.size]; exact Z0__28
        refine own_gj (B := T_33.setTop (mkF m 180 #[.val (.long q0), .second, .val (.long q1), .second, .val (.int p2), .val (.int z), .val (.ref b_1), .val (.ref b_18), .unset, .unset] [])) (fun t k => st_33 t k) ?_
        exact ⟨T_33, _, _, ⟨X_33, e_33, N_33, c20, Z0__33, c21, V_33⟩, fun t k => k⟩
      · refine own_gj (B := T_28.setTop (mkF m 180 #[.val (.long q0), .second, .val (.long q1), .second, .val (.int p2), .val (.int z), .val (.ref b_1), .val (.ref b_18), .unset, .unset] [])) (fun t k => ?_) ?_
        · show Steps p.tables e below (T_28.setTop (mkF m 168 #[.val (.long q0), .second, .val (.long q1), .second, .val (.int p2), .val (.int z), .val (.ref b_1), .val (.ref b_18), .unset, .unset] [(.int (4 : Int32)), (.int z)])) _
          refine XS.icmpYes X_28.here hx rfl (pc0 := 168) (pc' := 180) rfl (hb hby at_168) rfl (flt hc168).2.2.2 (by decide) (by decide) ?_
          exact k
        exact ⟨T_28, _, _, ⟨X_28, e_28, N_28, K_28, Z0__28, cj_28_0, (own_arw cj_28_1 4 (.int (nar .byte ((own_unit q0 q1 (4 : Int32)).toInt8.toInt32))) (own_clamp z 4 4 rfl hc168))⟩, fun t k => k⟩
    refine own_go (B := T_31.setTop (mkF m 180 #[.val (.long q0), .second, .val (.long q1), .second, .val (.int p2), .val (.int z), .val (.ref b_1), .val (.ref b_18), .unset, .unset] [])) (fun t k => st_31 t k) ?_
    refine own_go (B := T_31.setTop (mkF m 183 #[.val (.long q0), .second, .val (.long q1), .second, .val (.int p2), .val (.int z), .val (.ref b_1), .val (.ref b_18), .unset, .unset] [(.int (5 : Int32)), (.int z)])) (fun t k => ?_) ?_
    · show Steps p.tables e below (T_31.setTop (mkF m 180 #[.val (.long q0), .second, .val (.long q1), .second, .val (.int p2), .val (.int z), .val (.ref b_1), .val (.ref b_18), .unset, .unset] [])) _
      refine XS.iload X_31.here hx rfl (hb hby at_180) rfl ?_
      show Steps p.tables e below (T_31.setTop (mkF m 182 #[.val (.long q0), .second, .val (.long q1), .second, .val (.int p2), .val (.int z), .val (.ref b_1), .val (.ref b_18), .unset, .unset] [(.int z)])) _
      refine XS.iconst X_31.here hx rfl (hb hby at_182) ?_
      exact k
    obtain ⟨T_34, h_34, L_34, ⟨X_34, e_34, N_34, K_34, Z0__34, cj_34_0, cj_34_1⟩, st_34⟩ : ∃ (T' : State) (h' : Heap) (L' : List Loc), (Stand p l e room_1 s m #[(.long q0), (.long q1), (.int p2)] below meth c T' L' 2 19 ∧ T'.heap = h' ∧ Fr n0 L' ∧ Keep h0 h' [] ∧ n0 ≤ h'.size ∧ Arv Z h' b_1 k_1 .int (11 : Int32) [(.int (own_unit q0 q1 (0 : Int32))), (.int (own_unit q0 q1 (1 : Int32))), (.int (own_unit q0 q1 (2 : Int32))), (.int (own_unit q0 q1 (3 : Int32))), (.int (own_unit q0 q1 (4 : Int32))), (.int (own_unit q0 q1 (5 : Int32))), (.int (own_unit q0 q1 (6 : Int32))), (.int (own_unit q0 q1 (7 : Int32))), (.int (0 : Int32)), (.int (0 : Int32)), (.int (0 : Int32))] (.int (0 : Int32)) ∧ Arv Z h' b_18 k_18 .byte z [(.int (nar .byte ((own_unit q0 q1 (0 : Int32)).toInt8.toInt32))), (.int (nar .byte ((own_unit q0 q1 (1 : Int32)).toInt8.toInt32))), (.int (nar .byte ((own_unit q0 q1 (2 : Int32)).toInt8.toInt32))), (.int (nar .byte ((own_unit q0 q1 (3 : Int32)).toInt8.toInt32))), (.int (nar .byte ((own_unit q0 q1 (4 : Int32)).toInt8.toInt32))), (.int (nar .byte ((own_unit q0 q1 (5 : Int32)).toInt8.toInt32))), (.int (0 : Int32)), (.int (0 : Int32))] (.int (0 : Int32))) ∧ ∀ t, Steps p.tables e below (T'.setTop (mkF m 195 #[.val (.long q0), .second, .val (.long q1), .second, .val (.int p2), .val (.int z), .val (.ref b_1), .val (.ref b_18), .unset, .unset] [])) t → Steps p.tables e below (T_31.setTop (mkF m 183 #[.val (.long q0), .second, .val (.long q1), .second, .val (.int p2), .val (.int z), .val (.ref b_1), .val (.ref b_18), .unset, .unset] [(.int (5 : Int32)), (.int z)])) t := by
      by_cases hc183 : (5 : Int32) < z
      · refine own_gj (B := T_31.setTop (mkF m 186 #[.val (.long q0), .second, .val (.long q1), .second, .val (.int p2), .val (.int z), .val (.ref b_1), .val (.ref b_18), .unset, .unset] [])) (fun t k => ?_) ?_
        · show Steps p.tables e below (T_31.setTop (mkF m 183 #[.val (.long q0), .second, .val (.long q1), .second, .val (.int p2), .val (.int z), .val (.ref b_1), .val (.ref b_18), .unset, .unset] [(.int (5 : Int32)), (.int z)])) _
          refine XS.icmpNo X_31.here hx rfl (hb hby at_183) rfl (tlt hc183).2.2.2 ?_
          exact k
        refine own_gj (B := T_31.setTop (mkF m 192 #[.val (.long q0), .second, .val (.long q1), .second, .val (.int p2), .val (.int z), .val (.ref b_1), .val (.ref b_18), .unset, .unset] [(.int (5 : Int32)), (.ref b_1), (.int (5 : Int32)), (.ref b_18)])) (fun t k => ?_) ?_
        · show Steps p.tables e below (T_31.setTop (mkF m 186 #[.val (.long q0), .second, .val (.long q1), .second, .val (.int p2), .val (.int z), .val (.ref b_1), .val (.ref b_18), .unset, .unset] [])) _
          refine XS.aload X_31.here hx rfl (hb hby at_186) rfl rfl ?_
          show Steps p.tables e below (T_31.setTop (mkF m 188 #[.val (.long q0), .second, .val (.long q1), .second, .val (.int p2), .val (.int z), .val (.ref b_1), .val (.ref b_18), .unset, .unset] [(.ref b_18)])) _
          refine XS.iconst X_31.here hx rfl (hb hby at_188) ?_
          show Steps p.tables e below (T_31.setTop (mkF m 189 #[.val (.long q0), .second, .val (.long q1), .second, .val (.int p2), .val (.int z), .val (.ref b_1), .val (.ref b_18), .unset, .unset] [(.int (5 : Int32)), (.ref b_18)])) _
          refine XS.aload X_31.here hx rfl (hb hby at_189) rfl rfl ?_
          show Steps p.tables e below (T_31.setTop (mkF m 191 #[.val (.long q0), .second, .val (.long q1), .second, .val (.int p2), .val (.int z), .val (.ref b_1), .val (.ref b_18), .unset, .unset] [(.ref b_1), (.int (5 : Int32)), (.ref b_18)])) _
          refine XS.iconst X_31.here hx rfl (hb hby at_191) ?_
          exact k
        obtain ⟨cl_35, Ar_35, q_35, S_35, M_35, H_35, G_35⟩ := id cj_31_0
        have hin_35 : ¬ ((5 : Int32) < 0 ∨ cl_35.slots.size ≤ ((5 : Int32)).toNatClampNeg) := inb_of S_35 ⟨by decide, by decide⟩
        have hat_35 : cl_35.slots[((5 : Int32)).toNatClampNeg]? = some (.int (own_unit q0 q1 (5 : Int32))) := H_35.at hin_35 rfl
        refine own_gj (B := T_31.setTop (mkF m 193 #[.val (.long q0), .second, .val (.long q1), .second, .val (.int p2), .val (.int z), .val (.ref b_1), .val (.ref b_18), .unset, .unset] [(.int (own_unit q0 q1 (5 : Int32))), (.int (5 : Int32)), (.ref b_18)])) (fun t k => X_31.iaload hx (j := (5 : Int32)) (v := (.int (own_unit q0 q1 (5 : Int32)))) (by rw [(e_31 : _ = _)]; exact Ar_35.1) (State.isArrayOf_alike hZ.alike Ar_35.2.1) Ar_35.2.2 hin_35 hat_35 (g := (mkF m 192 #[.val (.long q0), .second, .val (.long q1), .second, .val (.int p2), .val (.int z), .val (.ref b_1), .val (.ref b_18), .unset, .unset] [(.int (5 : Int32)), (.ref b_1), (.int (5 : Int32)), (.ref b_18)])) rfl rfl (hb hby at_192) t k) ?_
        refine own_gj (B := T_31.setTop (mkF m 194 #[.val (.long q0), .second, .val (.long q1), .second, .val (.int p2), .val (.int z), .val (.ref b_1), .val (.ref b_18), .unset, .unset] [(.int ((own_unit q0 q1 (5 : Int32)).toInt8.toInt32)), (.int (5 : Int32)), (.ref b_18)])) (fun t k => ?_) ?_
        · show Steps p.tables e below (T_31.setTop (mkF m 193 #[.val (.long q0), .second, .val (.long q1), .second, .val (.int p2), .val (.int z), .val (.ref b_1), .val (.ref b_18), .unset, .unset] [(.int (own_unit q0 q1 (5 : Int32))), (.int (5 : Int32)), (.ref b_18)])) _
          refine XS.i2b X_31.here hx rfl (hb hby at_193) rfl ?_
          exact k
        obtain ⟨cl_36, Ar_36, q_36, S_36, M_36, H_36, G_36⟩ := id cj_31_1
        have hin_36 : ¬ ((5 : Int32) < 0 ∨ cl_36.slots.size ≤ ((5 : Int32)).toNatClampNeg) := inb_of S_36 ⟨by decide, hc183⟩
        obtain ⟨T_36, h_36, X_36, e_36, W_36, st_36⟩ := stB X_31 hx hZ e_31 Ar_36 (j := (5 : Int32)) hin_36 (g := (mkF m 194 #[.val (.long q0), .second, .val (.long q1), .second, .val (.int p2), .val (.int z), .val (.ref b_1), .val (.ref b_18), .unset, .unset] [(.int ((own_unit q0 q1 (5 : Int32)).toInt8.toInt32)), (.int (5 : Int32)), (.ref b_18)])) rfl rfl (hb hby at_194)
        have c22 : Keep h0 h_36 [] := K_31.wr W_36 (Or.inr sz_b_18)
        have c23 := cj_31_0.other W_36 ne_b_1_b_18
        have V_36 : Arv Z h_36 b_18 k_18 .byte z [(.int (nar .byte ((own_unit q0 q1 (0 : Int32)).toInt8.toInt32))), (.int (nar .byte ((own_unit q0 q1 (1 : Int32)).toInt8.toInt32))), (.int (nar .byte ((own_unit q0 q1 (2 : Int32)).toInt8.toInt32))), (.int (nar .byte ((own_unit q0 q1 (3 : Int32)).toInt8.toInt32))), (.int (nar .byte ((own_unit q0 q1 (4 : Int32)).toInt8.toInt32))), (.int (nar .byte ((own_unit q0 q1 (5 : Int32)).toInt8.toInt32))), (.int (0 : Int32)), (.int (0 : Int32))] (.int (0 : Int32)) := Arv.set Ar_36 q_36 S_36 M_36 H_36 G_36 (fits_nar_byte _) W_36 5 rfl (Nat.le_of_ble_eq_true rfl)
        have N_36 := Fr.snoc X_36 N_31 g_b_18
        have Z0__36 : n0 ≤ h_36.size := by rw [W_36.size]; exact Z0__31
        refine own_gj (B := T_36.setTop (mkF m 195 #[.val (.long q0), .second, .val (.long q1), .second, .val (.int p2), .val (.int z), .val (.ref b_1), .val (.ref b_18), .unset, .unset] [])) (fun t k => st_36 t k) ?_
        exact ⟨T_36, _, _, ⟨X_36, e_36, N_36, c22, Z0__36, c23, V_36⟩, fun t k => k⟩
      · refine own_gj (B := T_31.setTop (mkF m 195 #[.val (.long q0), .second, .val (.long q1), .second, .val (.int p2), .val (.int z), .val (.ref b_1), .val (.ref b_18), .unset, .unset] [])) (fun t k => ?_) ?_
        · show Steps p.tables e below (T_31.setTop (mkF m 183 #[.val (.long q0), .second, .val (.long q1), .second, .val (.int p2), .val (.int z), .val (.ref b_1), .val (.ref b_18), .unset, .unset] [(.int (5 : Int32)), (.int z)])) _
          refine XS.icmpYes X_31.here hx rfl (pc0 := 183) (pc' := 195) rfl (hb hby at_183) rfl (flt hc183).2.2.2 (by decide) (by decide) ?_
          exact k
        exact ⟨T_31, _, _, ⟨X_31, e_31, N_31, K_31, Z0__31, cj_31_0, (own_arw cj_31_1 5 (.int (nar .byte ((own_unit q0 q1 (5 : Int32)).toInt8.toInt32))) (own_clamp z 5 5 rfl hc183))⟩, fun t k => k⟩
    refine own_go (B := T_34.setTop (mkF m 195 #[.val (.long q0), .second, .val (.long q1), .second, .val (.int p2), .val (.int z), .val (.ref b_1), .val (.ref b_18), .unset, .unset] [])) (fun t k => st_34 t k) ?_
    refine own_go (B := T_34.setTop (mkF m 199 #[.val (.long q0), .second, .val (.long q1), .second, .val (.int p2), .val (.int z), .val (.ref b_1), .val (.ref b_18), .unset, .unset] [(.int (6 : Int32)), (.int z)])) (fun t k => ?_) ?_
    · show Steps p.tables e below (T_34.setTop (mkF m 195 #[.val (.long q0), .second, .val (.long q1), .second, .val (.int p2), .val (.int z), .val (.ref b_1), .val (.ref b_18), .unset, .unset] [])) _
      refine XS.iload X_34.here hx rfl (hb hby at_195) rfl ?_
      show Steps p.tables e below (T_34.setTop (mkF m 197 #[.val (.long q0), .second, .val (.long q1), .second, .val (.int p2), .val (.int z), .val (.ref b_1), .val (.ref b_18), .unset, .unset] [(.int z)])) _
      refine XS.bipush X_34.here hx rfl (hb hby at_197) ?_
      exact k
    obtain ⟨T_37, h_37, L_37, ⟨X_37, e_37, N_37, K_37, Z0__37, cj_37_0, cj_37_1⟩, st_37⟩ : ∃ (T' : State) (h' : Heap) (L' : List Loc), (Stand p l e room_1 s m #[(.long q0), (.long q1), (.int p2)] below meth c T' L' 2 19 ∧ T'.heap = h' ∧ Fr n0 L' ∧ Keep h0 h' [] ∧ n0 ≤ h'.size ∧ Arv Z h' b_1 k_1 .int (11 : Int32) [(.int (own_unit q0 q1 (0 : Int32))), (.int (own_unit q0 q1 (1 : Int32))), (.int (own_unit q0 q1 (2 : Int32))), (.int (own_unit q0 q1 (3 : Int32))), (.int (own_unit q0 q1 (4 : Int32))), (.int (own_unit q0 q1 (5 : Int32))), (.int (own_unit q0 q1 (6 : Int32))), (.int (own_unit q0 q1 (7 : Int32))), (.int (0 : Int32)), (.int (0 : Int32)), (.int (0 : Int32))] (.int (0 : Int32)) ∧ Arv Z h' b_18 k_18 .byte z [(.int (nar .byte ((own_unit q0 q1 (0 : Int32)).toInt8.toInt32))), (.int (nar .byte ((own_unit q0 q1 (1 : Int32)).toInt8.toInt32))), (.int (nar .byte ((own_unit q0 q1 (2 : Int32)).toInt8.toInt32))), (.int (nar .byte ((own_unit q0 q1 (3 : Int32)).toInt8.toInt32))), (.int (nar .byte ((own_unit q0 q1 (4 : Int32)).toInt8.toInt32))), (.int (nar .byte ((own_unit q0 q1 (5 : Int32)).toInt8.toInt32))), (.int (nar .byte ((own_unit q0 q1 (6 : Int32)).toInt8.toInt32))), (.int (0 : Int32))] (.int (0 : Int32))) ∧ ∀ t, Steps p.tables e below (T'.setTop (mkF m 213 #[.val (.long q0), .second, .val (.long q1), .second, .val (.int p2), .val (.int z), .val (.ref b_1), .val (.ref b_18), .unset, .unset] [])) t → Steps p.tables e below (T_34.setTop (mkF m 199 #[.val (.long q0), .second, .val (.long q1), .second, .val (.int p2), .val (.int z), .val (.ref b_1), .val (.ref b_18), .unset, .unset] [(.int (6 : Int32)), (.int z)])) t := by
      by_cases hc199 : (6 : Int32) < z
      · refine own_gj (B := T_34.setTop (mkF m 202 #[.val (.long q0), .second, .val (.long q1), .second, .val (.int p2), .val (.int z), .val (.ref b_1), .val (.ref b_18), .unset, .unset] [])) (fun t k => ?_) ?_
        · show Steps p.tables e below (T_34.setTop (mkF m 199 #[.val (.long q0), .second, .val (.long q1), .second, .val (.int p2), .val (.int z), .val (.ref b_1), .val (.ref b_18), .unset, .unset] [(.int (6 : Int32)), (.int z)])) _
          refine XS.icmpNo X_34.here hx rfl (hb hby at_199) rfl (tlt hc199).2.2.2 ?_
          exact k
        refine own_gj (B := T_34.setTop (mkF m 210 #[.val (.long q0), .second, .val (.long q1), .second, .val (.int p2), .val (.int z), .val (.ref b_1), .val (.ref b_18), .unset, .unset] [(.int (6 : Int32)), (.ref b_1), (.int (6 : Int32)), (.ref b_18)])) (fun t k => ?_) ?_
        · show Steps p.tables e below (T_34.setTop (mkF m 202 #[.val (.long q0), .second, .val (.long q1), .second, .val (.int p2), .val (.int z), .val (.ref b_1), .val (.ref b_18), .unset, .unset] [])) _
          refine XS.aload X_34.here hx rfl (hb hby at_202) rfl rfl ?_
          show Steps p.tables e below (T_34.setTop (mkF m 204 #[.val (.long q0), .second, .val (.long q1), .second, .val (.int p2), .val (.int z), .val (.ref b_1), .val (.ref b_18), .unset, .unset] [(.ref b_18)])) _
          refine XS.bipush X_34.here hx rfl (hb hby at_204) ?_
          show Steps p.tables e below (T_34.setTop (mkF m 206 #[.val (.long q0), .second, .val (.long q1), .second, .val (.int p2), .val (.int z), .val (.ref b_1), .val (.ref b_18), .unset, .unset] [(.int (6 : Int32)), (.ref b_18)])) _
          refine XS.aload X_34.here hx rfl (hb hby at_206) rfl rfl ?_
          show Steps p.tables e below (T_34.setTop (mkF m 208 #[.val (.long q0), .second, .val (.long q1), .second, .val (.int p2), .val (.int z), .val (.ref b_1), .val (.ref b_18), .unset, .unset] [(.ref b_1), (.int (6 : Int32)), (.ref b_18)])) _
          refine XS.bipush X_34.here hx rfl (hb hby at_208) ?_
          exact k
        obtain ⟨cl_38, Ar_38, q_38, S_38, M_38, H_38, G_38⟩ := id cj_34_0
        have hin_38 : ¬ ((6 : Int32) < 0 ∨ cl_38.slots.size ≤ ((6 : Int32)).toNatClampNeg) := inb_of S_38 ⟨by decide, by decide⟩
        have hat_38 : cl_38.slots[((6 : Int32)).toNatClampNeg]? = some (.int (own_unit q0 q1 (6 : Int32))) := H_38.at hin_38 rfl
        refine own_gj (B := T_34.setTop (mkF m 211 #[.val (.long q0), .second, .val (.long q1), .second, .val (.int p2), .val (.int z), .val (.ref b_1), .val (.ref b_18), .unset, .unset] [(.int (own_unit q0 q1 (6 : Int32))), (.int (6 : Int32)), (.ref b_18)])) (fun t k => X_34.iaload hx (j := (6 : Int32)) (v := (.int (own_unit q0 q1 (6 : Int32)))) (by rw [(e_34 : _ = _)]; exact Ar_38.1) (State.isArrayOf_alike hZ.alike Ar_38.2.1) Ar_38.2.2 hin_38 hat_38 (g := (mkF m 210 #[.val (.long q0), .second, .val (.long q1), .second, .val (.int p2), .val (.int z), .val (.ref b_1), .val (.ref b_18), .unset, .unset] [(.int (6 : Int32)), (.ref b_1), (.int (6 : Int32)), (.ref b_18)])) rfl rfl (hb hby at_210) t k) ?_
        refine own_gj (B := T_34.setTop (mkF m 212 #[.val (.long q0), .second, .val (.long q1), .second, .val (.int p2), .val (.int z), .val (.ref b_1), .val (.ref b_18), .unset, .unset] [(.int ((own_unit q0 q1 (6 : Int32)).toInt8.toInt32)), (.int (6 : Int32)), (.ref b_18)])) (fun t k => ?_) ?_
        · show Steps p.tables e below (T_34.setTop (mkF m 211 #[.val (.long q0), .second, .val (.long q1), .second, .val (.int p2), .val (.int z), .val (.ref b_1), .val (.ref b_18), .unset, .unset] [(.int (own_unit q0 q1 (6 : Int32))), (.int (6 : Int32)), (.ref b_18)])) _
          refine XS.i2b X_34.here hx rfl (hb hby at_211) rfl ?_
          exact k
        obtain ⟨cl_39, Ar_39, q_39, S_39, M_39, H_39, G_39⟩ := id cj_34_1
        have hin_39 : ¬ ((6 : Int32) < 0 ∨ cl_39.slots.size ≤ ((6 : Int32)).toNatClampNeg) := inb_of S_39 ⟨by decide, hc199⟩
        obtain ⟨T_39, h_39, X_39, e_39, W_39, st_39⟩ := stB X_34 hx hZ e_34 Ar_39 (j := (6 : Int32)) hin_39 (g := (mkF m 212 #[.val (.long q0), .second, .val (.long q1), .second, .val (.int p2), .val (.int z), .val (.ref b_1), .val (.ref b_18), .unset, .unset] [(.int ((own_unit q0 q1 (6 : Int32)).toInt8.toInt32)), (.int (6 : Int32)), (.ref b_18)])) rfl rfl (hb hby at_212)
        have c24 : Keep h0 h_39 [] := K_34.wr W_39 (Or.inr sz_b_18)
        have c25 := cj_34_0.other W_39 ne_b_1_b_18
        have V_39 : Arv Z h_39 b_18 k_18 .byte z [(.int (nar .byte ((own_unit q0 q1 (0 : Int32)).toInt8.toInt32))), (.int (nar .byte ((own_unit q0 q1 (1 : Int32)).toInt8.toInt32))), (.int (nar .byte ((own_unit q0 q1 (2 : Int32)).toInt8.toInt32))), (.int (nar .byte ((own_unit q0 q1 (3 : Int32)).toInt8.toInt32))), (.int (nar .byte ((own_unit q0 q1 (4 : Int32)).toInt8.toInt32))), (.int (nar .byte ((own_unit q0 q1 (5 : Int32)).toInt8.toInt32))), (.int (nar .byte ((own_unit q0 q1 (6 : Int32)).toInt8.toInt32))), (.int (0 : Int32))] (.int (0 : Int32)) := Arv.set Ar_39 q_39 S_39 M_39 H_39 G_39 (fits_nar_byte _) W_39 6 rfl (Nat.le_of_ble_eq_true rfl)
        have N_39 := Fr.snoc X_39 N_34 g_b_18
        have Z0__39 : n0 ≤ h_39.size := by rw [W_39.size]; exact Z0__34
        refine own_gj (B := T_39.setTop (mkF m 213 #[.val (.long q0), .second, .val (.long q1), .second, .val (.int p2), .val (.int z), .val (.ref b_1), .val (.ref b_18), .unset, .unset] [])) (fun t k => st_39 t k) ?_
        exact ⟨T_39, _, _, ⟨X_39, e_39, N_39, c24, Z0__39, c25, V_39⟩, fun t k => k⟩
      · refine own_gj (B := T_34.setTop (mkF m 213 #[.val (.long q0), .second, .val (.long q1), .second, .val (.int p2), .val (.int z), .val (.ref b_1), .val (.ref b_18), .unset, .unset] [])) (fun t k => ?_) ?_
        · show Steps p.tables e below (T_34.setTop (mkF m 199 #[.val (.long q0), .second, .val (.long q1), .second, .val (.int p2), .val (.int z), .val (.ref b_1), .val (.ref b_18), .unset, .unset] [(.int (6 : Int32)), (.int z)])) _
          refine XS.icmpYes X_34.here hx rfl (pc0 := 199) (pc' := 213) rfl (hb hby at_199) rfl (flt hc199).2.2.2 (by decide) (by decide) ?_
          exact k
        exact ⟨T_34, _, _, ⟨X_34, e_34, N_34, K_34, Z0__34, cj_34_0, (own_arw cj_34_1 6 (.int (nar .byte ((own_unit q0 q1 (6 : Int32)).toInt8.toInt32))) (own_clamp z 6 6 rfl hc199))⟩, fun t k => k⟩
    refine own_go (B := T_37.setTop (mkF m 213 #[.val (.long q0), .second, .val (.long q1), .second, .val (.int p2), .val (.int z), .val (.ref b_1), .val (.ref b_18), .unset, .unset] [])) (fun t k => st_37 t k) ?_
    refine own_go (B := T_37.setTop (mkF m 217 #[.val (.long q0), .second, .val (.long q1), .second, .val (.int p2), .val (.int z), .val (.ref b_1), .val (.ref b_18), .unset, .unset] [(.int (7 : Int32)), (.int z)])) (fun t k => ?_) ?_
    · show Steps p.tables e below (T_37.setTop (mkF m 213 #[.val (.long q0), .second, .val (.long q1), .second, .val (.int p2), .val (.int z), .val (.ref b_1), .val (.ref b_18), .unset, .unset] [])) _
      refine XS.iload X_37.here hx rfl (hb hby at_213) rfl ?_
      show Steps p.tables e below (T_37.setTop (mkF m 215 #[.val (.long q0), .second, .val (.long q1), .second, .val (.int p2), .val (.int z), .val (.ref b_1), .val (.ref b_18), .unset, .unset] [(.int z)])) _
      refine XS.bipush X_37.here hx rfl (hb hby at_215) ?_
      exact k
    obtain ⟨T_40, h_40, L_40, ⟨X_40, e_40, N_40, K_40, Z0__40, cj_40_0, cj_40_1⟩, st_40⟩ : ∃ (T' : State) (h' : Heap) (L' : List Loc), (Stand p l e room_1 s m #[(.long q0), (.long q1), (.int p2)] below meth c T' L' 2 19 ∧ T'.heap = h' ∧ Fr n0 L' ∧ Keep h0 h' [] ∧ n0 ≤ h'.size ∧ Arv Z h' b_1 k_1 .int (11 : Int32) [(.int (own_unit q0 q1 (0 : Int32))), (.int (own_unit q0 q1 (1 : Int32))), (.int (own_unit q0 q1 (2 : Int32))), (.int (own_unit q0 q1 (3 : Int32))), (.int (own_unit q0 q1 (4 : Int32))), (.int (own_unit q0 q1 (5 : Int32))), (.int (own_unit q0 q1 (6 : Int32))), (.int (own_unit q0 q1 (7 : Int32))), (.int (0 : Int32)), (.int (0 : Int32)), (.int (0 : Int32))] (.int (0 : Int32)) ∧ Arv Z h' b_18 k_18 .byte z [(.int (nar .byte ((own_unit q0 q1 (0 : Int32)).toInt8.toInt32))), (.int (nar .byte ((own_unit q0 q1 (1 : Int32)).toInt8.toInt32))), (.int (nar .byte ((own_unit q0 q1 (2 : Int32)).toInt8.toInt32))), (.int (nar .byte ((own_unit q0 q1 (3 : Int32)).toInt8.toInt32))), (.int (nar .byte ((own_unit q0 q1 (4 : Int32)).toInt8.toInt32))), (.int (nar .byte ((own_unit q0 q1 (5 : Int32)).toInt8.toInt32))), (.int (nar .byte ((own_unit q0 q1 (6 : Int32)).toInt8.toInt32))), (.int (nar .byte ((own_unit q0 q1 (7 : Int32)).toInt8.toInt32)))] (.int (0 : Int32))) ∧ ∀ t, Steps p.tables e below (T'.setTop (mkF m 231 #[.val (.long q0), .second, .val (.long q1), .second, .val (.int p2), .val (.int z), .val (.ref b_1), .val (.ref b_18), .unset, .unset] [])) t → Steps p.tables e below (T_37.setTop (mkF m 217 #[.val (.long q0), .second, .val (.long q1), .second, .val (.int p2), .val (.int z), .val (.ref b_1), .val (.ref b_18), .unset, .unset] [(.int (7 : Int32)), (.int z)])) t := by
      by_cases hc217 : (7 : Int32) < z
      · refine own_gj (B := T_37.setTop (mkF m 220 #[.val (.long q0), .second, .val (.long q1), .second, .val (.int p2), .val (.int z), .val (.ref b_1), .val (.ref b_18), .unset, .unset] [])) (fun t k => ?_) ?_
        · show Steps p.tables e below (T_37.setTop (mkF m 217 #[.val (.long q0), .second, .val (.long q1), .second, .val (.int p2), .val (.int z), .val (.ref b_1), .val (.ref b_18), .unset, .unset] [(.int (7 : Int32)), (.int z)])) _
          refine XS.icmpNo X_37.here hx rfl (hb hby at_217) rfl (tlt hc217).2.2.2 ?_
          exact k
        refine own_gj (B := T_37.setTop (mkF m 228 #[.val (.long q0), .second, .val (.long q1), .second, .val (.int p2), .val (.int z), .val (.ref b_1), .val (.ref b_18), .unset, .unset] [(.int (7 : Int32)), (.ref b_1), (.int (7 : Int32)), (.ref b_18)])) (fun t k => ?_) ?_
        · show Steps p.tables e below (T_37.setTop (mkF m 220 #[.val (.long q0), .second, .val (.long q1), .second, .val (.int p2), .val (.int z), .val (.ref b_1), .val (.ref b_18), .unset, .unset] [])) _
          refine XS.aload X_37.here hx rfl (hb hby at_220) rfl rfl ?_
          show Steps p.tables e below (T_37.setTop (mkF m 222 #[.val (.long q0), .second, .val (.long q1), .second, .val (.int p2), .val (.int z), .val (.ref b_1), .val (.ref b_18), .unset, .unset] [(.ref b_18)])) _
          refine XS.bipush X_37.here hx rfl (hb hby at_222) ?_
          show Steps p.tables e below (T_37.setTop (mkF m 224 #[.val (.long q0), .second, .val (.long q1), .second, .val (.int p2), .val (.int z), .val (.ref b_1), .val (.ref b_18), .unset, .unset] [(.int (7 : Int32)), (.ref b_18)])) _
          refine XS.aload X_37.here hx rfl (hb hby at_224) rfl rfl ?_
          show Steps p.tables e below (T_37.setTop (mkF m 226 #[.val (.long q0), .second, .val (.long q1), .second, .val (.int p2), .val (.int z), .val (.ref b_1), .val (.ref b_18), .unset, .unset] [(.ref b_1), (.int (7 : Int32)), (.ref b_18)])) _
          refine XS.bipush X_37.here hx rfl (hb hby at_226) ?_
          exact k
        obtain ⟨cl_41, Ar_41, q_41, S_41, M_41, H_41, G_41⟩ := id cj_37_0
        have hin_41 : ¬ ((7 : Int32) < 0 ∨ cl_41.slots.size ≤ ((7 : Int32)).toNatClampNeg) := inb_of S_41 ⟨by decide, by decide⟩
        have hat_41 : cl_41.slots[((7 : Int32)).toNatClampNeg]? = some (.int (own_unit q0 q1 (7 : Int32))) := H_41.at hin_41 rfl
        refine own_gj (B := T_37.setTop (mkF m 229 #[.val (.long q0), .second, .val (.long q1), .second, .val (.int p2), .val (.int z), .val (.ref b_1), .val (.ref b_18), .unset, .unset] [(.int (own_unit q0 q1 (7 : Int32))), (.int (7 : Int32)), (.ref b_18)])) (fun t k => X_37.iaload hx (j := (7 : Int32)) (v := (.int (own_unit q0 q1 (7 : Int32)))) (by rw [(e_37 : _ = _)]; exact Ar_41.1) (State.isArrayOf_alike hZ.alike Ar_41.2.1) Ar_41.2.2 hin_41 hat_41 (g := (mkF m 228 #[.val (.long q0), .second, .val (.long q1), .second, .val (.int p2), .val (.int z), .val (.ref b_1), .val (.ref b_18), .unset, .unset] [(.int (7 : Int32)), (.ref b_1), (.int (7 : Int32)), (.ref b_18)])) rfl rfl (hb hby at_228) t k) ?_
        refine own_gj (B := T_37.setTop (mkF m 230 #[.val (.long q0), .second, .val (.long q1), .second, .val (.int p2), .val (.int z), .val (.ref b_1), .val (.ref b_18), .unset, .unset] [(.int ((own_unit q0 q1 (7 : Int32)).toInt8.toInt32)), (.int (7 : Int32)), (.ref b_18)])) (fun t k => ?_) ?_
        · show Steps p.tables e below (T_37.setTop (mkF m 229 #[.val (.long q0), .second, .val (.long q1), .second, .val (.int p2), .val (.int z), .val (.ref b_1), .val (.ref b_18), .unset, .unset] [(.int (own_unit q0 q1 (7 : Int32))), (.int (7 : Int32)), (.ref b_18)])) _
          refine XS.i2b X_37.here hx rfl (hb hby at_229) rfl ?_
          exact k
        obtain ⟨cl_42, Ar_42, q_42, S_42, M_42, H_42, G_42⟩ := id cj_37_1
        have hin_42 : ¬ ((7 : Int32) < 0 ∨ cl_42.slots.size ≤ ((7 : Int32)).toNatClampNeg) := inb_of S_42 ⟨by decide, hc217⟩
        obtain ⟨T_42, h_42, X_42, e_42, W_42, st_42⟩ := stB X_37 hx hZ e_37 Ar_42 (j := (7 : Int32)) hin_42 (g := (mkF m 230 #[.val (.long q0), .second, .val (.long q1), .second, .val (.int p2), .val (.int z), .val (.ref b_1), .val (.ref b_18), .unset, .unset] [(.int ((own_unit q0 q1 (7 : Int32)).toInt8.toInt32)), (.int (7 : Int32)), (.ref b_18)])) rfl rfl (hb hby at_230)
        have c26 : Keep h0 h_42 [] := K_37.wr W_42 (Or.inr sz_b_18)
        have c27 := cj_37_0.other W_42 ne_b_1_b_18
        have V_42 : Arv Z h_42 b_18 k_18 .byte z [(.int (nar .byte ((own_unit q0 q1 (0 : Int32)).toInt8.toInt32))), (.int (nar .byte ((own_unit q0 q1 (1 : Int32)).toInt8.toInt32))), (.int (nar .byte ((own_unit q0 q1 (2 : Int32)).toInt8.toInt32))), (.int (nar .byte ((own_unit q0 q1 (3 : Int32)).toInt8.toInt32))), (.int (nar .byte ((own_unit q0 q1 (4 : Int32)).toInt8.toInt32))), (.int (nar .byte ((own_unit q0 q1 (5 : Int32)).toInt8.toInt32))), (.int (nar .byte ((own_unit q0 q1 (6 : Int32)).toInt8.toInt32))), (.int (nar .byte ((own_unit q0 q1 (7 : Int32)).toInt8.toInt32)))] (.int (0 : Int32)) := Arv.set Ar_42 q_42 S_42 M_42 H_42 G_42 (fits_nar_byte _) W_42 7 rfl (Nat.le_of_ble_eq_true rfl)
        have N_42 := Fr.snoc X_42 N_37 g_b_18
        have Z0__42 : n0 ≤ h_42.size := by rw [W_42.size]; exact Z0__37
        refine own_gj (B := T_42.setTop (mkF m 231 #[.val (.long q0), .second, .val (.long q1), .second, .val (.int p2), .val (.int z), .val (.ref b_1), .val (.ref b_18), .unset, .unset] [])) (fun t k => st_42 t k) ?_
        exact ⟨T_42, _, _, ⟨X_42, e_42, N_42, c26, Z0__42, c27, V_42⟩, fun t k => k⟩
      · refine own_gj (B := T_37.setTop (mkF m 231 #[.val (.long q0), .second, .val (.long q1), .second, .val (.int p2), .val (.int z), .val (.ref b_1), .val (.ref b_18), .unset, .unset] [])) (fun t k => ?_) ?_
        · show Steps p.tables e below (T_37.setTop (mkF m 217 #[.val (.long q0), .second, .val (.long q1), .second, .val (.int p2), .val (.int z), .val (.ref b_1), .val (.ref b_18), .unset, .unset] [(.int (7 : Int32)), (.int z)])) _
          refine XS.icmpYes X_37.here hx rfl (pc0 := 217) (pc' := 231) rfl (hb hby at_217) rfl (flt hc217).2.2.2 (by decide) (by decide) ?_
          exact k
        exact ⟨T_37, _, _, ⟨X_37, e_37, N_37, K_37, Z0__37, cj_37_0, (own_arw cj_37_1 7 (.int (nar .byte ((own_unit q0 q1 (7 : Int32)).toInt8.toInt32))) (own_clamp z 7 7 rfl hc217))⟩, fun t k => k⟩
    refine own_go (B := T_40.setTop (mkF m 231 #[.val (.long q0), .second, .val (.long q1), .second, .val (.int p2), .val (.int z), .val (.ref b_1), .val (.ref b_18), .unset, .unset] [])) (fun t k => st_40 t k) ?_
    refine own_go (B := T_40.setTop (mkF m 240 #[.val (.long q0), .second, .val (.long q1), .second, .val (.int p2), .val (.int z), .val (.ref b_1), .val (.ref b_18), .val (.int (0 : Int32)), .unset] [(.int z), (.int (0 : Int32)), (.ref b_1)])) (fun t k => ?_) ?_
    · show Steps p.tables e below (T_40.setTop (mkF m 231 #[.val (.long q0), .second, .val (.long q1), .second, .val (.int p2), .val (.int z), .val (.ref b_1), .val (.ref b_18), .unset, .unset] [])) _
      refine XS.iconst X_40.here hx rfl (hb hby at_231) ?_
      show Steps p.tables e below (T_40.setTop (mkF m 232 #[.val (.long q0), .second, .val (.long q1), .second, .val (.int p2), .val (.int z), .val (.ref b_1), .val (.ref b_18), .unset, .unset] [(.int (0 : Int32))])) _
      refine XS.istore X_40.here hx rfl (hb hby at_232) rfl (l' := #[.val (.long q0), .second, .val (.long q1), .second, .val (.int p2), .val (.int z), .val (.ref b_1), .val (.ref b_18), .val (.int (0 : Int32)), .unset]) rfl ?_
      show Steps p.tables e below (T_40.setTop (mkF m 234 #[.val (.long q0), .second, .val (.long q1), .second, .val (.int p2), .val (.int z), .val (.ref b_1), .val (.ref b_18), .val (.int (0 : Int32)), .unset] [])) _
      refine XS.aload X_40.here hx rfl (hb hby at_234) rfl rfl ?_
      show Steps p.tables e below (T_40.setTop (mkF m 236 #[.val (.long q0), .second, .val (.long q1), .second, .val (.int p2), .val (.int z), .val (.ref b_1), .val (.ref b_18), .val (.int (0 : Int32)), .unset] [(.ref b_1)])) _
      refine XS.iload X_40.here hx rfl (hb hby at_236) rfl ?_
      show Steps p.tables e below (T_40.setTop (mkF m 238 #[.val (.long q0), .second, .val (.long q1), .second, .val (.int p2), .val (.int z), .val (.ref b_1), .val (.ref b_18), .val (.int (0 : Int32)), .unset] [(.int (0 : Int32)), (.ref b_1)])) _
      refine XS.iload X_40.here hx rfl (hb hby at_238) rfl ?_
      exact k
    obtain ⟨_, _, ⟨T_43, L_43, k_43, n_43⟩, -, X_43, ⟨Lc_43, hQ_43, l_43, y_43, z_43⟩, st_43⟩ := Jvm.LawKit.callS X_40 hx (y := (⟨"com/example/ballast/ballast/model/Utf8TextIsUtf8PinLaw", "step", "([III)I"⟩ : MethodName)) hown (mvT hZ (hw _ (List.mem_of_getElem? (i := 8) rfl))) (mvT hZ (hw _ (List.mem_of_getElem? (i := 9) rfl))) (mvT hZ (hw _ (List.mem_of_getElem? (i := 4) rfl))) (mvT hZ (hw _ (List.mem_of_getElem? (i := 10) rfl))) (by decide) (backOf (W := 0) (rm2 l Z av0 hw [] b_1 (0 : Int32) z k_1 [(own_unit q0 q1 (0 : Int32)), (own_unit q0 q1 (1 : Int32)), (own_unit q0 q1 (2 : Int32)), (own_unit q0 q1 (3 : Int32)), (own_unit q0 q1 (4 : Int32)), (own_unit q0 q1 (5 : Int32)), (own_unit q0 q1 (6 : Int32)), (own_unit q0 q1 (7 : Int32)), (0 : Int32), (0 : Int32), (0 : Int32)] h_40 n0 Z0__40 cj_40_0 hz9) hZ (hw _ (List.mem_of_getElem? (i := 10) rfl)) (hw _ (List.mem_of_getElem? (i := 4) rfl)) (by decide) (by decide)) (g := (mkF m 240 #[.val (.long q0), .second, .val (.long q1), .second, .val (.int p2), .val (.int z), .val (.ref b_1), .val (.ref b_18), .val (.int (0 : Int32)), .unset] [(.int z), (.int (0 : Int32)), (.ref b_1)])) rfl (by rw [hml]; rfl) (argsL := [(.ref b_1), (.int (0 : Int32)), (.int z)]) (rest := []) (lenOf pd_4 rfl) rfl (by show 2 * 0 + _ ≤ _; exact Nat.le_of_eq rfl) (hb hby at_240) (fun _ _ => ⟨rfl, e_40, (by decide : 2 + 0 ≤ _), (by decide : 19 + 0 ≤ _)⟩)
    dsimp only [Pt.U, Pt.locs, Pt.cells, Pt.slots] at X_43 l_43 y_43 z_43 st_43 hQ_43
    subst l_43 y_43 z_43
    obtain ⟨hv_43, N_43q, e_43⟩ := hQ_43
    have N_43 := Fr.app N_40 N_43q
    obtain ⟨pp_43, hpp_43⟩ : ∃ p : Int32, p = own_stp q0 q1 z (0 : Int32) := ⟨_, rfl⟩
    rw [show own_step [(own_unit q0 q1 (0 : Int32)), (own_unit q0 q1 (1 : Int32)), (own_unit q0 q1 (2 : Int32)), (own_unit q0 q1 (3 : Int32)), (own_unit q0 q1 (4 : Int32)), (own_unit q0 q1 (5 : Int32)), (own_unit q0 q1 (6 : Int32)), (own_unit q0 q1 (7 : Int32)), (0 : Int32), (0 : Int32), (0 : Int32)] (0 : Int32) z = pp_43 from hpp_43.symm] at hv_43
    subst hv_43
    refine own_go (B := T_43.setTop (mkF m 243 #[.val (.long q0), .second, .val (.long q1), .second, .val (.int p2), .val (.int z), .val (.ref b_1), .val (.ref b_18), .val (.int (0 : Int32)), .unset] [(.int pp_43)])) (fun t k => st_43 t k) ?_
    refine own_go (B := T_43.setTop (mkF m 251 #[.val (.long q0), .second, .val (.long q1), .second, .val (.int p2), .val (.int z), .val (.ref b_1), .val (.ref b_18), .val (.int pp_43), .unset] [(.int z), (.int pp_43), (.ref b_1)])) (fun t k => ?_) ?_
    · show Steps p.tables e below (T_43.setTop (mkF m 243 #[.val (.long q0), .second, .val (.long q1), .second, .val (.int p2), .val (.int z), .val (.ref b_1), .val (.ref b_18), .val (.int (0 : Int32)), .unset] [(.int pp_43)])) _
      refine XS.istore X_43.here hx rfl (hb hby at_243) rfl (l' := #[.val (.long q0), .second, .val (.long q1), .second, .val (.int p2), .val (.int z), .val (.ref b_1), .val (.ref b_18), .val (.int pp_43), .unset]) rfl ?_
      show Steps p.tables e below (T_43.setTop (mkF m 245 #[.val (.long q0), .second, .val (.long q1), .second, .val (.int p2), .val (.int z), .val (.ref b_1), .val (.ref b_18), .val (.int pp_43), .unset] [])) _
      refine XS.aload X_43.here hx rfl (hb hby at_245) rfl rfl ?_
      show Steps p.tables e below (T_43.setTop (mkF m 247 #[.val (.long q0), .second, .val (.long q1), .second, .val (.int p2), .val (.int z), .val (.ref b_1), .val (.ref b_18), .val (.int pp_43), .unset] [(.ref b_1)])) _
      refine XS.iload X_43.here hx rfl (hb hby at_247) rfl ?_
      show Steps p.tables e below (T_43.setTop (mkF m 249 #[.val (.long q0), .second, .val (.long q1), .second, .val (.int p2), .val (.int z), .val (.ref b_1), .val (.ref b_18), .val (.int pp_43), .unset] [(.int pp_43), (.ref b_1)])) _
      refine XS.iload X_43.here hx rfl (hb hby at_249) rfl ?_
      exact k
    obtain ⟨_, _, ⟨T_44, L_44, k_44, n_44⟩, -, X_44, ⟨Lc_44, hQ_44, l_44, y_44, z_44⟩, st_44⟩ := Jvm.LawKit.callS X_43 hx (y := (⟨"com/example/ballast/ballast/model/Utf8TextIsUtf8PinLaw", "step", "([III)I"⟩ : MethodName)) hown (mvT hZ (hw _ (List.mem_of_getElem? (i := 8) rfl))) (mvT hZ (hw _ (List.mem_of_getElem? (i := 9) rfl))) (mvT hZ (hw _ (List.mem_of_getElem? (i := 4) rfl))) (mvT hZ (hw _ (List.mem_of_getElem? (i := 10) rfl))) (by decide) (backOf (W := 0) (rm2 l Z av0 hw [] b_1 pp_43 z k_1 [(own_unit q0 q1 (0 : Int32)), (own_unit q0 q1 (1 : Int32)), (own_unit q0 q1 (2 : Int32)), (own_unit q0 q1 (3 : Int32)), (own_unit q0 q1 (4 : Int32)), (own_unit q0 q1 (5 : Int32)), (own_unit q0 q1 (6 : Int32)), (own_unit q0 q1 (7 : Int32)), (0 : Int32), (0 : Int32), (0 : Int32)] h_40 n0 Z0__40 cj_40_0 hz9) hZ (hw _ (List.mem_of_getElem? (i := 10) rfl)) (hw _ (List.mem_of_getElem? (i := 4) rfl)) (by decide) (by decide)) (g := (mkF m 251 #[.val (.long q0), .second, .val (.long q1), .second, .val (.int p2), .val (.int z), .val (.ref b_1), .val (.ref b_18), .val (.int pp_43), .unset] [(.int z), (.int pp_43), (.ref b_1)])) rfl (by rw [hml]; rfl) (argsL := [(.ref b_1), (.int pp_43), (.int z)]) (rest := []) (lenOf pd_4 rfl) rfl (by show 2 * 0 + _ ≤ _; exact Nat.le_of_eq rfl) (hb hby at_251) (fun _ _ => ⟨rfl, e_43, (by decide : 2 + 0 ≤ _), (by decide : 19 + 0 ≤ _)⟩)
    dsimp only [Pt.U, Pt.locs, Pt.cells, Pt.slots] at X_44 l_44 y_44 z_44 st_44 hQ_44
    subst l_44 y_44 z_44
    obtain ⟨hv_44, N_44q, e_44⟩ := hQ_44
    have N_44 := Fr.app N_43 N_44q
    obtain ⟨pp_44, hpp_44⟩ : ∃ p : Int32, p = own_stp q0 q1 z pp_43 := ⟨_, rfl⟩
    rw [show own_step [(own_unit q0 q1 (0 : Int32)), (own_unit q0 q1 (1 : Int32)), (own_unit q0 q1 (2 : Int32)), (own_unit q0 q1 (3 : Int32)), (own_unit q0 q1 (4 : Int32)), (own_unit q0 q1 (5 : Int32)), (own_unit q0 q1 (6 : Int32)), (own_unit q0 q1 (7 : Int32)), (0 : Int32), (0 : Int32), (0 : Int32)] pp_43 z = pp_44 from hpp_44.symm] at hv_44
    subst hv_44
    refine own_go (B := T_44.setTop (mkF m 254 #[.val (.long q0), .second, .val (.long q1), .second, .val (.int p2), .val (.int z), .val (.ref b_1), .val (.ref b_18), .val (.int pp_43), .unset] [(.int pp_44)])) (fun t k => st_44 t k) ?_
    refine own_go (B := T_44.setTop (mkF m 262 #[.val (.long q0), .second, .val (.long q1), .second, .val (.int p2), .val (.int z), .val (.ref b_1), .val (.ref b_18), .val (.int pp_44), .unset] [(.int z), (.int pp_44), (.ref b_1)])) (fun t k => ?_) ?_
    · show Steps p.tables e below (T_44.setTop (mkF m 254 #[.val (.long q0), .second, .val (.long q1), .second, .val (.int p2), .val (.int z), .val (.ref b_1), .val (.ref b_18), .val (.int pp_43), .unset] [(.int pp_44)])) _
      refine XS.istore X_44.here hx rfl (hb hby at_254) rfl (l' := #[.val (.long q0), .second, .val (.long q1), .second, .val (.int p2), .val (.int z), .val (.ref b_1), .val (.ref b_18), .val (.int pp_44), .unset]) rfl ?_
      show Steps p.tables e below (T_44.setTop (mkF m 256 #[.val (.long q0), .second, .val (.long q1), .second, .val (.int p2), .val (.int z), .val (.ref b_1), .val (.ref b_18), .val (.int pp_44), .unset] [])) _
      refine XS.aload X_44.here hx rfl (hb hby at_256) rfl rfl ?_
      show Steps p.tables e below (T_44.setTop (mkF m 258 #[.val (.long q0), .second, .val (.long q1), .second, .val (.int p2), .val (.int z), .val (.ref b_1), .val (.ref b_18), .val (.int pp_44), .unset] [(.ref b_1)])) _
      refine XS.iload X_44.here hx rfl (hb hby at_258) rfl ?_
      show Steps p.tables e below (T_44.setTop (mkF m 260 #[.val (.long q0), .second, .val (.long q1), .second, .val (.int p2), .val (.int z), .val (.ref b_1), .val (.ref b_18), .val (.int pp_44), .unset] [(.int pp_44), (.ref b_1)])) _
      refine XS.iload X_44.here hx rfl (hb hby at_260) rfl ?_
      exact k
    obtain ⟨_, _, ⟨T_45, L_45, k_45, n_45⟩, -, X_45, ⟨Lc_45, hQ_45, l_45, y_45, z_45⟩, st_45⟩ := Jvm.LawKit.callS X_44 hx (y := (⟨"com/example/ballast/ballast/model/Utf8TextIsUtf8PinLaw", "step", "([III)I"⟩ : MethodName)) hown (mvT hZ (hw _ (List.mem_of_getElem? (i := 8) rfl))) (mvT hZ (hw _ (List.mem_of_getElem? (i := 9) rfl))) (mvT hZ (hw _ (List.mem_of_getElem? (i := 4) rfl))) (mvT hZ (hw _ (List.mem_of_getElem? (i := 10) rfl))) (by decide) (backOf (W := 0) (rm2 l Z av0 hw [] b_1 pp_44 z k_1 [(own_unit q0 q1 (0 : Int32)), (own_unit q0 q1 (1 : Int32)), (own_unit q0 q1 (2 : Int32)), (own_unit q0 q1 (3 : Int32)), (own_unit q0 q1 (4 : Int32)), (own_unit q0 q1 (5 : Int32)), (own_unit q0 q1 (6 : Int32)), (own_unit q0 q1 (7 : Int32)), (0 : Int32), (0 : Int32), (0 : Int32)] h_40 n0 Z0__40 cj_40_0 hz9) hZ (hw _ (List.mem_of_getElem? (i := 10) rfl)) (hw _ (List.mem_of_getElem? (i := 4) rfl)) (by decide) (by decide)) (g := (mkF m 262 #[.val (.long q0), .second, .val (.long q1), .second, .val (.int p2), .val (.int z), .val (.ref b_1), .val (.ref b_18), .val (.int pp_44), .unset] [(.int z), (.int pp_44), (.ref b_1)])) rfl (by rw [hml]; rfl) (argsL := [(.ref b_1), (.int pp_44), (.int z)]) (rest := []) (lenOf pd_4 rfl) rfl (by show 2 * 0 + _ ≤ _; exact Nat.le_of_eq rfl) (hb hby at_262) (fun _ _ => ⟨rfl, e_44, (by decide : 2 + 0 ≤ _), (by decide : 19 + 0 ≤ _)⟩)
    dsimp only [Pt.U, Pt.locs, Pt.cells, Pt.slots] at X_45 l_45 y_45 z_45 st_45 hQ_45
    subst l_45 y_45 z_45
    obtain ⟨hv_45, N_45q, e_45⟩ := hQ_45
    have N_45 := Fr.app N_44 N_45q
    obtain ⟨pp_45, hpp_45⟩ : ∃ p : Int32, p = own_stp q0 q1 z pp_44 := ⟨_, rfl⟩
    rw [show own_step [(own_unit q0 q1 (0 : Int32)), (own_unit q0 q1 (1 : Int32)), (own_unit q0 q1 (2 : Int32)), (own_unit q0 q1 (3 : Int32)), (own_unit q0 q1 (4 : Int32)), (own_unit q0 q1 (5 : Int32)), (own_unit q0 q1 (6 : Int32)), (own_unit q0 q1 (7 : Int32)), (0 : Int32), (0 : Int32), (0 : Int32)] pp_44 z = pp_45 from hpp_45.symm] at hv_45
    subst hv_45
    refine own_go (B := T_45.setTop (mkF m 265 #[.val (.long q0), .second, .val (.long q1), .second, .val (.int p2), .val (.int z), .val (.ref b_1), .val (.ref b_18), .val (.int pp_44), .unset] [(.int pp_45)])) (fun t k => st_45 t k) ?_
    refine own_go (B := T_45.setTop (mkF m 273 #[.val (.long q0), .second, .val (.long q1), .second, .val (.int p2), .val (.int z), .val (.ref b_1), .val (.ref b_18), .val (.int pp_45), .unset] [(.int z), (.int pp_45), (.ref b_1)])) (fun t k => ?_) ?_
    · show Steps p.tables e below (T_45.setTop (mkF m 265 #[.val (.long q0), .second, .val (.long q1), .second, .val (.int p2), .val (.int z), .val (.ref b_1), .val (.ref b_18), .val (.int pp_44), .unset] [(.int pp_45)])) _
      refine XS.istore X_45.here hx rfl (hb hby at_265) rfl (l' := #[.val (.long q0), .second, .val (.long q1), .second, .val (.int p2), .val (.int z), .val (.ref b_1), .val (.ref b_18), .val (.int pp_45), .unset]) rfl ?_
      show Steps p.tables e below (T_45.setTop (mkF m 267 #[.val (.long q0), .second, .val (.long q1), .second, .val (.int p2), .val (.int z), .val (.ref b_1), .val (.ref b_18), .val (.int pp_45), .unset] [])) _
      refine XS.aload X_45.here hx rfl (hb hby at_267) rfl rfl ?_
      show Steps p.tables e below (T_45.setTop (mkF m 269 #[.val (.long q0), .second, .val (.long q1), .second, .val (.int p2), .val (.int z), .val (.ref b_1), .val (.ref b_18), .val (.int pp_45), .unset] [(.ref b_1)])) _
      refine XS.iload X_45.here hx rfl (hb hby at_269) rfl ?_
      show Steps p.tables e below (T_45.setTop (mkF m 271 #[.val (.long q0), .second, .val (.long q1), .second, .val (.int p2), .val (.int z), .val (.ref b_1), .val (.ref b_18), .val (.int pp_45), .unset] [(.int pp_45), (.ref b_1)])) _
      refine XS.iload X_45.here hx rfl (hb hby at_271) rfl ?_
      exact k
    obtain ⟨_, _, ⟨T_46, L_46, k_46, n_46⟩, -, X_46, ⟨Lc_46, hQ_46, l_46, y_46, z_46⟩, st_46⟩ := Jvm.LawKit.callS X_45 hx (y := (⟨"com/example/ballast/ballast/model/Utf8TextIsUtf8PinLaw", "step", "([III)I"⟩ : MethodName)) hown (mvT hZ (hw _ (List.mem_of_getElem? (i := 8) rfl))) (mvT hZ (hw _ (List.mem_of_getElem? (i := 9) rfl))) (mvT hZ (hw _ (List.mem_of_getElem? (i := 4) rfl))) (mvT hZ (hw _ (List.mem_of_getElem? (i := 10) rfl))) (by decide) (backOf (W := 0) (rm2 l Z av0 hw [] b_1 pp_45 z k_1 [(own_unit q0 q1 (0 : Int32)), (own_unit q0 q1 (1 : Int32)), (own_unit q0 q1 (2 : Int32)), (own_unit q0 q1 (3 : Int32)), (own_unit q0 q1 (4 : Int32)), (own_unit q0 q1 (5 : Int32)), (own_unit q0 q1 (6 : Int32)), (own_unit q0 q1 (7 : Int32)), (0 : Int32), (0 : Int32), (0 : Int32)] h_40 n0 Z0__40 cj_40_0 hz9) hZ (hw _ (List.mem_of_getElem? (i := 10) rfl)) (hw _ (List.mem_of_getElem? (i := 4) rfl)) (by decide) (by decide)) (g := (mkF m 273 #[.val (.long q0), .second, .val (.long q1), .second, .val (.int p2), .val (.int z), .val (.ref b_1), .val (.ref b_18), .val (.int pp_45), .unset] [(.int z), (.int pp_45), (.ref b_1)])) rfl (by rw [hml]; rfl) (argsL := [(.ref b_1), (.int pp_45), (.int z)]) (rest := []) (lenOf pd_4 rfl) rfl (by show 2 * 0 + _ ≤ _; exact Nat.le_of_eq rfl) (hb hby at_273) (fun _ _ => ⟨rfl, e_45, (by decide : 2 + 0 ≤ _), (by decide : 19 + 0 ≤ _)⟩)
    dsimp only [Pt.U, Pt.locs, Pt.cells, Pt.slots] at X_46 l_46 y_46 z_46 st_46 hQ_46
    subst l_46 y_46 z_46
    obtain ⟨hv_46, N_46q, e_46⟩ := hQ_46
    have N_46 := Fr.app N_45 N_46q
    obtain ⟨pp_46, hpp_46⟩ : ∃ p : Int32, p = own_stp q0 q1 z pp_45 := ⟨_, rfl⟩
    rw [show own_step [(own_unit q0 q1 (0 : Int32)), (own_unit q0 q1 (1 : Int32)), (own_unit q0 q1 (2 : Int32)), (own_unit q0 q1 (3 : Int32)), (own_unit q0 q1 (4 : Int32)), (own_unit q0 q1 (5 : Int32)), (own_unit q0 q1 (6 : Int32)), (own_unit q0 q1 (7 : Int32)), (0 : Int32), (0 : Int32), (0 : Int32)] pp_45 z = pp_46 from hpp_46.symm] at hv_46
    subst hv_46
    refine own_go (B := T_46.setTop (mkF m 276 #[.val (.long q0), .second, .val (.long q1), .second, .val (.int p2), .val (.int z), .val (.ref b_1), .val (.ref b_18), .val (.int pp_45), .unset] [(.int pp_46)])) (fun t k => st_46 t k) ?_
    refine own_go (B := T_46.setTop (mkF m 284 #[.val (.long q0), .second, .val (.long q1), .second, .val (.int p2), .val (.int z), .val (.ref b_1), .val (.ref b_18), .val (.int pp_46), .unset] [(.int z), (.int pp_46), (.ref b_1)])) (fun t k => ?_) ?_
    · show Steps p.tables e below (T_46.setTop (mkF m 276 #[.val (.long q0), .second, .val (.long q1), .second, .val (.int p2), .val (.int z), .val (.ref b_1), .val (.ref b_18), .val (.int pp_45), .unset] [(.int pp_46)])) _
      refine XS.istore X_46.here hx rfl (hb hby at_276) rfl (l' := #[.val (.long q0), .second, .val (.long q1), .second, .val (.int p2), .val (.int z), .val (.ref b_1), .val (.ref b_18), .val (.int pp_46), .unset]) rfl ?_
      show Steps p.tables e below (T_46.setTop (mkF m 278 #[.val (.long q0), .second, .val (.long q1), .second, .val (.int p2), .val (.int z), .val (.ref b_1), .val (.ref b_18), .val (.int pp_46), .unset] [])) _
      refine XS.aload X_46.here hx rfl (hb hby at_278) rfl rfl ?_
      show Steps p.tables e below (T_46.setTop (mkF m 280 #[.val (.long q0), .second, .val (.long q1), .second, .val (.int p2), .val (.int z), .val (.ref b_1), .val (.ref b_18), .val (.int pp_46), .unset] [(.ref b_1)])) _
      refine XS.iload X_46.here hx rfl (hb hby at_280) rfl ?_
      show Steps p.tables e below (T_46.setTop (mkF m 282 #[.val (.long q0), .second, .val (.long q1), .second, .val (.int p2), .val (.int z), .val (.ref b_1), .val (.ref b_18), .val (.int pp_46), .unset] [(.int pp_46), (.ref b_1)])) _
      refine XS.iload X_46.here hx rfl (hb hby at_282) rfl ?_
      exact k
    obtain ⟨_, _, ⟨T_47, L_47, k_47, n_47⟩, -, X_47, ⟨Lc_47, hQ_47, l_47, y_47, z_47⟩, st_47⟩ := Jvm.LawKit.callS X_46 hx (y := (⟨"com/example/ballast/ballast/model/Utf8TextIsUtf8PinLaw", "step", "([III)I"⟩ : MethodName)) hown (mvT hZ (hw _ (List.mem_of_getElem? (i := 8) rfl))) (mvT hZ (hw _ (List.mem_of_getElem? (i := 9) rfl))) (mvT hZ (hw _ (List.mem_of_getElem? (i := 4) rfl))) (mvT hZ (hw _ (List.mem_of_getElem? (i := 10) rfl))) (by decide) (backOf (W := 0) (rm2 l Z av0 hw [] b_1 pp_46 z k_1 [(own_unit q0 q1 (0 : Int32)), (own_unit q0 q1 (1 : Int32)), (own_unit q0 q1 (2 : Int32)), (own_unit q0 q1 (3 : Int32)), (own_unit q0 q1 (4 : Int32)), (own_unit q0 q1 (5 : Int32)), (own_unit q0 q1 (6 : Int32)), (own_unit q0 q1 (7 : Int32)), (0 : Int32), (0 : Int32), (0 : Int32)] h_40 n0 Z0__40 cj_40_0 hz9) hZ (hw _ (List.mem_of_getElem? (i := 10) rfl)) (hw _ (List.mem_of_getElem? (i := 4) rfl)) (by decide) (by decide)) (g := (mkF m 284 #[.val (.long q0), .second, .val (.long q1), .second, .val (.int p2), .val (.int z), .val (.ref b_1), .val (.ref b_18), .val (.int pp_46), .unset] [(.int z), (.int pp_46), (.ref b_1)])) rfl (by rw [hml]; rfl) (argsL := [(.ref b_1), (.int pp_46), (.int z)]) (rest := []) (lenOf pd_4 rfl) rfl (by show 2 * 0 + _ ≤ _; exact Nat.le_of_eq rfl) (hb hby at_284) (fun _ _ => ⟨rfl, e_46, (by decide : 2 + 0 ≤ _), (by decide : 19 + 0 ≤ _)⟩)
    dsimp only [Pt.U, Pt.locs, Pt.cells, Pt.slots] at X_47 l_47 y_47 z_47 st_47 hQ_47
    subst l_47 y_47 z_47
    obtain ⟨hv_47, N_47q, e_47⟩ := hQ_47
    have N_47 := Fr.app N_46 N_47q
    obtain ⟨pp_47, hpp_47⟩ : ∃ p : Int32, p = own_stp q0 q1 z pp_46 := ⟨_, rfl⟩
    rw [show own_step [(own_unit q0 q1 (0 : Int32)), (own_unit q0 q1 (1 : Int32)), (own_unit q0 q1 (2 : Int32)), (own_unit q0 q1 (3 : Int32)), (own_unit q0 q1 (4 : Int32)), (own_unit q0 q1 (5 : Int32)), (own_unit q0 q1 (6 : Int32)), (own_unit q0 q1 (7 : Int32)), (0 : Int32), (0 : Int32), (0 : Int32)] pp_46 z = pp_47 from hpp_47.symm] at hv_47
    subst hv_47
    refine own_go (B := T_47.setTop (mkF m 287 #[.val (.long q0), .second, .val (.long q1), .second, .val (.int p2), .val (.int z), .val (.ref b_1), .val (.ref b_18), .val (.int pp_46), .unset] [(.int pp_47)])) (fun t k => st_47 t k) ?_
    refine own_go (B := T_47.setTop (mkF m 295 #[.val (.long q0), .second, .val (.long q1), .second, .val (.int p2), .val (.int z), .val (.ref b_1), .val (.ref b_18), .val (.int pp_47), .unset] [(.int z), (.int pp_47), (.ref b_1)])) (fun t k => ?_) ?_
    · show Steps p.tables e below (T_47.setTop (mkF m 287 #[.val (.long q0), .second, .val (.long q1), .second, .val (.int p2), .val (.int z), .val (.ref b_1), .val (.ref b_18), .val (.int pp_46), .unset] [(.int pp_47)])) _
      refine XS.istore X_47.here hx rfl (hb hby at_287) rfl (l' := #[.val (.long q0), .second, .val (.long q1), .second, .val (.int p2), .val (.int z), .val (.ref b_1), .val (.ref b_18), .val (.int pp_47), .unset]) rfl ?_
      show Steps p.tables e below (T_47.setTop (mkF m 289 #[.val (.long q0), .second, .val (.long q1), .second, .val (.int p2), .val (.int z), .val (.ref b_1), .val (.ref b_18), .val (.int pp_47), .unset] [])) _
      refine XS.aload X_47.here hx rfl (hb hby at_289) rfl rfl ?_
      show Steps p.tables e below (T_47.setTop (mkF m 291 #[.val (.long q0), .second, .val (.long q1), .second, .val (.int p2), .val (.int z), .val (.ref b_1), .val (.ref b_18), .val (.int pp_47), .unset] [(.ref b_1)])) _
      refine XS.iload X_47.here hx rfl (hb hby at_291) rfl ?_
      show Steps p.tables e below (T_47.setTop (mkF m 293 #[.val (.long q0), .second, .val (.long q1), .second, .val (.int p2), .val (.int z), .val (.ref b_1), .val (.ref b_18), .val (.int pp_47), .unset] [(.int pp_47), (.ref b_1)])) _
      refine XS.iload X_47.here hx rfl (hb hby at_293) rfl ?_
      exact k
    obtain ⟨_, _, ⟨T_48, L_48, k_48, n_48⟩, -, X_48, ⟨Lc_48, hQ_48, l_48, y_48, z_48⟩, st_48⟩ := Jvm.LawKit.callS X_47 hx (y := (⟨"com/example/ballast/ballast/model/Utf8TextIsUtf8PinLaw", "step", "([III)I"⟩ : MethodName)) hown (mvT hZ (hw _ (List.mem_of_getElem? (i := 8) rfl))) (mvT hZ (hw _ (List.mem_of_getElem? (i := 9) rfl))) (mvT hZ (hw _ (List.mem_of_getElem? (i := 4) rfl))) (mvT hZ (hw _ (List.mem_of_getElem? (i := 10) rfl))) (by decide) (backOf (W := 0) (rm2 l Z av0 hw [] b_1 pp_47 z k_1 [(own_unit q0 q1 (0 : Int32)), (own_unit q0 q1 (1 : Int32)), (own_unit q0 q1 (2 : Int32)), (own_unit q0 q1 (3 : Int32)), (own_unit q0 q1 (4 : Int32)), (own_unit q0 q1 (5 : Int32)), (own_unit q0 q1 (6 : Int32)), (own_unit q0 q1 (7 : Int32)), (0 : Int32), (0 : Int32), (0 : Int32)] h_40 n0 Z0__40 cj_40_0 hz9) hZ (hw _ (List.mem_of_getElem? (i := 10) rfl)) (hw _ (List.mem_of_getElem? (i := 4) rfl)) (by decide) (by decide)) (g := (mkF m 295 #[.val (.long q0), .second, .val (.long q1), .second, .val (.int p2), .val (.int z), .val (.ref b_1), .val (.ref b_18), .val (.int pp_47), .unset] [(.int z), (.int pp_47), (.ref b_1)])) rfl (by rw [hml]; rfl) (argsL := [(.ref b_1), (.int pp_47), (.int z)]) (rest := []) (lenOf pd_4 rfl) rfl (by show 2 * 0 + _ ≤ _; exact Nat.le_of_eq rfl) (hb hby at_295) (fun _ _ => ⟨rfl, e_47, (by decide : 2 + 0 ≤ _), (by decide : 19 + 0 ≤ _)⟩)
    dsimp only [Pt.U, Pt.locs, Pt.cells, Pt.slots] at X_48 l_48 y_48 z_48 st_48 hQ_48
    subst l_48 y_48 z_48
    obtain ⟨hv_48, N_48q, e_48⟩ := hQ_48
    have N_48 := Fr.app N_47 N_48q
    obtain ⟨pp_48, hpp_48⟩ : ∃ p : Int32, p = own_stp q0 q1 z pp_47 := ⟨_, rfl⟩
    rw [show own_step [(own_unit q0 q1 (0 : Int32)), (own_unit q0 q1 (1 : Int32)), (own_unit q0 q1 (2 : Int32)), (own_unit q0 q1 (3 : Int32)), (own_unit q0 q1 (4 : Int32)), (own_unit q0 q1 (5 : Int32)), (own_unit q0 q1 (6 : Int32)), (own_unit q0 q1 (7 : Int32)), (0 : Int32), (0 : Int32), (0 : Int32)] pp_47 z = pp_48 from hpp_48.symm] at hv_48
    subst hv_48
    refine own_go (B := T_48.setTop (mkF m 298 #[.val (.long q0), .second, .val (.long q1), .second, .val (.int p2), .val (.int z), .val (.ref b_1), .val (.ref b_18), .val (.int pp_47), .unset] [(.int pp_48)])) (fun t k => st_48 t k) ?_
    refine own_go (B := T_48.setTop (mkF m 306 #[.val (.long q0), .second, .val (.long q1), .second, .val (.int p2), .val (.int z), .val (.ref b_1), .val (.ref b_18), .val (.int pp_48), .unset] [(.int z), (.int pp_48), (.ref b_1)])) (fun t k => ?_) ?_
    · show Steps p.tables e below (T_48.setTop (mkF m 298 #[.val (.long q0), .second, .val (.long q1), .second, .val (.int p2), .val (.int z), .val (.ref b_1), .val (.ref b_18), .val (.int pp_47), .unset] [(.int pp_48)])) _
      refine XS.istore X_48.here hx rfl (hb hby at_298) rfl (l' := #[.val (.long q0), .second, .val (.long q1), .second, .val (.int p2), .val (.int z), .val (.ref b_1), .val (.ref b_18), .val (.int pp_48), .unset]) rfl ?_
      show Steps p.tables e below (T_48.setTop (mkF m 300 #[.val (.long q0), .second, .val (.long q1), .second, .val (.int p2), .val (.int z), .val (.ref b_1), .val (.ref b_18), .val (.int pp_48), .unset] [])) _
      refine XS.aload X_48.here hx rfl (hb hby at_300) rfl rfl ?_
      show Steps p.tables e below (T_48.setTop (mkF m 302 #[.val (.long q0), .second, .val (.long q1), .second, .val (.int p2), .val (.int z), .val (.ref b_1), .val (.ref b_18), .val (.int pp_48), .unset] [(.ref b_1)])) _
      refine XS.iload X_48.here hx rfl (hb hby at_302) rfl ?_
      show Steps p.tables e below (T_48.setTop (mkF m 304 #[.val (.long q0), .second, .val (.long q1), .second, .val (.int p2), .val (.int z), .val (.ref b_1), .val (.ref b_18), .val (.int pp_48), .unset] [(.int pp_48), (.ref b_1)])) _
      refine XS.iload X_48.here hx rfl (hb hby at_304) rfl ?_
      exact k
    obtain ⟨_, _, ⟨T_49, L_49, k_49, n_49⟩, -, X_49, ⟨Lc_49, hQ_49, l_49, y_49, z_49⟩, st_49⟩ := Jvm.LawKit.callS X_48 hx (y := (⟨"com/example/ballast/ballast/model/Utf8TextIsUtf8PinLaw", "step", "([III)I"⟩ : MethodName)) hown (mvT hZ (hw _ (List.mem_of_getElem? (i := 8) rfl))) (mvT hZ (hw _ (List.mem_of_getElem? (i := 9) rfl))) (mvT hZ (hw _ (List.mem_of_getElem? (i := 4) rfl))) (mvT hZ (hw _ (List.mem_of_getElem? (i := 10) rfl))) (by decide) (backOf (W := 0) (rm2 l Z av0 hw [] b_1 pp_48 z k_1 [(own_unit q0 q1 (0 : Int32)), (own_unit q0 q1 (1 : Int32)), (own_unit q0 q1 (2 : Int32)), (own_unit q0 q1 (3 : Int32)), (own_unit q0 q1 (4 : Int32)), (own_unit q0 q1 (5 : Int32)), (own_unit q0 q1 (6 : Int32)), (own_unit q0 q1 (7 : Int32)), (0 : Int32), (0 : Int32), (0 : Int32)] h_40 n0 Z0__40 cj_40_0 hz9) hZ (hw _ (List.mem_of_getElem? (i := 10) rfl)) (hw _ (List.mem_of_getElem? (i := 4) rfl)) (by decide) (by decide)) (g := (mkF m 306 #[.val (.long q0), .second, .val (.long q1), .second, .val (.int p2), .val (.int z), .val (.ref b_1), .val (.ref b_18), .val (.int pp_48), .unset] [(.int z), (.int pp_48), (.ref b_1)])) rfl (by rw [hml]; rfl) (argsL := [(.ref b_1), (.int pp_48), (.int z)]) (rest := []) (lenOf pd_4 rfl) rfl (by show 2 * 0 + _ ≤ _; exact Nat.le_of_eq rfl) (hb hby at_306) (fun _ _ => ⟨rfl, e_48, (by decide : 2 + 0 ≤ _), (by decide : 19 + 0 ≤ _)⟩)
    dsimp only [Pt.U, Pt.locs, Pt.cells, Pt.slots] at X_49 l_49 y_49 z_49 st_49 hQ_49
    subst l_49 y_49 z_49
    obtain ⟨hv_49, N_49q, e_49⟩ := hQ_49
    have N_49 := Fr.app N_48 N_49q
    obtain ⟨pp_49, hpp_49⟩ : ∃ p : Int32, p = own_stp q0 q1 z pp_48 := ⟨_, rfl⟩
    rw [show own_step [(own_unit q0 q1 (0 : Int32)), (own_unit q0 q1 (1 : Int32)), (own_unit q0 q1 (2 : Int32)), (own_unit q0 q1 (3 : Int32)), (own_unit q0 q1 (4 : Int32)), (own_unit q0 q1 (5 : Int32)), (own_unit q0 q1 (6 : Int32)), (own_unit q0 q1 (7 : Int32)), (0 : Int32), (0 : Int32), (0 : Int32)] pp_48 z = pp_49 from hpp_49.symm] at hv_49
    subst hv_49
    refine own_go (B := T_49.setTop (mkF m 309 #[.val (.long q0), .second, .val (.long q1), .second, .val (.int p2), .val (.int z), .val (.ref b_1), .val (.ref b_18), .val (.int pp_48), .unset] [(.int pp_49)])) (fun t k => st_49 t k) ?_
    refine own_go (B := T_49.setTop (mkF m 317 #[.val (.long q0), .second, .val (.long q1), .second, .val (.int p2), .val (.int z), .val (.ref b_1), .val (.ref b_18), .val (.int pp_49), .unset] [(.int z), (.int pp_49), (.ref b_1)])) (fun t k => ?_) ?_
    · show Steps p.tables e below (T_49.setTop (mkF m 309 #[.val (.long q0), .second, .val (.long q1), .second, .val (.int p2), .val (.int z), .val (.ref b_1), .val (.ref b_18), .val (.int pp_48), .unset] [(.int pp_49)])) _
      refine XS.istore X_49.here hx rfl (hb hby at_309) rfl (l' := #[.val (.long q0), .second, .val (.long q1), .second, .val (.int p2), .val (.int z), .val (.ref b_1), .val (.ref b_18), .val (.int pp_49), .unset]) rfl ?_
      show Steps p.tables e below (T_49.setTop (mkF m 311 #[.val (.long q0), .second, .val (.long q1), .second, .val (.int p2), .val (.int z), .val (.ref b_1), .val (.ref b_18), .val (.int pp_49), .unset] [])) _
      refine XS.aload X_49.here hx rfl (hb hby at_311) rfl rfl ?_
      show Steps p.tables e below (T_49.setTop (mkF m 313 #[.val (.long q0), .second, .val (.long q1), .second, .val (.int p2), .val (.int z), .val (.ref b_1), .val (.ref b_18), .val (.int pp_49), .unset] [(.ref b_1)])) _
      refine XS.iload X_49.here hx rfl (hb hby at_313) rfl ?_
      show Steps p.tables e below (T_49.setTop (mkF m 315 #[.val (.long q0), .second, .val (.long q1), .second, .val (.int p2), .val (.int z), .val (.ref b_1), .val (.ref b_18), .val (.int pp_49), .unset] [(.int pp_49), (.ref b_1)])) _
      refine XS.iload X_49.here hx rfl (hb hby at_315) rfl ?_
      exact k
    obtain ⟨_, _, ⟨T_50, L_50, k_50, n_50⟩, -, X_50, ⟨Lc_50, hQ_50, l_50, y_50, z_50⟩, st_50⟩ := Jvm.LawKit.callS X_49 hx (y := (⟨"com/example/ballast/ballast/model/Utf8TextIsUtf8PinLaw", "step", "([III)I"⟩ : MethodName)) hown (mvT hZ (hw _ (List.mem_of_getElem? (i := 8) rfl))) (mvT hZ (hw _ (List.mem_of_getElem? (i := 9) rfl))) (mvT hZ (hw _ (List.mem_of_getElem? (i := 4) rfl))) (mvT hZ (hw _ (List.mem_of_getElem? (i := 10) rfl))) (by decide) (backOf (W := 0) (rm2 l Z av0 hw [] b_1 pp_49 z k_1 [(own_unit q0 q1 (0 : Int32)), (own_unit q0 q1 (1 : Int32)), (own_unit q0 q1 (2 : Int32)), (own_unit q0 q1 (3 : Int32)), (own_unit q0 q1 (4 : Int32)), (own_unit q0 q1 (5 : Int32)), (own_unit q0 q1 (6 : Int32)), (own_unit q0 q1 (7 : Int32)), (0 : Int32), (0 : Int32), (0 : Int32)] h_40 n0 Z0__40 cj_40_0 hz9) hZ (hw _ (List.mem_of_getElem? (i := 10) rfl)) (hw _ (List.mem_of_getElem? (i := 4) rfl)) (by decide) (by decide)) (g := (mkF m 317 #[.val (.long q0), .second, .val (.long q1), .second, .val (.int p2), .val (.int z), .val (.ref b_1), .val (.ref b_18), .val (.int pp_49), .unset] [(.int z), (.int pp_49), (.ref b_1)])) rfl (by rw [hml]; rfl) (argsL := [(.ref b_1), (.int pp_49), (.int z)]) (rest := []) (lenOf pd_4 rfl) rfl (by show 2 * 0 + _ ≤ _; exact Nat.le_of_eq rfl) (hb hby at_317) (fun _ _ => ⟨rfl, e_49, (by decide : 2 + 0 ≤ _), (by decide : 19 + 0 ≤ _)⟩)
    dsimp only [Pt.U, Pt.locs, Pt.cells, Pt.slots] at X_50 l_50 y_50 z_50 st_50 hQ_50
    subst l_50 y_50 z_50
    obtain ⟨hv_50, N_50q, e_50⟩ := hQ_50
    have N_50 := Fr.app N_49 N_50q
    obtain ⟨pp_50, hpp_50⟩ : ∃ p : Int32, p = own_stp q0 q1 z pp_49 := ⟨_, rfl⟩
    rw [show own_step [(own_unit q0 q1 (0 : Int32)), (own_unit q0 q1 (1 : Int32)), (own_unit q0 q1 (2 : Int32)), (own_unit q0 q1 (3 : Int32)), (own_unit q0 q1 (4 : Int32)), (own_unit q0 q1 (5 : Int32)), (own_unit q0 q1 (6 : Int32)), (own_unit q0 q1 (7 : Int32)), (0 : Int32), (0 : Int32), (0 : Int32)] pp_49 z = pp_50 from hpp_50.symm] at hv_50
    subst hv_50
    refine own_go (B := T_50.setTop (mkF m 320 #[.val (.long q0), .second, .val (.long q1), .second, .val (.int p2), .val (.int z), .val (.ref b_1), .val (.ref b_18), .val (.int pp_49), .unset] [(.int pp_50)])) (fun t k => st_50 t k) ?_
    refine own_go (B := T_50.setTop (mkF m 326 #[.val (.long q0), .second, .val (.long q1), .second, .val (.int p2), .val (.int z), .val (.ref b_1), .val (.ref b_18), .val (.int pp_50), .unset] [(.int z), (.int pp_50)])) (fun t k => ?_) ?_
    · show Steps p.tables e below (T_50.setTop (mkF m 320 #[.val (.long q0), .second, .val (.long q1), .second, .val (.int p2), .val (.int z), .val (.ref b_1), .val (.ref b_18), .val (.int pp_49), .unset] [(.int pp_50)])) _
      refine XS.istore X_50.here hx rfl (hb hby at_320) rfl (l' := #[.val (.long q0), .second, .val (.long q1), .second, .val (.int p2), .val (.int z), .val (.ref b_1), .val (.ref b_18), .val (.int pp_50), .unset]) rfl ?_
      show Steps p.tables e below (T_50.setTop (mkF m 322 #[.val (.long q0), .second, .val (.long q1), .second, .val (.int p2), .val (.int z), .val (.ref b_1), .val (.ref b_18), .val (.int pp_50), .unset] [])) _
      refine XS.iload X_50.here hx rfl (hb hby at_322) rfl ?_
      show Steps p.tables e below (T_50.setTop (mkF m 324 #[.val (.long q0), .second, .val (.long q1), .second, .val (.int p2), .val (.int z), .val (.ref b_1), .val (.ref b_18), .val (.int pp_50), .unset] [(.int pp_50)])) _
      refine XS.iload X_50.here hx rfl (hb hby at_324) rfl ?_
      exact k
    obtain ⟨zv1, hzv1⟩ : ∃ zq : Int32, zq = (if pp_50 = z then (1 : Int32) else (0 : Int32)) := ⟨_, rfl⟩
    refine own_go (B := T_50.setTop (mkF m 334 #[.val (.long q0), .second, .val (.long q1), .second, .val (.int p2), .val (.int z), .val (.ref b_1), .val (.ref b_18), .val (.int pp_50), .unset] [(.int zv1)])) (fun t k => ?_) ?_
    · show Steps p.tables e below (T_50.setTop (mkF m 326 #[.val (.long q0), .second, .val (.long q1), .second, .val (.int p2), .val (.int z), .val (.ref b_1), .val (.ref b_18), .val (.int pp_50), .unset] [(.int z), (.int pp_50)])) _
      by_cases hc326 : pp_50 = z
      · refine XS.icmpNo X_50.here hx rfl (hb hby at_326) rfl (teq hc326).2 ?_
        show Steps p.tables e below (T_50.setTop (mkF m 329 #[.val (.long q0), .second, .val (.long q1), .second, .val (.int p2), .val (.int z), .val (.ref b_1), .val (.ref b_18), .val (.int pp_50), .unset] [])) _
        refine XS.iconst X_50.here hx rfl (hb hby at_329) ?_
        show Steps p.tables e below (T_50.setTop (mkF m 330 #[.val (.long q0), .second, .val (.long q1), .second, .val (.int p2), .val (.int z), .val (.ref b_1), .val (.ref b_18), .val (.int pp_50), .unset] [(.int (1 : Int32))])) _
        refine XS.goto X_50.here hx rfl (pc0 := 330) (pc' := 334) rfl (hb hby at_330) (by decide) (by decide) ?_
        show Steps p.tables e below (T_50.setTop (mkF m 334 #[.val (.long q0), .second, .val (.long q1), .second, .val (.int p2), .val (.int z), .val (.ref b_1), .val (.ref b_18), .val (.int pp_50), .unset] [(.int (1 : Int32))])) _
        rw [show zv1 = (1 : Int32) from by simp only [hzv1, if_pos hc326]] at k
        exact k
      · refine XS.icmpYes X_50.here hx rfl (pc0 := 326) (pc' := 333) rfl (hb hby at_326) rfl (feq hc326).2 (by decide) (by decide) ?_
        show Steps p.tables e below (T_50.setTop (mkF m 333 #[.val (.long q0), .second, .val (.long q1), .second, .val (.int p2), .val (.int z), .val (.ref b_1), .val (.ref b_18), .val (.int pp_50), .unset] [])) _
        refine XS.iconst X_50.here hx rfl (hb hby at_333) ?_
        show Steps p.tables e below (T_50.setTop (mkF m 334 #[.val (.long q0), .second, .val (.long q1), .second, .val (.int p2), .val (.int z), .val (.ref b_1), .val (.ref b_18), .val (.int pp_50), .unset] [(.int (0 : Int32))])) _
        rw [show zv1 = (0 : Int32) from by simp only [hzv1, if_neg hc326]] at k
        exact k
    refine own_go (B := T_50.setTop (mkF m 338 #[.val (.long q0), .second, .val (.long q1), .second, .val (.int p2), .val (.int z), .val (.ref b_1), .val (.ref b_18), .val (.int pp_50), .val (.int zv1)] [(.ref b_18)])) (fun t k => ?_) ?_
    · show Steps p.tables e below (T_50.setTop (mkF m 334 #[.val (.long q0), .second, .val (.long q1), .second, .val (.int p2), .val (.int z), .val (.ref b_1), .val (.ref b_18), .val (.int pp_50), .unset] [(.int zv1)])) _
      refine XS.istore X_50.here hx rfl (hb hby at_334) rfl (l' := #[.val (.long q0), .second, .val (.long q1), .second, .val (.int p2), .val (.int z), .val (.ref b_1), .val (.ref b_18), .val (.int pp_50), .val (.int zv1)]) rfl ?_
      show Steps p.tables e below (T_50.setTop (mkF m 336 #[.val (.long q0), .second, .val (.long q1), .second, .val (.int p2), .val (.int z), .val (.ref b_1), .val (.ref b_18), .val (.int pp_50), .val (.int zv1)] [])) _
      refine XS.aload X_50.here hx rfl (hb hby at_336) rfl rfl ?_
      exact k
    obtain ⟨_, _, ⟨T_51, L_51, k_51, n_51⟩, -, X_51, ⟨Lc_51, hQ_51, l_51, y_51, z_51⟩, st_51⟩ := Jvm.LawKit.callS X_50 hx (y := (⟨"com/example/ballast/ballast/model/Utf8Text", "isUtf8", "([B)Z"⟩ : MethodName)) hown (mvT hZ (hw _ (List.mem_of_getElem? (i := 11) rfl))) (mvT hZ (hw _ (List.mem_of_getElem? (i := 12) rfl))) (mvT hZ (hw _ (List.mem_of_getElem? (i := 13) rfl))) (mvT hZ (hw _ (List.mem_of_getElem? (i := 14) rfl))) (by decide) (backOf (W := 0) (rm3 l Z av0 hw [] b_18 k_18 z [(nar .byte ((own_unit q0 q1 (0 : Int32)).toInt8.toInt32)), (nar .byte ((own_unit q0 q1 (1 : Int32)).toInt8.toInt32)), (nar .byte ((own_unit q0 q1 (2 : Int32)).toInt8.toInt32)), (nar .byte ((own_unit q0 q1 (3 : Int32)).toInt8.toInt32)), (nar .byte ((own_unit q0 q1 (4 : Int32)).toInt8.toInt32)), (nar .byte ((own_unit q0 q1 (5 : Int32)).toInt8.toInt32)), (nar .byte ((own_unit q0 q1 (6 : Int32)).toInt8.toInt32)), (nar .byte ((own_unit q0 q1 (7 : Int32)).toInt8.toInt32))] h_40 n0 Z0__40 cj_40_1 hz9) hZ (hw _ (List.mem_of_getElem? (i := 14) rfl)) (hw _ (List.mem_of_getElem? (i := 13) rfl)) (by decide) (by decide)) (g := (mkF m 338 #[.val (.long q0), .second, .val (.long q1), .second, .val (.int p2), .val (.int z), .val (.ref b_1), .val (.ref b_18), .val (.int pp_50), .val (.int zv1)] [(.ref b_18)])) rfl (by rw [hml]; rfl) (argsL := [(.ref b_18)]) (rest := []) (lenOf pd_5 rfl) rfl (by show 2 * 0 + _ ≤ _; exact Nat.le_of_eq rfl) (hb hby at_338) (fun _ _ => ⟨rfl, e_50, (by decide : 2 + 0 ≤ _), (by decide : 19 + 0 ≤ _)⟩)
    dsimp only [Pt.U, Pt.locs, Pt.cells, Pt.slots] at X_51 l_51 y_51 z_51 st_51 hQ_51
    subst l_51 y_51 z_51
    obtain ⟨rfl, N_51q, e_51⟩ := hQ_51
    have N_51 := Fr.app N_50 N_51q
    refine own_go (B := T_51.setTop (mkF m 341 #[.val (.long q0), .second, .val (.long q1), .second, .val (.int p2), .val (.int z), .val (.ref b_1), .val (.ref b_18), .val (.int pp_50), .val (.int zv1)] [(.int (own_loop [(nar .byte ((own_unit q0 q1 (0 : Int32)).toInt8.toInt32)), (nar .byte ((own_unit q0 q1 (1 : Int32)).toInt8.toInt32)), (nar .byte ((own_unit q0 q1 (2 : Int32)).toInt8.toInt32)), (nar .byte ((own_unit q0 q1 (3 : Int32)).toInt8.toInt32)), (nar .byte ((own_unit q0 q1 (4 : Int32)).toInt8.toInt32)), (nar .byte ((own_unit q0 q1 (5 : Int32)).toInt8.toInt32)), (nar .byte ((own_unit q0 q1 (6 : Int32)).toInt8.toInt32)), (nar .byte ((own_unit q0 q1 (7 : Int32)).toInt8.toInt32))] z 9 0))])) (fun t k => st_51 t k) ?_
    refine own_go (B := T_51.setTop (mkF m 343 #[.val (.long q0), .second, .val (.long q1), .second, .val (.int p2), .val (.int z), .val (.ref b_1), .val (.ref b_18), .val (.int pp_50), .val (.int zv1)] [(.int zv1), (.int (own_loop [(nar .byte ((own_unit q0 q1 (0 : Int32)).toInt8.toInt32)), (nar .byte ((own_unit q0 q1 (1 : Int32)).toInt8.toInt32)), (nar .byte ((own_unit q0 q1 (2 : Int32)).toInt8.toInt32)), (nar .byte ((own_unit q0 q1 (3 : Int32)).toInt8.toInt32)), (nar .byte ((own_unit q0 q1 (4 : Int32)).toInt8.toInt32)), (nar .byte ((own_unit q0 q1 (5 : Int32)).toInt8.toInt32)), (nar .byte ((own_unit q0 q1 (6 : Int32)).toInt8.toInt32)), (nar .byte ((own_unit q0 q1 (7 : Int32)).toInt8.toInt32))] z 9 0))])) (fun t k => ?_) ?_
    · show Steps p.tables e below (T_51.setTop (mkF m 341 #[.val (.long q0), .second, .val (.long q1), .second, .val (.int p2), .val (.int z), .val (.ref b_1), .val (.ref b_18), .val (.int pp_50), .val (.int zv1)] [(.int (own_loop [(nar .byte ((own_unit q0 q1 (0 : Int32)).toInt8.toInt32)), (nar .byte ((own_unit q0 q1 (1 : Int32)).toInt8.toInt32)), (nar .byte ((own_unit q0 q1 (2 : Int32)).toInt8.toInt32)), (nar .byte ((own_unit q0 q1 (3 : Int32)).toInt8.toInt32)), (nar .byte ((own_unit q0 q1 (4 : Int32)).toInt8.toInt32)), (nar .byte ((own_unit q0 q1 (5 : Int32)).toInt8.toInt32)), (nar .byte ((own_unit q0 q1 (6 : Int32)).toInt8.toInt32)), (nar .byte ((own_unit q0 q1 (7 : Int32)).toInt8.toInt32))] z 9 0))])) _
      refine XS.iload X_51.here hx rfl (hb hby at_341) rfl ?_
      exact k
    obtain ⟨zv2, hzv2⟩ : ∃ zq : Int32, zq = (if (own_loop [(nar .byte ((own_unit q0 q1 (0 : Int32)).toInt8.toInt32)), (nar .byte ((own_unit q0 q1 (1 : Int32)).toInt8.toInt32)), (nar .byte ((own_unit q0 q1 (2 : Int32)).toInt8.toInt32)), (nar .byte ((own_unit q0 q1 (3 : Int32)).toInt8.toInt32)), (nar .byte ((own_unit q0 q1 (4 : Int32)).toInt8.toInt32)), (nar .byte ((own_unit q0 q1 (5 : Int32)).toInt8.toInt32)), (nar .byte ((own_unit q0 q1 (6 : Int32)).toInt8.toInt32)), (nar .byte ((own_unit q0 q1 (7 : Int32)).toInt8.toInt32))] z 9 0) = zv1 then (1 : Int32) else (0 : Int32)) := ⟨_, rfl⟩
    refine own_go (B := T_51.setTop (mkF m 351 #[.val (.long q0), .second, .val (.long q1), .second, .val (.int p2), .val (.int z), .val (.ref b_1), .val (.ref b_18), .val (.int pp_50), .val (.int zv1)] [(.int zv2)])) (fun t k => ?_) ?_
    · show Steps p.tables e below (T_51.setTop (mkF m 343 #[.val (.long q0), .second, .val (.long q1), .second, .val (.int p2), .val (.int z), .val (.ref b_1), .val (.ref b_18), .val (.int pp_50), .val (.int zv1)] [(.int zv1), (.int (own_loop [(nar .byte ((own_unit q0 q1 (0 : Int32)).toInt8.toInt32)), (nar .byte ((own_unit q0 q1 (1 : Int32)).toInt8.toInt32)), (nar .byte ((own_unit q0 q1 (2 : Int32)).toInt8.toInt32)), (nar .byte ((own_unit q0 q1 (3 : Int32)).toInt8.toInt32)), (nar .byte ((own_unit q0 q1 (4 : Int32)).toInt8.toInt32)), (nar .byte ((own_unit q0 q1 (5 : Int32)).toInt8.toInt32)), (nar .byte ((own_unit q0 q1 (6 : Int32)).toInt8.toInt32)), (nar .byte ((own_unit q0 q1 (7 : Int32)).toInt8.toInt32))] z 9 0))])) _
      by_cases hc343 : (own_loop [(nar .byte ((own_unit q0 q1 (0 : Int32)).toInt8.toInt32)), (nar .byte ((own_unit q0 q1 (1 : Int32)).toInt8.toInt32)), (nar .byte ((own_unit q0 q1 (2 : Int32)).toInt8.toInt32)), (nar .byte ((own_unit q0 q1 (3 : Int32)).toInt8.toInt32)), (nar .byte ((own_unit q0 q1 (4 : Int32)).toInt8.toInt32)), (nar .byte ((own_unit q0 q1 (5 : Int32)).toInt8.toInt32)), (nar .byte ((own_unit q0 q1 (6 : Int32)).toInt8.toInt32)), (nar .byte ((own_unit q0 q1 (7 : Int32)).toInt8.toInt32))] z 9 0) = zv1
      · refine XS.icmpNo X_51.here hx rfl (hb hby at_343) rfl (teq hc343).2 ?_
        show Steps p.tables e below (T_51.setTop (mkF m 346 #[.val (.long q0), .second, .val (.long q1), .second, .val (.int p2), .val (.int z), .val (.ref b_1), .val (.ref b_18), .val (.int pp_50), .val (.int zv1)] [])) _
        refine XS.iconst X_51.here hx rfl (hb hby at_346) ?_
        show Steps p.tables e below (T_51.setTop (mkF m 347 #[.val (.long q0), .second, .val (.long q1), .second, .val (.int p2), .val (.int z), .val (.ref b_1), .val (.ref b_18), .val (.int pp_50), .val (.int zv1)] [(.int (1 : Int32))])) _
        refine XS.goto X_51.here hx rfl (pc0 := 347) (pc' := 351) rfl (hb hby at_347) (by decide) (by decide) ?_
        show Steps p.tables e below (T_51.setTop (mkF m 351 #[.val (.long q0), .second, .val (.long q1), .second, .val (.int p2), .val (.int z), .val (.ref b_1), .val (.ref b_18), .val (.int pp_50), .val (.int zv1)] [(.int (1 : Int32))])) _
        rw [show zv2 = (1 : Int32) from by simp only [hzv2, if_pos hc343]] at k
        exact k
      · refine XS.icmpYes X_51.here hx rfl (pc0 := 343) (pc' := 350) rfl (hb hby at_343) rfl (feq hc343).2 (by decide) (by decide) ?_
        show Steps p.tables e below (T_51.setTop (mkF m 350 #[.val (.long q0), .second, .val (.long q1), .second, .val (.int p2), .val (.int z), .val (.ref b_1), .val (.ref b_18), .val (.int pp_50), .val (.int zv1)] [])) _
        refine XS.iconst X_51.here hx rfl (hb hby at_350) ?_
        show Steps p.tables e below (T_51.setTop (mkF m 351 #[.val (.long q0), .second, .val (.long q1), .second, .val (.int p2), .val (.int z), .val (.ref b_1), .val (.ref b_18), .val (.int pp_50), .val (.int zv1)] [(.int (0 : Int32))])) _
        rw [show zv2 = (0 : Int32) from by simp only [hzv2, if_neg hc343]] at k
        exact k
    obtain ⟨fs, hr, hrun, hended, hW, hsame⟩ := X_51.leave (v := some (.int (nar .boolean zv2))) (fun h => by rw [Bd.returns] at h; cases h)
    refine ⟨_, _, ?_, hrun, hended, _, _, rfl, ?_, ⟨_, rfl⟩, hW, hsame.mono (by decide) (by decide)⟩
    · show Steps p.tables e below (T_51.setTop (mkF m 351 #[.val (.long q0), .second, .val (.long q1), .second, .val (.int p2), .val (.int z), .val (.ref b_1), .val (.ref b_18), .val (.int pp_50), .val (.int zv1)] [(.int zv2)])) _
      exact retN X_51 hx (t := .boolean) Bd.returns (by simp) (hb hby at_351) hr
    · show Q0 Z q0 q1 p2 h0 n0 _ T_51.heap _
      rw [e_51]
      exact ⟨by rw [show zv2 = (1 : Int32) from by rw [hzv2]; exact if_pos (by rw [hzv1, hpp_50, hpp_49, hpp_48, hpp_47, hpp_46, hpp_45, hpp_44, hpp_43]; exact own_fin q0 q1 z hz0 hz9)]; rfl, N_51, trivial⟩
set_option maxRecDepth 65536 in
set_option maxHeartbeats 40000000 in
theorem comes_1 {Post : Tables → Env → Array Value → State → Outcome → State → Prop} (hpost : ∀ tb e args s v u, (limb_1_1.after args s (.returned v) u = true ∧ limb_1_2.after args s (.returned v) u = true ∧ True) → FrameEnd s (.returned v) u (Jvm.fieldLocs frame_1_writes args s ++ Jvm.arrayLocs frame_1_arrays args s ++ Jvm.staticLocs frame_1_statics s) 16 128 → Post tb e args s (.returned v) u) :
    ArmFor flags0 classFile x code maxLocals ret World_1 tables_1 room_1 Calls_1 rest_1 Pre_1 Post := by
  intro l hfl _ _ p e ha hc hk s m args below hf hA hF happ hP
  obtain ⟨hcalls, hrest, hpre⟩ := hP
  obtain ⟨-, -, -, hnamed, -, -, -, hat⟩ := (Spec.applies_iff hf).mp happ
  obtain ⟨hg, hn⟩ := and_e (Cond.before_iff.mp (show (Jvm.Cond.and given_1 narrow_1).before args s = true from hpre))
  obtain ⟨g1, g2⟩ := and_e hg
  obtain ⟨g3, g4⟩ := and_e g2
  obtain ⟨g5, g6⟩ := and_e g4
  obtain ⟨w0, w1, w2, rfl⟩ : ∃ w0 w1 w2 : Value, args = #[w0, w1, w2] := by
    have hs : args.size = 3 := by simpa [Cond.value, given_1] using g1
    obtain ⟨L⟩ := args
    match L, hs with
    | [w0, w1, w2], _ => exact ⟨w0, w1, w2, rfl⟩
  have hw := fun d (hd : d ∈ tables_1) => atoms_spec (ws := Jvm.Cond.code x code maxLocals ret :: tables_1) hat d (List.mem_cons_of_mem _ hd)
  have hfit : Fit s := fun {y c} hc i hi => by
    obtain ⟨ha, rfl⟩ := Array.getElem?_eq_some_iff.mp hc
    have q := List.all_eq_true.mp ((Array.all_eq_true_iff_forall_mem.mp hF) _ (Array.getElem_mem ha)) i (List.mem_range.mpr hi)
    simpa [Array.getElem?_eq_getElem hi] using q
  obtain ⟨i0, ei0⟩ := isL_v g3
  obtain rfl : w0 = (.long i0) := Option.some.inj ei0
  obtain ⟨i1, ei1⟩ := isL_v g5
  obtain rfl : w1 = (.long i1) := Option.some.inj ei1
  obtain ⟨i2, ei2⟩ := is_v g6
  obtain rfl : w2 = (.int i2) := Option.some.inj ei2
  obtain ⟨n, o, h1, h2, h3, _, L, rfl, ⟨rfl, N, -⟩, hq⟩ := rm0 l s _ hw tables_1 i0 i1 i2 s.heap s.heap.size (Nat.le_refl _) p e ha hc hk s m _ below hf ((Spec.applies_iff_loose hf).mp happ).1 ⟨rfl, State.Warmed39.refl s, rfl⟩ trivial
  refine ⟨n, _, h1, h2, h3, hpost _ _ _ _ _ _ ⟨Cond.after_iff.mpr rfl, Cond.after_iff.mpr (eq_i res_at (Term.int_eval (1)) rfl), trivial⟩ ⟨hq.1, hq.2.1, (hq.2.2.sift fun y hy => Or.inr (N y hy)).mono (by decide) (by decide)⟩⟩
theorem main_1_1 : Claimed_1_1 := comes_1 fun _ _ _ _ _ _ h hF => ⟨h.1, hF⟩
theorem main_1_2 : Claimed_1_2 := comes_1 fun _ _ _ _ _ _ h hF => ⟨h.2.1, hF⟩
end Jvm.Pilot.@@N@@
namespace Jvm.Pilot.@@N@@
open Jvm Jvm.ClassFile Sem Op Lib Jvm.Free Jvm.Stand Jvm.Pilot.@@N@@.Jvm.D
/-! MADE BY PROGRAM (witnessworld.py) out of the Statement's table words and the real class files: 9 classes; the members and pool entries that the words name. The judged class is class 1, her method 1. -/
namespace start1
open Jvm.ClassFile
def u (s : String) : CpInfo := .utf8 (stringToUtf16 s)
/-- a pool by its gaps: so many unusable entries, then the entry; so many at the end -/
def gap : Nat → List CpInfo → List CpInfo
  | 0, r => r
  | n + 1, r => .unusable :: gap n r
def poolList (es : List (Nat × CpInfo)) (last : Nat) : List CpInfo := es.foldr (fun e r => gap e.1 (e.2 :: r)) (gap last [])
def pool (es : List (Nat × CpInfo)) (last : Nat) : Array CpInfo := ⟨poolList es last⟩
def fileOf (pool : Array CpInfo) (this : Nat) (attrs : Array Attribute := #[]) (ms : Array MethodInfo := #[]) (fl : Nat := 33) (sup : Nat := 0) (ifs : Array Nat := #[]) (fds : Array FieldInfo := #[]) : ClassFile where
  minorVersion := 0
  majorVersion := 65
  constantPool := pool
  accessFlags := fl
  thisClass := this
  superClass := sup
  interfaces := ifs
  fields := fds
  methods := ms
  attributes := attrs
def plain (name : String) (sup : Option ClassId) : Class where
  name := name
  kind := .ordinary
  loader := none
  accessFlags := 33
  super := sup
  interfaces := #[]
  cf := none
  fields := #[]
  methods := #[]
  instanceTypes := #[]
  staticTypes := #[]
  resolved := #[]
  callSites := []
  init := .initialized
  statics := none
  mirror := none

def pool0 : Array CpInfo := pool [(5, u "<init>"), (0, u "()V"), (1, .class_ 10), (1, u "java/lang/Object")] 113

def k0m0 : Method := { name := "<init>", desc := "()V", sig := { parameters := [], returnType := none }, accessFlags := 1, code := none }
/-- java/lang/Object -/
def k0 : Class := { plain "java/lang/Object" none with
  accessFlags := 33
  interfaces := #[]
  cf := some (fileOf pool0 8 #[] #[{ accessFlags := 1, nameIndex := 5, descriptorIndex := 6, attributes := #[] }] 33 0 #[] #[])
  fields := #[]
  methods := #[k0m0]
  instanceTypes := #[]
  staticTypes := #[]
  resolved := Array.replicate 124 none
  statics := none }

def pool1 : Array CpInfo := pool [(2, .class_ 4), (1, u "java/lang/Object"), (0, u "<init>"), (0, u "()V"), (0, .integer 2147483647), (0, .methodref 9 10), (0, .class_ 11), (0, .nameAndType 12 13), (0, u "com/example/ballast/ballast/model/Utf8TextIsUtf8PinLaw"), (0, u "unit"), (0, u "(JJI)I"), (0, .methodref 9 15), (0, .nameAndType 16 17), (0, u "step"), (0, u "([III)I"), (0, .methodref 19 20), (0, .class_ 21), (0, .nameAndType 22 23), (0, u "com/example/ballast/ballast/model/Utf8Text"), (0, u "isUtf8"), (0, u "([B)Z"), (0, .long 255), (1, .methodref 9 27), (0, .nameAndType 28 29), (0, u "cont"), (0, u "(I)Z"), (0, .integer 55296), (0, .integer 57343), (0, .integer 262144), (0, .integer 65536), (0, .integer 1114111), (0, .methodref 9 36), (0, .nameAndType 37 38), (0, u "len"), (0, u "(IIIII)I"), (2, u "law"), (0, u "(JJI)Z")] 7

def k1m0 : Method := { name := "<init>", desc := "()V", sig := { parameters := [], returnType := none }, accessFlags := 1, code := none }
def k1c1 : Code := { maxStack := 7, maxLocals := 10, code := code, exceptionTable := #[], attributes := #[] }
def k1m1 : Method := { name := "law", desc := "(JJI)Z", sig := { parameters := [.long, .long, .int], returnType := some .boolean }, accessFlags := 9, code := some k1c1 }
def k1c2 : Code := { maxStack := 4, maxLocals := 6, code := method_3_code, exceptionTable := #[], attributes := #[] }
def k1m2 : Method := { name := "unit", desc := "(JJI)I", sig := { parameters := [.long, .long, .int], returnType := some .int }, accessFlags := 10, code := some k1c2 }
def k1c3 : Code := { maxStack := 2, maxLocals := 1, code := method_4_code, exceptionTable := #[], attributes := #[] }
def k1m3 : Method := { name := "cont", desc := "(I)Z", sig := { parameters := [.int], returnType := some .boolean }, accessFlags := 10, code := some k1c3 }
def k1c4 : Code := { maxStack := 3, maxLocals := 6, code := method_5_code, exceptionTable := #[], attributes := #[] }
def k1m4 : Method := { name := "len", desc := "(IIIII)I", sig := { parameters := [.int, .int, .int, .int, .int], returnType := some .int }, accessFlags := 10, code := some k1c4 }
def k1c5 : Code := { maxStack := 6, maxLocals := 4, code := method_6_code, exceptionTable := #[], attributes := #[] }
def k1m5 : Method := { name := "step", desc := "([III)I", sig := { parameters := [(.array .int), .int, .int], returnType := some .int }, accessFlags := 10, code := some k1c5 }
/-- com/example/ballast/ballast/model/Utf8TextIsUtf8PinLaw -/
def k1 : Class := { plain "com/example/ballast/ballast/model/Utf8TextIsUtf8PinLaw" (some 0) with
  accessFlags := 49
  interfaces := #[]
  cf := some (fileOf pool1 9 #[] #[{ accessFlags := 1, nameIndex := 5, descriptorIndex := 6, attributes := #[] }, { accessFlags := 9, nameIndex := 41, descriptorIndex := 42, attributes := #[] }, { accessFlags := 10, nameIndex := 12, descriptorIndex := 13, attributes := #[] }, { accessFlags := 10, nameIndex := 28, descriptorIndex := 29, attributes := #[] }, { accessFlags := 10, nameIndex := 37, descriptorIndex := 38, attributes := #[] }, { accessFlags := 10, nameIndex := 16, descriptorIndex := 17, attributes := #[] }] 49 2 #[] #[])
  fields := #[]
  methods := #[k1m0, k1m1, k1m2, k1m3, k1m4, k1m5]
  instanceTypes := #[]
  staticTypes := #[]
  resolved := Array.replicate 50 none
  statics := none }

def pool2 : Array CpInfo := pool [(2, .class_ 4), (1, u "java/lang/Object"), (3, .class_ 10), (1, u "com/example/ballast/ballast/model/Utf8Text"), (0, u "text"), (0, u "Ljava/lang/String;"), (2, u "firstBad"), (0, u "Lcom/example/ballast/ballast/model/Utf8Text$BadBytes;"), (8, u "([B)Z"), (2, u "BYTE_ORDER_MARK"), (0, u "[B"), (0, .methodref 8 31), (0, .nameAndType 32 33), (0, u "sequenceLength"), (0, u "([BI)I"), (15, .class_ 50), (0, u "com/example/ballast/ballast/model/Utf8Text$BadBytes"), (62, u "I"), (8, u "REPLACEMENT"), (0, u "C"), (1, u "BYTES_SHOWN"), (6, u "isUtf8")] 33

def k2c0 : Code := { maxStack := 2, maxLocals := 3, code := prog_33_method_3_code, exceptionTable := #[], attributes := #[] }
def k2m0 : Method := { name := "isUtf8", desc := "([B)Z", sig := { parameters := [(.array .byte)], returnType := some .boolean }, accessFlags := 8, code := some k2c0 }
def k2c1 : Code := { maxStack := 3, maxLocals := 8, code := prog_33_method_9_code, exceptionTable := #[], attributes := #[] }
def k2m1 : Method := { name := "sequenceLength", desc := "([BI)I", sig := { parameters := [(.array .byte), .int], returnType := some .int }, accessFlags := 10, code := some k2c1 }
/-- com/example/ballast/ballast/model/Utf8Text -/
def k2 : Class := { plain "com/example/ballast/ballast/model/Utf8Text" (some 0) with
  accessFlags := 48
  interfaces := #[]
  cf := some (fileOf pool2 8 #[.nestMembers #[49]] #[{ accessFlags := 8, nameIndex := 132, descriptorIndex := 25, attributes := #[] }, { accessFlags := 10, nameIndex := 32, descriptorIndex := 33, attributes := #[] }] 48 2 #[] #[{ accessFlags := 26, nameIndex := 28, descriptorIndex := 29, attributes := #[] }, { accessFlags := 26, nameIndex := 122, descriptorIndex := 123, attributes := #[] }, { accessFlags := 26, nameIndex := 125, descriptorIndex := 113, attributes := #[] }, { accessFlags := 18, nameIndex := 11, descriptorIndex := 12, attributes := #[] }, { accessFlags := 18, nameIndex := 15, descriptorIndex := 16, attributes := #[] }])
  fields := #[{ name := "BYTE_ORDER_MARK", type := (.array .byte), accessFlags := 26, slot := 0, constantValue := 0 }, { name := "REPLACEMENT", type := .char, accessFlags := 26, slot := 1, constantValue := 0 }, { name := "BYTES_SHOWN", type := .int, accessFlags := 26, slot := 2, constantValue := 0 }, { name := "text", type := (.object "java/lang/String"), accessFlags := 18, slot := 0, constantValue := 0 }, { name := "firstBad", type := (.object "com/example/ballast/ballast/model/Utf8Text$BadBytes"), accessFlags := 18, slot := 1, constantValue := 0 }]
  methods := #[k2m0, k2m1]
  instanceTypes := #[(.object "java/lang/String"), (.object "com/example/ballast/ballast/model/Utf8Text$BadBytes")]
  staticTypes := #[(.array .byte), .char, .int]
  resolved := Array.replicate 166 none
  statics := none }

def pool3 : Array CpInfo := pool [(1, u "java/lang/Cloneable"), (0, .class_ 1), (0, u "java/lang/Object"), (0, .class_ 3)] 3

/-- java/lang/Cloneable -/
def k3 : Class := { plain "java/lang/Cloneable" (some 0) with
  accessFlags := 1537
  interfaces := #[]
  cf := some (fileOf pool3 2 #[] #[] 1537 4 #[] #[])
  fields := #[]
  methods := #[]
  instanceTypes := #[]
  staticTypes := #[]
  resolved := Array.replicate 8 none
  statics := none }

def pool4 : Array CpInfo := pool [(1, u "java/io/Serializable"), (0, .class_ 1), (0, u "java/lang/Object"), (0, .class_ 3)] 3

/-- java/io/Serializable -/
def k4 : Class := { plain "java/io/Serializable" (some 0) with
  accessFlags := 1537
  interfaces := #[]
  cf := some (fileOf pool4 2 #[] #[] 1537 4 #[] #[])
  fields := #[]
  methods := #[]
  instanceTypes := #[]
  staticTypes := #[]
  resolved := Array.replicate 8 none
  statics := none }

/-- the primitive byte -/
def k5 : Class := { plain "byte" none with kind := .primitive 'B', accessFlags := 0x411 }
/-- [B -/
def k6 : Class := { plain "[B" (some 0) with kind := .array 5 .byte, interfaces := #[3, 4], accessFlags := 1041 }

/-- the primitive int -/
def k7 : Class := { plain "int" none with kind := .primitive 'I', accessFlags := 0x411 }
/-- [I -/
def k8 : Class := { plain "[I" (some 0) with kind := .array 7 .int, interfaces := #[3, 4], accessFlags := 1041 }

def heap : Heap := #[]
def classes : Array Class := #[k0, k1, k2, k3, k4, k5, k6, k7, k8]
def interned : List (Array UInt16 × Addr) := []
def slotsUsed : Nat := 0
def theMethod : MethodId := ⟨1, 1⟩
def args0 : Array Value := #[.long 5, .long 3, .int 2]
def aboutOver (below : List Frame) : State where
  vm := { classes := classes, interned := interned.toArray }
  heap := heap
  slotsUsed := slotsUsed
  threads := #[{ frames := .invoking theMethod args0 :: below }]
def below0 : List Frame := [.native { method := ⟨0, 0⟩, args := #[] }]
def about1 : State := aboutOver below0
def p0 : Program := .bare "" "" ""
def e0 : Env := launch0.env 0 0 0
theorem w_frames : about1.frames = Frame.invoking theMethod args0 :: below0 := rfl
set_option maxRecDepth 65536 in
theorem w_args : argsFit about1.vm theMethod args0 = true := by decide +kernel
set_option maxRecDepth 65536 in
theorem w_heap : heapFits about1 = true := by decide +kernel
set_option maxRecDepth 65536 in
theorem w_runnable : about1.curStatus? = some .runnable := by decide +kernel
set_option maxRecDepth 65536 in
theorem w_alone : about1.alone = true := by decide +kernel
set_option maxRecDepth 65536 in
theorem w_named : about1.methodNamed? x = some theMethod := by decide +kernel
set_option maxRecDepth 65536 in
theorem w_hears : about1.hears theMethod below0 = true := by decide +kernel
set_option maxRecDepth 65536 in
theorem w_ripe : about1.ripe theMethod args0 below0 = true := by decide +kernel
theorem w_running : about1.status = .running := rfl
set_option maxRecDepth 65536 in
theorem w_room : about1.hasRoom e0.platform room_1 = true :=
  launch0.hasRoom_least _ room_1 (by decide +kernel) (by decide +kernel) (by decide +kernel) (by decide +kernel) (by decide +kernel) (by decide +kernel)
theorem allAtoms_all (ts : List Jvm.Cond) (a : Array Jvm.Value) (st : Jvm.State) : (allAtoms ts).before a st = ts.all (fun c => c.before a st) := by
  induction ts with
  | nil => rfl
  | cons c t ih =>
    show (Jvm.Cond.and c (allAtoms t)).before a st = _
    rw [Jvm.Cond.before_and, ih, List.all_cons]
def words1 : List Jvm.Cond := Jvm.Cond.code x code maxLocals ret :: tables_1
/-- a 'code' word, met by the world's own term for the bytes: nothing is compared byte by byte -/
theorem code_word {y : MethodName} {bytes : ByteArray} {mx : Nat} {rt : Option FieldType} {a : Array Value} {s : State} {m : MethodId} {meth : Method} {c : Code} (h1 : s.methodNamed? y = some m) (h2 : s.vm.method? m = some meth) (h3 : meth.code = some c) (h4 : c.code = bytes)
    (h5 : (c.maxLocals == mx && c.exceptionTable.isEmpty && decide (c.maxStack ≤ mostOperands) && decide (meth.sig.returnType = rt) && !meth.locks && decide (parseMethodDescriptor y.desc = some meth.sig)) = true) : (Jvm.Cond.code y bytes mx rt).before a s = true := by
  simp only [Bool.and_eq_true, beq_iff_eq, Bool.not_eq_true', decide_eq_true_eq] at h5
  obtain ⟨⟨⟨⟨⟨g1, g2⟩, g3⟩, g4⟩, g5⟩, g6⟩ := h5
  simp [Cond.before, Cond.holds, Cond.value, h1, h2, h3, h4, g1, g2, g3, g4, g5, g6]
def isCode : Jvm.Cond → Bool
  | .code _ _ _ _ => true
  | _ => false
theorem all_split {L : List Jvm.Cond} {P : Jvm.Cond → Bool} (h1 : L.all (fun c => isCode c || P c) = true) (h2 : ∀ c ∈ L.filter isCode, P c = true) : L.all P = true := by
  refine List.all_eq_true.mpr fun c hc => ?_
  have h := List.all_eq_true.mp h1 c hc
  rcases Bool.eq_false_or_eq_true (isCode c) with hi | hi
  · exact h2 c (List.mem_filter.mpr ⟨hc, hi⟩)
  · simpa [hi] using h
set_option maxRecDepth 65536 in
theorem w_c0 : (Jvm.Cond.code x code maxLocals ret).before args0 about1 = true := code_word (m := ⟨1, 1⟩) (meth := k1m1) (c := k1c1) (by decide +kernel) rfl rfl rfl (by decide +kernel)
set_option maxRecDepth 65536 in
theorem w_c1 : (Jvm.Cond.code ({ cls := "com/example/ballast/ballast/model/Utf8TextIsUtf8PinLaw", name := "unit", desc := "(JJI)I" } : Jvm.MethodName) method_3_code (6 : Nat) (Option.some Jvm.ClassFile.FieldType.int)).before args0 about1 = true := code_word (m := ⟨1, 2⟩) (meth := k1m2) (c := k1c2) (by decide +kernel) rfl rfl rfl (by decide +kernel)
set_option maxRecDepth 65536 in
theorem w_c2 : (Jvm.Cond.code ({ cls := "com/example/ballast/ballast/model/Utf8TextIsUtf8PinLaw", name := "step", desc := "([III)I" } : Jvm.MethodName) method_6_code (4 : Nat) (Option.some Jvm.ClassFile.FieldType.int)).before args0 about1 = true := code_word (m := ⟨1, 5⟩) (meth := k1m5) (c := k1c5) (by decide +kernel) rfl rfl rfl (by decide +kernel)
set_option maxRecDepth 65536 in
theorem w_c3 : (Jvm.Cond.code ({ cls := "com/example/ballast/ballast/model/Utf8Text", name := "isUtf8", desc := "([B)Z" } : Jvm.MethodName) prog_33_method_3_code (3 : Nat) (Option.some Jvm.ClassFile.FieldType.boolean)).before args0 about1 = true := code_word (m := ⟨2, 0⟩) (meth := k2m0) (c := k2c0) (by decide +kernel) rfl rfl rfl (by decide +kernel)
set_option maxRecDepth 65536 in
theorem w_c4 : (Jvm.Cond.code ({ cls := "com/example/ballast/ballast/model/Utf8TextIsUtf8PinLaw", name := "len", desc := "(IIIII)I" } : Jvm.MethodName) method_5_code (6 : Nat) (Option.some Jvm.ClassFile.FieldType.int)).before args0 about1 = true := code_word (m := ⟨1, 4⟩) (meth := k1m4) (c := k1c4) (by decide +kernel) rfl rfl rfl (by decide +kernel)
set_option maxRecDepth 65536 in
theorem w_c5 : (Jvm.Cond.code ({ cls := "com/example/ballast/ballast/model/Utf8Text", name := "sequenceLength", desc := "([BI)I" } : Jvm.MethodName) prog_33_method_9_code (8 : Nat) (Option.some Jvm.ClassFile.FieldType.int)).before args0 about1 = true := code_word (m := ⟨2, 1⟩) (meth := k2m1) (c := k2c1) (by decide +kernel) rfl rfl rfl (by decide +kernel)
set_option maxRecDepth 65536 in
theorem w_c6 : (Jvm.Cond.code ({ cls := "com/example/ballast/ballast/model/Utf8TextIsUtf8PinLaw", name := "cont", desc := "(I)Z" } : Jvm.MethodName) method_4_code (1 : Nat) (Option.some Jvm.ClassFile.FieldType.boolean)).before args0 about1 = true := code_word (m := ⟨1, 3⟩) (meth := k1m3) (c := k1c3) (by decide +kernel) rfl rfl rfl (by decide +kernel)
def codes1 : List Jvm.Cond := [Jvm.Cond.code x code maxLocals ret, Jvm.Cond.code ({ cls := "com/example/ballast/ballast/model/Utf8TextIsUtf8PinLaw", name := "unit", desc := "(JJI)I" } : Jvm.MethodName) method_3_code (6 : Nat) (Option.some Jvm.ClassFile.FieldType.int), Jvm.Cond.code ({ cls := "com/example/ballast/ballast/model/Utf8TextIsUtf8PinLaw", name := "step", desc := "([III)I" } : Jvm.MethodName) method_6_code (4 : Nat) (Option.some Jvm.ClassFile.FieldType.int), Jvm.Cond.code ({ cls := "com/example/ballast/ballast/model/Utf8Text", name := "isUtf8", desc := "([B)Z" } : Jvm.MethodName) prog_33_method_3_code (3 : Nat) (Option.some Jvm.ClassFile.FieldType.boolean), Jvm.Cond.code ({ cls := "com/example/ballast/ballast/model/Utf8TextIsUtf8PinLaw", name := "len", desc := "(IIIII)I" } : Jvm.MethodName) method_5_code (6 : Nat) (Option.some Jvm.ClassFile.FieldType.int), Jvm.Cond.code ({ cls := "com/example/ballast/ballast/model/Utf8Text", name := "sequenceLength", desc := "([BI)I" } : Jvm.MethodName) prog_33_method_9_code (8 : Nat) (Option.some Jvm.ClassFile.FieldType.int), Jvm.Cond.code ({ cls := "com/example/ballast/ballast/model/Utf8TextIsUtf8PinLaw", name := "cont", desc := "(I)Z" } : Jvm.MethodName) method_4_code (1 : Nat) (Option.some Jvm.ClassFile.FieldType.boolean)]
set_option maxRecDepth 65536 in
theorem codes_eq : words1.filter isCode = codes1 := rfl
theorem w_codes : ∀ c ∈ words1.filter isCode, c.before args0 about1 = true := by
  rw [codes_eq]
  intro c hc
  simp only [codes1, List.mem_cons, List.not_mem_nil, or_false] at hc
  rcases hc with rfl | rfl | rfl | rfl | rfl | rfl | rfl
  · exact w_c0
  · exact w_c1
  · exact w_c2
  · exact w_c3
  · exact w_c4
  · exact w_c5
  · exact w_c6
set_option maxRecDepth 65536 in
theorem w_t1 : (words1.take 24).all (fun c => isCode c || c.before args0 about1) = true := by decide +kernel
set_option maxRecDepth 65536 in
theorem w_t2 : (words1.drop 24).all (fun c => isCode c || c.before args0 about1) = true := by decide +kernel
theorem w_tables : (allAtoms (Jvm.Cond.code x code maxLocals ret :: tables_1)).before args0 about1 = true := by
  rw [allAtoms_all]
  show words1.all (fun c => c.before args0 about1) = true
  refine all_split ?_ w_codes
  rw [← List.take_append_drop 24 words1, List.all_append, w_t1, w_t2]
  rfl
set_option maxRecDepth 65536 in
theorem w_case : (Jvm.Cond.and given_1 narrow_1).before args0 about1 = true := by decide +kernel
theorem w_applies : (headSpec (Jvm.Cond.code x code maxLocals ret :: tables_1) room_1).applies x e0.platform about1 = true :=
  (Spec.applies_iff w_frames).mpr ⟨w_running, w_runnable, w_alone, w_named, w_hears, w_ripe, w_room, w_tables⟩
theorem atStart : AtStart classFile x code maxLocals ret World_1 tables_1 room_1 Calls_1 rest_1 Pre_1 launch0 p0 e0 about1 theMethod args0 below0 :=
  ⟨lists_1, trivial, launch0.admits_env _ _ _, launch0.least_env, fairChoices_fair.cas, fairChoices_fair.clock, w_frames, w_args, w_heap, w_applies, trivial, trivial, w_case⟩
end start1
theorem witness_1 : WitnessClaimed_1 := ⟨start1.p0, start1.e0, start1.about1, start1.theMethod, start1.args0, start1.below0, start1.atStart⟩
end Jvm.Pilot.@@N@@
