import JvmDerived
import JvmDerived.Pilot.@@N@@Statement
import JvmDerived.Pilot.@@N@@Code
set_option linter.unusedVariables false
set_option linter.unusedSimpArgs false
@@BLOCK:NumsL.lean.txt@@
namespace Jvm.RoadKit
open Sem ClassFile Op Lib Jvm.Stand Jvm.Free Jvm.LawKit
section New
variable {p : Program} {l : Launch} {e : Env} {R : Room} {s : State} {m : MethodId} {args : Array Value} {below : List Frame} {meth : Method} {c : Code} {T : State} {locs : List Loc} {cells slots : Nat}
theorem retI (X : Stand p l e R s m args below meth c T locs cells slots) (hx : p.tables.exec = Jvm.exec) {pc : Nat} {Ls : Array Slot} {z : Int32} {rest : List Value} (hret : meth.sig.returnType = some .int) (hd : decode c.code pc = .ok (.ireturn, 1)) {fs : List Frame}
    (hl : ∀ (f : JFrame) (acts : List Action), f.method = m → f.locked = none → f.entered = [] → (doReturn e (T.setTop f) acts (some (.int z))).1 = T.setFrames fs) : Steps p.tables e below (T.setTop (mkF m pc Ls (.int z :: rest))) (T.setFrames fs) := by
  have hm' : T.vm.method? m = some meth := X.method'
  have hn : narrow .int (.int z) = .int z := rfl
  show Steps p.tables e below (T.setTop { method := m, pc := pc, locals := Ls, stack := _ :: rest, locked := none }) _
  jvm_step X.here [X.here.top, hx, hd, hm', hret, hn]
  first | (intro acts; rw [hl _ acts rfl rfl rfl]) | rw [hl _ _ rfl rfl rfl]
  exact Steps.refl _
end New
end Jvm.RoadKit
namespace Jvm.Pilot.@@N@@
open Jvm Jvm.ClassFile Sem Op Lib Jvm.Free Jvm.Stand Jvm.LawKit Jvm.RoadKit Bundle Jvm.Pilot.@@N@@.Jvm.D
theorem own_go {tb : Tables} {e : Env} {below : List Frame} {A B : State} {P : State → Outcome → Prop} (st : ∀ t, Steps tb e below B t → Steps tb e below A t) (h : ∃ s₂ o, Steps tb e below B s₂ ∧ P s₂ o) : ∃ s₂ o, Steps tb e below A s₂ ∧ P s₂ o := by
  obtain ⟨s₂, o, h1, h2⟩ := h
  exact ⟨s₂, o, st _ h1, h2⟩
theorem own_gj {tb : Tables} {e : Env} {below : List Frame} {A B : State} {P : State → Heap → List Loc → Prop} {F : State → State} (st : ∀ t, Steps tb e below B t → Steps tb e below A t) (h : ∃ T' h' L', P T' h' L' ∧ ∀ t, Steps tb e below (F T') t → Steps tb e below B t) : ∃ T' h' L', P T' h' L' ∧ ∀ t, Steps tb e below (F T') t → Steps tb e below A t := by
  obtain ⟨T', h', L', h1, h2⟩ := h
  exact ⟨T', h', L', h1, fun t k => st t (h2 t k)⟩
theorem own_stak {Z : State} {h h' : Heap} {C n d : String} {v : Value} (F : Sta Z h C n d v) (K : Keep h h' []) : Sta Z h' C n d v := by
  obtain ⟨cf, i, k, f, st, cell, h1, h2, h3, h4, h5, r⟩ := F
  exact ⟨cf, i, k, f, st, cell, h1, h2, h3, h4, K.2.1 _ _ h5 nin0, r⟩
def own_maxi (a b : Int32) : Int32 := if a < b then b else a
def own_mini (a b : Int32) : Int32 := if b < a then b else a
abbrev own_vs (xs : List Int32) : List Value := xs.map Value.int
theorem own_map (xs : List Int32) (j : Nat) : (own_vs xs).getD j (.int (0 : Int32)) = .int (xs.getD j 0) := by
  simp only [own_vs, List.getD_eq_getElem?_getD, List.getElem?_map]
  cases xs[j]? <;> rfl
def own_put (xs : List Int32) (i : Nat) (v : Int32) : List Int32 := (xs ++ List.replicate (i + 1) 0).set i v
theorem own_put_vs (xs : List Int32) (i : Nat) (v : Int32) : (own_vs xs ++ List.replicate (i + 1) (Value.int (0 : Int32))).set i (Value.int v) = own_vs (own_put xs i v) := by
  simp [own_vs, own_put, List.map_set]
theorem own_put_get (xs : List Int32) (i : Nat) (v : Int32) (j : Nat) : (own_put xs i v).getD j 0 = if j = i then v else xs.getD j 0 := by
  simp only [own_put, List.getD_eq_getElem?_getD, List.getElem?_set]
  by_cases h : j = i
  · subst h; simp; rw [if_pos (by omega)]; rfl
  · have h' : ¬ i = j := fun q => h q.symm
    simp only [h, h', if_false]
    by_cases q : j < xs.length
    · rw [List.getElem?_append_left q]
    · rw [List.getElem?_append_right (Nat.le_of_not_lt q), List.getElem?_eq_none (Nat.le_of_not_lt q), List.getElem?_replicate]; split <;> rfl
theorem own_put_len (xs : List Int32) (i m : Nat) (v : Int32) (h : xs.length + (i + 1) ≤ m) : (own_put xs i v).length ≤ m := by simp [own_put]; omega
theorem own_copy (xs : List Int32) (n : Nat) (hn : xs.length ≤ n) (k : Nat) (hk : n ≤ k) : ∀ i, (own_vs xs).getD i (.int (0 : Int32)) = ((List.replicate k (Value.int (0 : Int32))).take 0 ++ ((List.range n).map fun i => (own_vs xs).getD (0 + i) (.int (0 : Int32))) ++ (List.replicate k (Value.int (0 : Int32))).drop (0 + n)).getD i (.int (0 : Int32)) := by
  intro i
  simp only [List.take_zero, List.nil_append, Nat.zero_add]
  by_cases h : i < n
  · simp only [List.getD_eq_getElem?_getD]
    rw [List.getElem?_append_left (by simpa using h)]
    simp [h]
  · rw [own_map]
    simp only [List.getD_eq_getElem?_getD]
    rw [List.getElem?_append_right (by simpa using Nat.le_of_not_lt h), List.getElem?_eq_none (by omega)]
    simp [List.getElem?_replicate]
    split <;> rfl
theorem own_nat {x : Int32} (q : ¬ x < 0) : x.toInt = (x.toNatClampNeg : Int) := nat_of q
theorem own_i (x y : Int32) : (x < y) = (x.toInt < y.toInt) := by rw [Int32.lt_iff_toInt_lt]
theorem d5_0 : decode jdk_29_method_65_code 0 = .ok (.iload_n 0, 1) := by decide +kernel
theorem d5_1 : decode jdk_29_method_65_code 1 = .ok (.iload_n 1, 1) := by decide +kernel
theorem d5_2 : decode jdk_29_method_65_code 2 = .ok (.if_icmp .lt 7, 3) := by decide +kernel
theorem d5_5 : decode jdk_29_method_65_code 5 = .ok (.iload_n 0, 1) := by decide +kernel
theorem d5_6 : decode jdk_29_method_65_code 6 = .ok (.goto 4, 3) := by decide +kernel
theorem d5_9 : decode jdk_29_method_65_code 9 = .ok (.iload_n 1, 1) := by decide +kernel
theorem d5_10 : decode jdk_29_method_65_code 10 = .ok (.ireturn, 1) := by decide +kernel
theorem ef_5 (m : MethodId) (p0 : Int32) (p1 : Int32) : entryFrame m #[(.int p0), (.int p1)] 2 = mkF m 0 #[.val (.int p0), .val (.int p1)] [] := by first | (simp [entryFrame, mkF, argsToLocals, Value.category]; done) | rfl
def Q5 (Z : State) (p0 : Int32) (p1 : Int32) (h0 : Heap) (n0 : Nat) (v : Option Value) (h : Heap) (L : List Loc) : Prop := v = some (.int (own_maxi p0 p1)) ∧ Fr n0 L ∧ h = h0
set_option maxRecDepth 65536 in
set_option maxHeartbeats 40000000 in
theorem rm5 (l : Launch) (Z : State) (av0 : Array Value) (hw : ∀ d ∈ tables_1, d.before av0 Z = true) (ws : List Jvm.Cond) (p0 : Int32) (p1 : Int32) (h0 : Heap) (n0 : Nat) (Z0 : n0 ≤ h0.size) :
    MetFree l (⟨"java/lang/Math", "max", "(II)I"⟩ : MethodName) (head1 (Jvm.Cond.code (⟨"java/lang/Math", "max", "(II)I"⟩ : MethodName) jdk_29_method_65_code 2 (some .int) :: ws) ({ frames := 0, cells := 0, slots := 0, locals := 0 } : Room)) (fun a U => a = #[(.int p0), (.int p1)] ∧ Z.Warmed39 U.vm ∧ U.heap = h0) (fun _ _ _ _ _ => True) (fun _ U o U' => ∃ v L, o = .returned v ∧ Q5 Z p0 p1 h0 n0 v U'.heap L ∧ FrameEnd U o U' L ({ frames := 0, cells := 0, slots := 0, locals := 0 } : Room).cells ({ frames := 0, cells := 0, slots := 0, locals := 0 } : Room).slots) := by
  refine MetFree.of_bodySF (Jvm.Free.JP.mathPlain rfl (by decide +kernel)) hisR ?_
  intro p e s m args below meth c s₁ Bd hml0 hP hK
  obtain ⟨rfl, hZ, hh⟩ := hP
  have hx := Bd.exec
  have hby := Bd.bytes
  have hml : c.maxLocals = 2 := hml0
  have hown : s.vm.findClass "java/lang/Math" = some m.cls := findClass_of_methodNamed Bd.named
  have hnm := (name_of_methodNamed Bd.named Bd.method).1
  have X0 : Stand p l e ({ frames := 0, cells := 0, slots := 0, locals := 0 } : Room) s m #[(.int p0), (.int p1)] below meth c s₁ [] 0 0 := Stand.of_body Bd
  have e0 : s₁.heap = h0 := by rw [← hh, Bd.state]; rfl
  have N0 := Fr.nil n0
  have K0 : Keep h0 h0 [] := Keep.refl h0 []
  refine own_go (B := s₁.setTop (mkF m 0 #[.val (.int p0), .val (.int p1)] [])) (fun t k => castTop (ef_5 m p0 p1) k) ?_
  refine own_go (B := s₁.setTop (mkF m 2 #[.val (.int p0), .val (.int p1)] [(.int p1), (.int p0)])) (fun t k => ?_) ?_
  · show Steps p.tables e below (s₁.setTop (mkF m 0 #[.val (.int p0), .val (.int p1)] [])) _
    refine XS.iloadN X0.here hx rfl (hb hby d5_0) rfl ?_
    show Steps p.tables e below (s₁.setTop (mkF m 1 #[.val (.int p0), .val (.int p1)] [(.int p0)])) _
    refine XS.iloadN X0.here hx rfl (hb hby d5_1) rfl ?_
    exact k
  obtain ⟨zv1, hzv1⟩ : ∃ z : Int32, z = (if p0 < p1 then p1 else p0) := ⟨_, rfl⟩
  refine own_go (B := s₁.setTop (mkF m 10 #[.val (.int p0), .val (.int p1)] [(.int zv1)])) (fun t k => ?_) ?_
  · show Steps p.tables e below (s₁.setTop (mkF m 2 #[.val (.int p0), .val (.int p1)] [(.int p1), (.int p0)])) _
    by_cases hc2 : p0 < p1
    · refine XS.icmpYes X0.here hx rfl (pc0 := 2) (pc' := 9) rfl (hb hby d5_2) rfl (tlt hc2).1 (by decide) (by decide) ?_
      show Steps p.tables e below (s₁.setTop (mkF m 9 #[.val (.int p0), .val (.int p1)] [])) _
      refine XS.iloadN X0.here hx rfl (hb hby d5_9) rfl ?_
      show Steps p.tables e below (s₁.setTop (mkF m 10 #[.val (.int p0), .val (.int p1)] [(.int p1)])) _
      rw [show zv1 = p1 from by simp only [hzv1, if_pos hc2]] at k
      exact k
    · refine XS.icmpNo X0.here hx rfl (hb hby d5_2) rfl (flt hc2).1 ?_
      show Steps p.tables e below (s₁.setTop (mkF m 5 #[.val (.int p0), .val (.int p1)] [])) _
      refine XS.iloadN X0.here hx rfl (hb hby d5_5) rfl ?_
      show Steps p.tables e below (s₁.setTop (mkF m 6 #[.val (.int p0), .val (.int p1)] [(.int p0)])) _
      refine XS.goto X0.here hx rfl (pc0 := 6) (pc' := 10) rfl (hb hby d5_6) (by decide) (by decide) ?_
      show Steps p.tables e below (s₁.setTop (mkF m 10 #[.val (.int p0), .val (.int p1)] [(.int p0)])) _
      rw [show zv1 = p0 from by simp only [hzv1, if_neg hc2]] at k
      exact k
  obtain ⟨fs, hr, hrun, hended, hW, hsame⟩ := X0.leave (v := some (.int zv1)) (fun h => by rw [Bd.returns] at h; cases h)
  refine ⟨_, _, ?_, hrun, hended, _, _, rfl, ?_, ⟨_, rfl⟩, hW, hsame.mono (by decide) (by decide)⟩
  · show Steps p.tables e below (s₁.setTop (mkF m 10 #[.val (.int p0), .val (.int p1)] [(.int zv1)])) _
    exact retI X0 hx Bd.returns (hb hby d5_10) hr
  · show Q5 Z p0 p1 h0 n0 _ s₁.heap _
    rw [e0]
    exact ⟨by rw [hzv1]; rfl, N0, rfl⟩
theorem d7_0 : decode jdk_29_method_69_code 0 = .ok (.iload_n 0, 1) := by decide +kernel
theorem d7_1 : decode jdk_29_method_69_code 1 = .ok (.iload_n 1, 1) := by decide +kernel
theorem d7_2 : decode jdk_29_method_69_code 2 = .ok (.if_icmp .gt 7, 3) := by decide +kernel
theorem d7_5 : decode jdk_29_method_69_code 5 = .ok (.iload_n 0, 1) := by decide +kernel
theorem d7_6 : decode jdk_29_method_69_code 6 = .ok (.goto 4, 3) := by decide +kernel
theorem d7_9 : decode jdk_29_method_69_code 9 = .ok (.iload_n 1, 1) := by decide +kernel
theorem d7_10 : decode jdk_29_method_69_code 10 = .ok (.ireturn, 1) := by decide +kernel
theorem ef_7 (m : MethodId) (p0 : Int32) (p1 : Int32) : entryFrame m #[(.int p0), (.int p1)] 2 = mkF m 0 #[.val (.int p0), .val (.int p1)] [] := by first | (simp [entryFrame, mkF, argsToLocals, Value.category]; done) | rfl
def Q7 (Z : State) (p0 : Int32) (p1 : Int32) (h0 : Heap) (n0 : Nat) (v : Option Value) (h : Heap) (L : List Loc) : Prop := v = some (.int (own_mini p0 p1)) ∧ Fr n0 L ∧ h = h0
set_option maxRecDepth 65536 in
set_option maxHeartbeats 40000000 in
theorem rm7 (l : Launch) (Z : State) (av0 : Array Value) (hw : ∀ d ∈ tables_1, d.before av0 Z = true) (ws : List Jvm.Cond) (p0 : Int32) (p1 : Int32) (h0 : Heap) (n0 : Nat) (Z0 : n0 ≤ h0.size) :
    MetFree l (⟨"java/lang/Math", "min", "(II)I"⟩ : MethodName) (head1 (Jvm.Cond.code (⟨"java/lang/Math", "min", "(II)I"⟩ : MethodName) jdk_29_method_69_code 2 (some .int) :: ws) ({ frames := 0, cells := 0, slots := 0, locals := 0 } : Room)) (fun a U => a = #[(.int p0), (.int p1)] ∧ Z.Warmed39 U.vm ∧ U.heap = h0) (fun _ _ _ _ _ => True) (fun _ U o U' => ∃ v L, o = .returned v ∧ Q7 Z p0 p1 h0 n0 v U'.heap L ∧ FrameEnd U o U' L ({ frames := 0, cells := 0, slots := 0, locals := 0 } : Room).cells ({ frames := 0, cells := 0, slots := 0, locals := 0 } : Room).slots) := by
  refine MetFree.of_bodySF (Jvm.Free.JP.mathPlain rfl (by decide +kernel)) hisR ?_
  intro p e s m args below meth c s₁ Bd hml0 hP hK
  obtain ⟨rfl, hZ, hh⟩ := hP
  have hx := Bd.exec
  have hby := Bd.bytes
  have hml : c.maxLocals = 2 := hml0
  have hown : s.vm.findClass "java/lang/Math" = some m.cls := findClass_of_methodNamed Bd.named
  have hnm := (name_of_methodNamed Bd.named Bd.method).1
  have X0 : Stand p l e ({ frames := 0, cells := 0, slots := 0, locals := 0 } : Room) s m #[(.int p0), (.int p1)] below meth c s₁ [] 0 0 := Stand.of_body Bd
  have e0 : s₁.heap = h0 := by rw [← hh, Bd.state]; rfl
  have N0 := Fr.nil n0
  have K0 : Keep h0 h0 [] := Keep.refl h0 []
  refine own_go (B := s₁.setTop (mkF m 0 #[.val (.int p0), .val (.int p1)] [])) (fun t k => castTop (ef_7 m p0 p1) k) ?_
  refine own_go (B := s₁.setTop (mkF m 2 #[.val (.int p0), .val (.int p1)] [(.int p1), (.int p0)])) (fun t k => ?_) ?_
  · show Steps p.tables e below (s₁.setTop (mkF m 0 #[.val (.int p0), .val (.int p1)] [])) _
    refine XS.iloadN X0.here hx rfl (hb hby d7_0) rfl ?_
    show Steps p.tables e below (s₁.setTop (mkF m 1 #[.val (.int p0), .val (.int p1)] [(.int p0)])) _
    refine XS.iloadN X0.here hx rfl (hb hby d7_1) rfl ?_
    exact k
  obtain ⟨zv1, hzv1⟩ : ∃ z : Int32, z = (if p1 < p0 then p1 else p0) := ⟨_, rfl⟩
  refine own_go (B := s₁.setTop (mkF m 10 #[.val (.int p0), .val (.int p1)] [(.int zv1)])) (fun t k => ?_) ?_
  · show Steps p.tables e below (s₁.setTop (mkF m 2 #[.val (.int p0), .val (.int p1)] [(.int p1), (.int p0)])) _
    by_cases hc2 : p1 < p0
    · refine XS.icmpYes X0.here hx rfl (pc0 := 2) (pc' := 9) rfl (hb hby d7_2) rfl (tlt hc2).2.2.1 (by decide) (by decide) ?_
      show Steps p.tables e below (s₁.setTop (mkF m 9 #[.val (.int p0), .val (.int p1)] [])) _
      refine XS.iloadN X0.here hx rfl (hb hby d7_9) rfl ?_
      show Steps p.tables e below (s₁.setTop (mkF m 10 #[.val (.int p0), .val (.int p1)] [(.int p1)])) _
      rw [show zv1 = p1 from by simp only [hzv1, if_pos hc2]] at k
      exact k
    · refine XS.icmpNo X0.here hx rfl (hb hby d7_2) rfl (flt hc2).2.2.1 ?_
      show Steps p.tables e below (s₁.setTop (mkF m 5 #[.val (.int p0), .val (.int p1)] [])) _
      refine XS.iloadN X0.here hx rfl (hb hby d7_5) rfl ?_
      show Steps p.tables e below (s₁.setTop (mkF m 6 #[.val (.int p0), .val (.int p1)] [(.int p0)])) _
      refine XS.goto X0.here hx rfl (pc0 := 6) (pc' := 10) rfl (hb hby d7_6) (by decide) (by decide) ?_
      show Steps p.tables e below (s₁.setTop (mkF m 10 #[.val (.int p0), .val (.int p1)] [(.int p0)])) _
      rw [show zv1 = p0 from by simp only [hzv1, if_neg hc2]] at k
      exact k
  obtain ⟨fs, hr, hrun, hended, hW, hsame⟩ := X0.leave (v := some (.int zv1)) (fun h => by rw [Bd.returns] at h; cases h)
  refine ⟨_, _, ?_, hrun, hended, _, _, rfl, ?_, ⟨_, rfl⟩, hW, hsame.mono (by decide) (by decide)⟩
  · show Steps p.tables e below (s₁.setTop (mkF m 10 #[.val (.int p0), .val (.int p1)] [(.int zv1)])) _
    exact retI X0 hx Bd.returns (hb hby d7_10) hr
  · show Q7 Z p0 p1 h0 n0 _ s₁.heap _
    rw [e0]
    exact ⟨by rw [hzv1]; rfl, N0, rfl⟩
theorem d6_0 : decode jdk_65_method_123_code 0 = .ok (.iload_n 1, 1) := by decide +kernel
theorem d6_1 : decode jdk_65_method_123_code 1 = .ok (.aload_n 0, 1) := by decide +kernel
theorem d6_2 : decode jdk_65_method_123_code 2 = .ok (.arraylength, 1) := by decide +kernel
theorem d6_3 : decode jdk_65_method_123_code 3 = .ok (.if_icmp .ne 11, 3) := by decide +kernel
theorem d6_14 : decode jdk_65_method_123_code 14 = .ok (.iload_n 1, 1) := by decide +kernel
theorem d6_15 : decode jdk_65_method_123_code 15 = .ok (.newarray .int, 2) := by decide +kernel
theorem d6_17 : decode jdk_65_method_123_code 17 = .ok (.astore_n 2, 1) := by decide +kernel
theorem d6_18 : decode jdk_65_method_123_code 18 = .ok (.aload_n 0, 1) := by decide +kernel
theorem d6_19 : decode jdk_65_method_123_code 19 = .ok (.iconst 0, 1) := by decide +kernel
theorem d6_20 : decode jdk_65_method_123_code 20 = .ok (.aload_n 2, 1) := by decide +kernel
theorem d6_21 : decode jdk_65_method_123_code 21 = .ok (.iconst 0, 1) := by decide +kernel
theorem d6_22 : decode jdk_65_method_123_code 22 = .ok (.aload_n 0, 1) := by decide +kernel
theorem d6_23 : decode jdk_65_method_123_code 23 = .ok (.arraylength, 1) := by decide +kernel
theorem d6_24 : decode jdk_65_method_123_code 24 = .ok (.iload_n 1, 1) := by decide +kernel
theorem d6_25 : decode jdk_65_method_123_code 25 = .ok (.invokestatic 304, 3) := by decide +kernel
theorem d6_28 : decode jdk_65_method_123_code 28 = .ok (.invokestatic 150, 3) := by decide +kernel
theorem d6_31 : decode jdk_65_method_123_code 31 = .ok (.aload_n 2, 1) := by decide +kernel
theorem d6_32 : decode jdk_65_method_123_code 32 = .ok (.areturn, 1) := by decide +kernel
theorem pn_6 : plainName "java/util/Arrays" = true := by first | (simp [plainName, overriddenIn]; done) | decide +kernel
theorem ef_6 (m : MethodId) (a0 : Addr) (p1 : Int32) : entryFrame m #[(.ref a0), (.int p1)] 3 = mkF m 0 #[.val (.ref a0), .val (.int p1), .unset] [] := by first | (simp [entryFrame, mkF, argsToLocals, Value.category]; done) | rfl
theorem pd_0 : parseMethodDescriptor "(II)I" = some ⟨[.int, .int], some .int⟩ := by decide +kernel
def Q6 (Z : State) (a0 : Addr) (p1 : Int32) (kk : ClassId) (z : Int32) (xs : List Int32) (h0 : Heap) (n0 : Nat) (v : Option Value) (h : Heap) (L : List Loc) : Prop := ∃ (b : Addr) (kb : ClassId), v = some (.ref b) ∧ Fr n0 L ∧ Keep h0 h [] ∧ h0.size ≤ b ∧ Arv Z h b kb .int p1 (own_vs xs) (.int (0 : Int32))
set_option maxRecDepth 65536 in
set_option maxHeartbeats 40000000 in
theorem rm6 (l : Launch) (Z : State) (av0 : Array Value) (hw : ∀ d ∈ tables_1, d.before av0 Z = true) (ws : List Jvm.Cond) (a0 : Addr) (p1 : Int32) (kk : ClassId) (z : Int32) (xs : List Int32) (h0 : Heap) (n0 : Nat) (Z0 : n0 ≤ h0.size) (V0 : Arv Z h0 a0 kk .int z (own_vs xs) (.int (0 : Int32))) (hz : ¬ z < (0 : Int32)) (hlt : z < p1) (hcap : p1 < (17 : Int32)) (hp : ¬ p1 < (0 : Int32)) (hne : ¬ (p1 = z)) (hxs : xs.length ≤ z.toNatClampNeg) :
    MetFree l (⟨"java/util/Arrays", "copyOf", "([II)[I"⟩ : MethodName) (head1 (Jvm.Cond.code (⟨"java/util/Arrays", "copyOf", "([II)[I"⟩ : MethodName) jdk_65_method_123_code 3 (some (.array .int)) :: ws) ({ frames := 1, cells := 1, slots := 16, locals := 18 } : Room)) (fun a U => a = #[(.ref a0), (.int p1)] ∧ Z.Warmed39 U.vm ∧ U.heap = h0) (fun _ _ _ _ _ => True) (fun _ U o U' => ∃ v L, o = .returned v ∧ Q6 Z a0 p1 kk z xs h0 n0 v U'.heap L ∧ FrameEnd U o U' L ({ frames := 1, cells := 1, slots := 16, locals := 18 } : Room).cells ({ frames := 1, cells := 1, slots := 16, locals := 18 } : Room).slots) := by
  refine MetFree.of_bodySF (plainFor_of_name pn_6) hisR ?_
  intro p e s m args below meth c s₁ Bd hml0 hP hK
  obtain ⟨rfl, hZ, hh⟩ := hP
  have hx := Bd.exec
  have hby := Bd.bytes
  have hml : c.maxLocals = 3 := hml0
  have hown : s.vm.findClass "java/util/Arrays" = some m.cls := findClass_of_methodNamed Bd.named
  have hnm := (name_of_methodNamed Bd.named Bd.method).1
  have X0 : Stand p l e ({ frames := 1, cells := 1, slots := 16, locals := 18 } : Room) s m #[(.ref a0), (.int p1)] below meth c s₁ [] 0 0 := Stand.of_body Bd
  have e0 : s₁.heap = h0 := by rw [← hh, Bd.state]; rfl
  have N0 := Fr.nil n0
  have K0 : Keep h0 h0 [] := Keep.refl h0 []
  refine own_go (B := s₁.setTop (mkF m 0 #[.val (.ref a0), .val (.int p1), .unset] [])) (fun t k => castTop (ef_6 m a0 p1) k) ?_
  refine own_go (B := s₁.setTop (mkF m 2 #[.val (.ref a0), .val (.int p1), .unset] [(.ref a0), (.int p1)])) (fun t k => ?_) ?_
  · show Steps p.tables e below (s₁.setTop (mkF m 0 #[.val (.ref a0), .val (.int p1), .unset] [])) _
    refine XS.iloadN X0.here hx rfl (hb hby d6_0) rfl ?_
    show Steps p.tables e below (s₁.setTop (mkF m 1 #[.val (.ref a0), .val (.int p1), .unset] [(.int p1)])) _
    refine XS.aloadN X0.here hx rfl (hb hby d6_1) rfl rfl ?_
    exact k
  obtain ⟨cl_1, Ar_1, -, S_1, M_1, -, -⟩ := id V0
  refine own_go (B := s₁.setTop (mkF m 3 #[.val (.ref a0), .val (.int p1), .unset] [(.int z), (.int p1)])) (fun t k => X0.arraylength hx (by rw [(e0 : _ = _)]; exact Ar_1.1) (State.isArrayOf_alike hZ.alike Ar_1.2.1) (g := (mkF m 2 #[.val (.ref a0), .val (.int p1), .unset] [(.ref a0), (.int p1)])) rfl rfl (hb hby d6_2) t (by rw [len_of S_1 M_1]; exact k)) ?_
  refine own_go (B := s₁.setTop (mkF m 14 #[.val (.ref a0), .val (.int p1), .unset] [])) (fun t k => ?_) ?_
  · show Steps p.tables e below (s₁.setTop (mkF m 3 #[.val (.ref a0), .val (.int p1), .unset] [(.int z), (.int p1)])) _
    refine XS.icmpYes X0.here hx rfl (pc0 := 3) (pc' := 14) rfl (hb hby d6_3) rfl (feq hne).2 (by decide) (by decide) ?_
    exact k
  refine own_go (B := s₁.setTop (mkF m 15 #[.val (.ref a0), .val (.int p1), .unset] [(.int p1)])) (fun t k => ?_) ?_
  · show Steps p.tables e below (s₁.setTop (mkF m 14 #[.val (.ref a0), .val (.int p1), .unset] [])) _
    refine XS.iloadN X0.here hx rfl (hb hby d6_14) rfl ?_
    exact k
  obtain ⟨T_2, h_2, k_2, X_2, e_2, E_2, A_2, st_2⟩ := newP X0 hx hZ (hw _ (List.mem_of_getElem? (i := 10) rfl)) e0 (g := (mkF m 15 #[.val (.ref a0), .val (.int p1), .unset] [(.int p1)])) rfl (hb hby d6_15) rfl hp (cap := 16) (by have q2 := own_nat hp; rw [own_i] at hcap; have : (17 : Int32).toInt = 17 := rfl; omega) (by decide) (by decide) (by decide)
  obtain ⟨b_2, g_2⟩ : ∃ z, z = h0.size := ⟨_, rfl⟩
  rw [← g_2] at A_2 st_2
  have g_b_2 : n0 ≤ b_2 := Nat.le_trans Z0 (Nat.le_of_eq g_2.symm)
  have sz_b_2 : h0.size ≤ b_2 := Nat.le_trans K0.1 (Nat.le_of_eq g_2.symm)
  have ne_a0_b_2 : a0 ≠ b_2 := Nat.ne_of_lt (Nat.lt_of_lt_of_le (V0).lt (Nat.le_of_eq g_2.symm))
  have c1 : Keep h0 h_2 [] := K0.ext E_2
  have c2 := V0.ext E_2
  have Z0__2 : n0 ≤ h_2.size := Nat.le_trans Z0 E_2.1
  have V_b_2 : Arv Z h_2 b_2 k_2 .int p1 [(.int (0 : Int32)), (.int (0 : Int32)), (.int (0 : Int32)), (.int (0 : Int32)), (.int (0 : Int32)), (.int (0 : Int32)), (.int (0 : Int32)), (.int (0 : Int32)), (.int (0 : Int32)), (.int (0 : Int32)), (.int (0 : Int32)), (.int (0 : Int32)), (.int (0 : Int32)), (.int (0 : Int32)), (.int (0 : Int32)), (.int (0 : Int32))] (.int (0 : Int32)) := (Arv.new A_2 hp).pad (pad_rep [] (.int (0 : Int32)) 16)
  refine own_go (B := T_2.setTop (mkF m 17 #[.val (.ref a0), .val (.int p1), .unset] [(.ref b_2)])) (fun t k => st_2 t k) ?_
  refine own_go (B := T_2.setTop (mkF m 23 #[.val (.ref a0), .val (.int p1), .val (.ref b_2)] [(.ref a0), (.int (0 : Int32)), (.ref b_2), (.int (0 : Int32)), (.ref a0)])) (fun t k => ?_) ?_
  · show Steps p.tables e below (T_2.setTop (mkF m 17 #[.val (.ref a0), .val (.int p1), .unset] [(.ref b_2)])) _
    refine XS.astoreN X_2.here hx rfl (hb hby d6_17) rfl rfl (l' := #[.val (.ref a0), .val (.int p1), .val (.ref b_2)]) rfl ?_
    show Steps p.tables e below (T_2.setTop (mkF m 18 #[.val (.ref a0), .val (.int p1), .val (.ref b_2)] [])) _
    refine XS.aloadN X_2.here hx rfl (hb hby d6_18) rfl rfl ?_
    show Steps p.tables e below (T_2.setTop (mkF m 19 #[.val (.ref a0), .val (.int p1), .val (.ref b_2)] [(.ref a0)])) _
    refine XS.iconst X_2.here hx rfl (hb hby d6_19) ?_
    show Steps p.tables e below (T_2.setTop (mkF m 20 #[.val (.ref a0), .val (.int p1), .val (.ref b_2)] [(.int (0 : Int32)), (.ref a0)])) _
    refine XS.aloadN X_2.here hx rfl (hb hby d6_20) rfl rfl ?_
    show Steps p.tables e below (T_2.setTop (mkF m 21 #[.val (.ref a0), .val (.int p1), .val (.ref b_2)] [(.ref b_2), (.int (0 : Int32)), (.ref a0)])) _
    refine XS.iconst X_2.here hx rfl (hb hby d6_21) ?_
    show Steps p.tables e below (T_2.setTop (mkF m 22 #[.val (.ref a0), .val (.int p1), .val (.ref b_2)] [(.int (0 : Int32)), (.ref b_2), (.int (0 : Int32)), (.ref a0)])) _
    refine XS.aloadN X_2.here hx rfl (hb hby d6_22) rfl rfl ?_
    exact k
  obtain ⟨cl_3, Ar_3, -, S_3, M_3, -, -⟩ := id c2
  refine own_go (B := T_2.setTop (mkF m 24 #[.val (.ref a0), .val (.int p1), .val (.ref b_2)] [(.int z), (.int (0 : Int32)), (.ref b_2), (.int (0 : Int32)), (.ref a0)])) (fun t k => X_2.arraylength hx (by rw [(e_2 : _ = _)]; exact Ar_3.1) (State.isArrayOf_alike hZ.alike Ar_3.2.1) (g := (mkF m 23 #[.val (.ref a0), .val (.int p1), .val (.ref b_2)] [(.ref a0), (.int (0 : Int32)), (.ref b_2), (.int (0 : Int32)), (.ref a0)])) rfl rfl (hb hby d6_23) t (by rw [len_of S_3 M_3]; exact k)) ?_
  refine own_go (B := T_2.setTop (mkF m 25 #[.val (.ref a0), .val (.int p1), .val (.ref b_2)] [(.int p1), (.int z), (.int (0 : Int32)), (.ref b_2), (.int (0 : Int32)), (.ref a0)])) (fun t k => ?_) ?_
  · show Steps p.tables e below (T_2.setTop (mkF m 24 #[.val (.ref a0), .val (.int p1), .val (.ref b_2)] [(.int z), (.int (0 : Int32)), (.ref b_2), (.int (0 : Int32)), (.ref a0)])) _
    refine XS.iloadN X_2.here hx rfl (hb hby d6_24) rfl ?_
    exact k
  obtain ⟨_, _, ⟨T_4, L_4, k_4, n_4⟩, -, X_4, ⟨Lc_4, hQ_4, l_4, y_4, z_4⟩, st_4⟩ := Jvm.LawKit.callS X_2 hx (y := (⟨"java/lang/Math", "min", "(II)I"⟩ : MethodName)) hown (mvT hZ (hw _ (List.mem_of_getElem? (i := 31) rfl))) (mvT hZ (hw _ (List.mem_of_getElem? (i := 32) rfl))) (mvT hZ (hw _ (List.mem_of_getElem? (i := 25) rfl))) (mvT hZ (hw _ (List.mem_of_getElem? (i := 33) rfl))) (by decide) (backOf (W := 4) (rm7 l Z av0 hw [] z p1  h_2 n0 Z0__2 ) hZ (hw _ (List.mem_of_getElem? (i := 33) rfl)) (hw _ (List.mem_of_getElem? (i := 25) rfl)) (by decide) (by decide)) (g := (mkF m 25 #[.val (.ref a0), .val (.int p1), .val (.ref b_2)] [(.int p1), (.int z), (.int (0 : Int32)), (.ref b_2), (.int (0 : Int32)), (.ref a0)])) rfl (by rw [hml]; rfl) (argsL := [(.int z), (.int p1)]) (rest := [(.int (0 : Int32)), (.ref b_2), (.int (0 : Int32)), (.ref a0)]) (lenOf pd_0 rfl) rfl (by show 2 * 0 + _ ≤ _; exact Nat.le_of_eq rfl) (hb hby d6_25) (fun _ _ => ⟨rfl, e_2, (by decide : 1 + 0 ≤ _), (by decide : 16 + 0 ≤ _)⟩)
  dsimp only [Pt.U, Pt.locs, Pt.cells, Pt.slots] at X_4 l_4 y_4 z_4 st_4 hQ_4
  subst l_4 y_4 z_4
  obtain ⟨rfl, N_4q, e_4⟩ := hQ_4
  have N_4 := Fr.app N0 N_4q
  refine own_go (B := T_4.setTop (mkF m 28 #[.val (.ref a0), .val (.int p1), .val (.ref b_2)] [(.int (own_mini z p1)), (.int (0 : Int32)), (.ref b_2), (.int (0 : Int32)), (.ref a0)])) (fun t k => st_4 t k) ?_
  have hmin : own_mini z p1 = z := by
    unfold own_mini; rw [if_neg]; rw [own_i]; rw [own_i] at hlt; omega
  have hzn : z.toNatClampNeg ≤ p1.toNatClampNeg ∧ p1.toNatClampNeg ≤ 16 := by
    have q1 := own_nat hz; have q2 := own_nat hp; rw [own_i] at hlt hcap; have : (17 : Int32).toInt = 17 := rfl; omega
  obtain ⟨T_5, h_5, L_5, X_5, e_5, N_5, K_5, V_5, st_5⟩ := cpA X_4 hx hZ hown (hw _ (List.mem_of_getElem? (i := 34) rfl)) (hw _ (List.mem_of_getElem? (i := 37) rfl)) (hw _ (List.mem_of_getElem? (i := 35) rfl)) (hw _ (List.mem_of_getElem? (i := 36) rfl)) e_4 c2 V_b_2 (Or.inl ⟨rfl, rfl⟩) (by decide) (by decide) (by rw [hmin]; exact hz) (by rw [hmin]; exact Nat.le_of_eq (Nat.zero_add _)) (by rw [hmin]; show 0 + _ ≤ _; omega) rfl (by rw [hmin]; show 0 + _ ≤ 16; omega) N_4 g_b_2 (g := (mkF m 28 #[.val (.ref a0), .val (.int p1), .val (.ref b_2)] [(.int (own_mini z p1)), (.int (0 : Int32)), (.ref b_2), (.int (0 : Int32)), (.ref a0)])) rfl (by rw [hml]; rfl) rfl (hb hby d6_28) (by decide) (W := 0) (by show 2 * 0 + _ ≤ _; exact Nat.le_of_eq rfl) (by decide)
  have c3 : Keep h0 h_5 [] := c1.trans K_5 (allS (Or.inr sz_b_2) all0)
  have c4 := c2.keep K_5 (ninS ne_a0_b_2 nin0)
  have Z0__5 : n0 ≤ h_5.size := Nat.le_trans Z0__2 K_5.1
  have V_b_2__5 : Arv Z h_5 b_2 k_2 .int p1 (own_vs xs) (.int (0 : Int32)) := V_5.pad (by rw [hmin]; exact own_copy xs _ hxs 16 (by omega))
  refine own_go (B := T_5.setTop (mkF m 31 #[.val (.ref a0), .val (.int p1), .val (.ref b_2)] [])) (fun t k => st_5 t k) ?_
  refine own_go (B := T_5.setTop (mkF m 32 #[.val (.ref a0), .val (.int p1), .val (.ref b_2)] [(.ref b_2)])) (fun t k => ?_) ?_
  · show Steps p.tables e below (T_5.setTop (mkF m 31 #[.val (.ref a0), .val (.int p1), .val (.ref b_2)] [])) _
    refine XS.aloadN X_5.here hx rfl (hb hby d6_31) rfl rfl ?_
    exact k
  obtain ⟨fs, hr, hrun, hended, hW, hsame⟩ := X_5.leave (v := some (.ref b_2)) (fun h => by rw [Bd.returns] at h; cases h)
  refine ⟨_, _, ?_, hrun, hended, _, _, rfl, ?_, ⟨_, rfl⟩, hW, hsame.mono (by decide) (by decide)⟩
  · show Steps p.tables e below (T_5.setTop (mkF m 32 #[.val (.ref a0), .val (.int p1), .val (.ref b_2)] [(.ref b_2)])) _
    jvm_step X_5.here [X_5.here.top, hx, (hb hby d6_32), X_5.method', Bd.returns, Value.isRef, FieldType.isReference]
    first | (intro acts; rw [hr _ acts rfl rfl rfl]) | rw [hr _ _ rfl rfl rfl]
    exact Steps.refl _
  · show Q6 Z a0 p1 kk z xs h0 n0 _ T_5.heap _
    rw [e_5]
    exact ⟨b_2, k_2, rfl, N_5, c3, sz_b_2, V_b_2__5⟩
theorem d1_0 : decode prog_2_method_1_code 0 = .ok (.aload_n 0, 1) := by decide +kernel
theorem d1_1 : decode prog_2_method_1_code 1 = .ok (.invokespecial 1, 3) := by decide +kernel
theorem d1_4 : decode prog_2_method_1_code 4 = .ok (.aload_n 0, 1) := by decide +kernel
theorem d1_5 : decode prog_2_method_1_code 5 = .ok (.iconst 0, 1) := by decide +kernel
theorem d1_6 : decode prog_2_method_1_code 6 = .ok (.newarray .int, 2) := by decide +kernel
theorem d1_8 : decode prog_2_method_1_code 8 = .ok (.putfield 7, 3) := by decide +kernel
theorem d1_11 : decode prog_2_method_1_code 11 = .ok (.return_, 1) := by decide +kernel
theorem pn_1 : plainName "com/example/mudskipper/mudskipper/index/FieldLengths" = true := by first | (simp [plainName, overriddenIn]; done) | decide +kernel
theorem ef_1 (m : MethodId) (a0 : Addr) : entryFrame m #[(.ref a0)] 1 = mkF m 0 #[.val (.ref a0)] [] := by first | (simp [entryFrame, mkF, argsToLocals, Value.category]; done) | rfl
def Q1 (Z : State) (a0 : Addr) (u0 : Value) (h0 : Heap) (n0 : Nat) (v : Option Value) (h : Heap) (L : List Loc) : Prop := ∃ (b : Addr) (kb : ClassId), v = none ∧ Fr n0 L ∧ Keep h0 h [a0] ∧ Fld Z h a0 "com/example/mudskipper/mudskipper/index/FieldLengths" "lengths" "[I" (.ref b) ∧ h0.size ≤ b ∧ Arv Z h b kb .int (0 : Int32) (own_vs []) (.int (0 : Int32))
set_option maxRecDepth 65536 in
set_option maxHeartbeats 40000000 in
theorem rm1 (l : Launch) (Z : State) (av0 : Array Value) (hw : ∀ d ∈ tables_1, d.before av0 Z = true) (ws : List Jvm.Cond) (a0 : Addr) (u0 : Value) (h0 : Heap) (n0 : Nat) (Z0 : n0 ≤ h0.size) (E_a0 : Exa Z h0 a0 "com/example/mudskipper/mudskipper/index/FieldLengths") (F_lengths_a0 : Fld Z h0 a0 "com/example/mudskipper/mudskipper/index/FieldLengths" "lengths" "[I" u0) (g_a0 : n0 ≤ a0) :
    MetFree l (⟨"com/example/mudskipper/mudskipper/index/FieldLengths", "<init>", "()V"⟩ : MethodName) (head1 (Jvm.Cond.code (⟨"com/example/mudskipper/mudskipper/index/FieldLengths", "<init>", "()V"⟩ : MethodName) prog_2_method_1_code 1 none :: ws) ({ frames := 1, cells := 1, slots := 0, locals := 12 } : Room)) (fun a U => a = #[(.ref a0)] ∧ Z.Warmed39 U.vm ∧ U.heap = h0) (fun _ _ _ _ _ => True) (fun _ U o U' => ∃ v L, o = .returned v ∧ Q1 Z a0 u0 h0 n0 v U'.heap L ∧ FrameEnd U o U' L ({ frames := 1, cells := 1, slots := 0, locals := 12 } : Room).cells ({ frames := 1, cells := 1, slots := 0, locals := 12 } : Room).slots) := by
  refine MetFree.of_bodySF (plainFor_of_name pn_1) hisR ?_
  intro p e s m args below meth c s₁ Bd hml0 hP hK
  obtain ⟨rfl, hZ, hh⟩ := hP
  have hx := Bd.exec
  have hby := Bd.bytes
  have hml : c.maxLocals = 1 := hml0
  have hown : s.vm.findClass "com/example/mudskipper/mudskipper/index/FieldLengths" = some m.cls := findClass_of_methodNamed Bd.named
  have hnm := (name_of_methodNamed Bd.named Bd.method).1
  have X0 : Stand p l e ({ frames := 1, cells := 1, slots := 0, locals := 12 } : Room) s m #[(.ref a0)] below meth c s₁ [] 0 0 := Stand.of_body Bd
  have e0 : s₁.heap = h0 := by rw [← hh, Bd.state]; rfl
  have N0 := Fr.nil n0
  have K0 : Keep h0 h0 [a0] := Keep.refl h0 [a0]
  refine own_go (B := s₁.setTop (mkF m 0 #[.val (.ref a0)] [])) (fun t k => castTop (ef_1 m a0) k) ?_
  refine own_go (B := s₁.setTop (mkF m 1 #[.val (.ref a0)] [(.ref a0)])) (fun t k => ?_) ?_
  · show Steps p.tables e below (s₁.setTop (mkF m 0 #[.val (.ref a0)] [])) _
    refine XS.aloadN X0.here hx rfl (hb hby d1_0) rfl rfl ?_
    exact k
  obtain ⟨T_1, X_1, e_1, st_1⟩ := initO X0 hx hZ hown (hw _ (List.mem_of_getElem? (i := 7) rfl)) (hw _ (List.mem_of_getElem? (i := 8) rfl)) (hw _ (List.mem_of_getElem? (i := 9) rfl)) e0 (g := (mkF m 1 #[.val (.ref a0)] [(.ref a0)])) rfl (by rw [hml]; rfl) rfl (hb hby d1_1) (by decide) (W := 0) (by show 2 * 0 + _ ≤ _; exact Nat.le_of_eq rfl) (by decide)
  refine own_go (B := T_1.setTop (mkF m 4 #[.val (.ref a0)] [])) (fun t k => st_1 t k) ?_
  refine own_go (B := T_1.setTop (mkF m 6 #[.val (.ref a0)] [(.int (0 : Int32)), (.ref a0)])) (fun t k => ?_) ?_
  · show Steps p.tables e below (T_1.setTop (mkF m 4 #[.val (.ref a0)] [])) _
    refine XS.aloadN X_1.here hx rfl (hb hby d1_4) rfl rfl ?_
    show Steps p.tables e below (T_1.setTop (mkF m 5 #[.val (.ref a0)] [(.ref a0)])) _
    refine XS.iconst X_1.here hx rfl (hb hby d1_5) ?_
    exact k
  obtain ⟨T_2, h_2, k_2, X_2, e_2, E_2, A_2, st_2⟩ := newP X_1 hx hZ (hw _ (List.mem_of_getElem? (i := 10) rfl)) e_1 (g := (mkF m 6 #[.val (.ref a0)] [(.int (0 : Int32)), (.ref a0)])) rfl (hb hby d1_6) rfl (by decide) (cap := 0) (by decide) (by decide) (by decide) (by decide)
  obtain ⟨b_2, g_2⟩ : ∃ z, z = h0.size := ⟨_, rfl⟩
  rw [← g_2] at A_2 st_2
  have g_b_2 : n0 ≤ b_2 := Nat.le_trans Z0 (Nat.le_of_eq g_2.symm)
  have sz_b_2 : h0.size ≤ b_2 := Nat.le_trans K0.1 (Nat.le_of_eq g_2.symm)
  have ne_a0_b_2 : a0 ≠ b_2 := Nat.ne_of_lt (Nat.lt_of_lt_of_le (E_a0).lt (Nat.le_of_eq g_2.symm))
  have c1 : Keep h0 h_2 [a0] := K0.ext E_2
  have c2 : Exa Z h_2 a0 "com/example/mudskipper/mudskipper/index/FieldLengths" := E_a0.ext E_2
  have c3 : Fld Z h_2 a0 "com/example/mudskipper/mudskipper/index/FieldLengths" "lengths" "[I" u0 := F_lengths_a0.ext E_2
  have Z0__2 : n0 ≤ h_2.size := Nat.le_trans Z0 E_2.1
  have V_b_2 : Arv Z h_2 b_2 k_2 .int (0 : Int32) [] (.int (0 : Int32)) := Arv.new A_2 (by decide)
  refine own_go (B := T_2.setTop (mkF m 8 #[.val (.ref a0)] [(.ref b_2), (.ref a0)])) (fun t k => st_2 t k) ?_
  obtain ⟨T_3, h_3, X_3, e_3, W_3, st_3⟩ := putF X_2 hx hZ hown (host := "") (Or.inl (hw _ (List.mem_of_getElem? (i := 11) rfl))) Via.refl e_2 c3 c2 (Or.inl (hw _ (List.mem_of_getElem? (i := 12) rfl))) (hw _ (List.mem_of_getElem? (i := 2) rfl)) (ty := (.array .int)) (by decide) rfl rfl (g := (mkF m 8 #[.val (.ref a0)] [(.ref b_2), (.ref a0)])) rfl rfl (hb hby d1_8)
  have c4 : Keep h0 h_3 [a0] := c1.wr W_3 (Or.inl (List.mem_of_getElem? (i := 0) rfl))
  have c5 : Exa Z h_3 a0 "com/example/mudskipper/mudskipper/index/FieldLengths" := c2.wr W_3
  have c6 : Fld Z h_3 a0 "com/example/mudskipper/mudskipper/index/FieldLengths" "lengths" "[I" (.ref b_2) := c3.same W_3
  have c7 := V_b_2.other W_3 (Ne.symm ne_a0_b_2)
  have N_3 := Fr.snoc X_3 N0 g_a0
  have Z0__3 : n0 ≤ h_3.size := by rw [W_3.size]; exact Z0__2
  refine own_go (B := T_3.setTop (mkF m 11 #[.val (.ref a0)] [])) (fun t k => st_3 t k) ?_
  obtain ⟨fs, hr, hrun, hended, hW, hsame⟩ := X_3.leave (v := none) (fun _ => rfl)
  refine ⟨_, _, ?_, hrun, hended, _, _, rfl, ?_, ⟨_, rfl⟩, hW, hsame.mono (by decide) (by decide)⟩
  · show Steps p.tables e below (T_3.setTop (mkF m 11 #[.val (.ref a0)] [])) _
    exact X_3.returnOut hx Bd.returns (hb hby d1_11) hr
  · show Q1 Z a0 u0 h0 n0 _ T_3.heap _
    rw [e_3]
    exact ⟨b_2, k_2, rfl, N_3, c4, c6, sz_b_2, c7⟩
def own_len (z : Int32) (xs : List Int32) (q : Int32) : Int32 := if q < z then xs.getD q.toNatClampNeg 0 else (0 : Int32)
theorem d3_0 : decode prog_2_method_2_code 0 = .ok (.iload_n 1, 1) := by decide +kernel
theorem d3_1 : decode prog_2_method_2_code 1 = .ok (.aload_n 0, 1) := by decide +kernel
theorem d3_2 : decode prog_2_method_2_code 2 = .ok (.getfield 7, 3) := by decide +kernel
theorem d3_5 : decode prog_2_method_2_code 5 = .ok (.arraylength, 1) := by decide +kernel
theorem d3_6 : decode prog_2_method_2_code 6 = .ok (.if_icmp .ge 12, 3) := by decide +kernel
theorem d3_9 : decode prog_2_method_2_code 9 = .ok (.aload_n 0, 1) := by decide +kernel
theorem d3_10 : decode prog_2_method_2_code 10 = .ok (.getfield 7, 3) := by decide +kernel
theorem d3_13 : decode prog_2_method_2_code 13 = .ok (.iload_n 1, 1) := by decide +kernel
theorem d3_14 : decode prog_2_method_2_code 14 = .ok (.iaload, 1) := by decide +kernel
theorem d3_15 : decode prog_2_method_2_code 15 = .ok (.goto 4, 3) := by decide +kernel
theorem d3_18 : decode prog_2_method_2_code 18 = .ok (.iconst 0, 1) := by decide +kernel
theorem d3_19 : decode prog_2_method_2_code 19 = .ok (.ireturn, 1) := by decide +kernel
theorem pn_3 : plainName "com/example/mudskipper/mudskipper/index/FieldLengths" = true := by first | (simp [plainName, overriddenIn]; done) | decide +kernel
theorem ef_3 (m : MethodId) (a0 : Addr) (p1 : Int32) : entryFrame m #[(.ref a0), (.int p1)] 2 = mkF m 0 #[.val (.ref a0), .val (.int p1)] [] := by first | (simp [entryFrame, mkF, argsToLocals, Value.category]; done) | rfl
def Q3 (Z : State) (a0 : Addr) (p1 : Int32) (w : Addr) (kk : ClassId) (z : Int32) (xs : List Int32) (h0 : Heap) (n0 : Nat) (v : Option Value) (h : Heap) (L : List Loc) : Prop := v = some (.int (own_len z xs p1)) ∧ Fr n0 L ∧ h = h0
set_option maxRecDepth 65536 in
set_option maxHeartbeats 40000000 in
theorem rm3 (l : Launch) (Z : State) (av0 : Array Value) (hw : ∀ d ∈ tables_1, d.before av0 Z = true) (ws : List Jvm.Cond) (a0 : Addr) (p1 : Int32) (w : Addr) (kk : ClassId) (z : Int32) (xs : List Int32) (h0 : Heap) (n0 : Nat) (Z0 : n0 ≤ h0.size) (F_lengths_a0 : Fld Z h0 a0 "com/example/mudskipper/mudskipper/index/FieldLengths" "lengths" "[I" (.ref w)) (V0 : Arv Z h0 w kk .int z (own_vs xs) (.int (0 : Int32))) (hp : ¬ p1 < (0 : Int32)) :
    MetFree l (⟨"com/example/mudskipper/mudskipper/index/FieldLengths", "length", "(I)I"⟩ : MethodName) (head1 (Jvm.Cond.code (⟨"com/example/mudskipper/mudskipper/index/FieldLengths", "length", "(I)I"⟩ : MethodName) prog_2_method_2_code 2 (some .int) :: ws) ({ frames := 0, cells := 0, slots := 0, locals := 0 } : Room)) (fun a U => a = #[(.ref a0), (.int p1)] ∧ Z.Warmed39 U.vm ∧ U.heap = h0) (fun _ _ _ _ _ => True) (fun _ U o U' => ∃ v L, o = .returned v ∧ Q3 Z a0 p1 w kk z xs h0 n0 v U'.heap L ∧ FrameEnd U o U' L ({ frames := 0, cells := 0, slots := 0, locals := 0 } : Room).cells ({ frames := 0, cells := 0, slots := 0, locals := 0 } : Room).slots) := by
  refine MetFree.of_bodySF (plainFor_of_name pn_3) hisR ?_
  intro p e s m args below meth c s₁ Bd hml0 hP hK
  obtain ⟨rfl, hZ, hh⟩ := hP
  have hx := Bd.exec
  have hby := Bd.bytes
  have hml : c.maxLocals = 2 := hml0
  have hown : s.vm.findClass "com/example/mudskipper/mudskipper/index/FieldLengths" = some m.cls := findClass_of_methodNamed Bd.named
  have hnm := (name_of_methodNamed Bd.named Bd.method).1
  have X0 : Stand p l e ({ frames := 0, cells := 0, slots := 0, locals := 0 } : Room) s m #[(.ref a0), (.int p1)] below meth c s₁ [] 0 0 := Stand.of_body Bd
  have e0 : s₁.heap = h0 := by rw [← hh, Bd.state]; rfl
  have N0 := Fr.nil n0
  have K0 : Keep h0 h0 [] := Keep.refl h0 []
  refine own_go (B := s₁.setTop (mkF m 0 #[.val (.ref a0), .val (.int p1)] [])) (fun t k => castTop (ef_3 m a0 p1) k) ?_
  refine own_go (B := s₁.setTop (mkF m 2 #[.val (.ref a0), .val (.int p1)] [(.ref a0), (.int p1)])) (fun t k => ?_) ?_
  · show Steps p.tables e below (s₁.setTop (mkF m 0 #[.val (.ref a0), .val (.int p1)] [])) _
    refine XS.iloadN X0.here hx rfl (hb hby d3_0) rfl ?_
    show Steps p.tables e below (s₁.setTop (mkF m 1 #[.val (.ref a0), .val (.int p1)] [(.int p1)])) _
    refine XS.aloadN X0.here hx rfl (hb hby d3_1) rfl rfl ?_
    exact k
  obtain ⟨T_1, X_1, e_1, st_1⟩ := getF X0 hx hZ hown (host := "") (Or.inl (hw _ (List.mem_of_getElem? (i := 11) rfl))) Via.refl e0 F_lengths_a0 (g := (mkF m 2 #[.val (.ref a0), .val (.int p1)] [(.ref a0), (.int p1)])) rfl rfl (hb hby d3_2)
  refine own_go (B := T_1.setTop (mkF m 5 #[.val (.ref a0), .val (.int p1)] [(.ref w), (.int p1)])) (fun t k => st_1 t k) ?_
  obtain ⟨cl_2, Ar_2, -, S_2, M_2, -, -⟩ := id V0
  refine own_go (B := T_1.setTop (mkF m 6 #[.val (.ref a0), .val (.int p1)] [(.int z), (.int p1)])) (fun t k => X_1.arraylength hx (by rw [(e_1 : _ = _)]; exact Ar_2.1) (State.isArrayOf_alike hZ.alike Ar_2.2.1) (g := (mkF m 5 #[.val (.ref a0), .val (.int p1)] [(.ref w), (.int p1)])) rfl rfl (hb hby d3_5) t (by rw [len_of S_2 M_2]; exact k)) ?_
  by_cases hc6 : p1 < z
  · refine own_go (B := T_1.setTop (mkF m 9 #[.val (.ref a0), .val (.int p1)] [])) (fun t k => ?_) ?_
    · show Steps p.tables e below (T_1.setTop (mkF m 6 #[.val (.ref a0), .val (.int p1)] [(.int z), (.int p1)])) _
      refine XS.icmpNo X_1.here hx rfl (hb hby d3_6) rfl (tlt hc6).2.1 ?_
      exact k
    refine own_go (B := T_1.setTop (mkF m 10 #[.val (.ref a0), .val (.int p1)] [(.ref a0)])) (fun t k => ?_) ?_
    · show Steps p.tables e below (T_1.setTop (mkF m 9 #[.val (.ref a0), .val (.int p1)] [])) _
      refine XS.aloadN X_1.here hx rfl (hb hby d3_9) rfl rfl ?_
      exact k
    obtain ⟨T_3, X_3, e_3, st_3⟩ := getF X_1 hx hZ hown (host := "") (Or.inl (hw _ (List.mem_of_getElem? (i := 11) rfl))) Via.refl e_1 F_lengths_a0 (g := (mkF m 10 #[.val (.ref a0), .val (.int p1)] [(.ref a0)])) rfl rfl (hb hby d3_10)
    refine own_go (B := T_3.setTop (mkF m 13 #[.val (.ref a0), .val (.int p1)] [(.ref w)])) (fun t k => st_3 t k) ?_
    refine own_go (B := T_3.setTop (mkF m 14 #[.val (.ref a0), .val (.int p1)] [(.int p1), (.ref w)])) (fun t k => ?_) ?_
    · show Steps p.tables e below (T_3.setTop (mkF m 13 #[.val (.ref a0), .val (.int p1)] [(.ref w)])) _
      refine XS.iloadN X_3.here hx rfl (hb hby d3_13) rfl ?_
      exact k
    obtain ⟨cl_4, Ar_4, q_4, S_4, M_4, H_4, G_4⟩ := id V0
    have hin_4 : ¬ (p1 < 0 ∨ cl_4.slots.size ≤ (p1).toNatClampNeg) := inb_of S_4 ⟨hp, hc6⟩
    have hat_4 : cl_4.slots[(p1).toNatClampNeg]? = some (.int (xs.getD (p1).toNatClampNeg 0)) := H_4.at hin_4 (own_map xs _)
    refine own_go (B := T_3.setTop (mkF m 15 #[.val (.ref a0), .val (.int p1)] [(.int (xs.getD (p1).toNatClampNeg 0))])) (fun t k => X_3.iaload hx (j := p1) (v := (.int (xs.getD (p1).toNatClampNeg 0))) (by rw [(e_3 : _ = _)]; exact Ar_4.1) (State.isArrayOf_alike hZ.alike Ar_4.2.1) Ar_4.2.2 hin_4 hat_4 (g := (mkF m 14 #[.val (.ref a0), .val (.int p1)] [(.int p1), (.ref w)])) rfl rfl (hb hby d3_14) t k) ?_
    refine own_go (B := T_3.setTop (mkF m 19 #[.val (.ref a0), .val (.int p1)] [(.int (xs.getD (p1).toNatClampNeg 0))])) (fun t k => ?_) ?_
    · show Steps p.tables e below (T_3.setTop (mkF m 15 #[.val (.ref a0), .val (.int p1)] [(.int (xs.getD (p1).toNatClampNeg 0))])) _
      refine XS.goto X_3.here hx rfl (pc0 := 15) (pc' := 19) rfl (hb hby d3_15) (by decide) (by decide) ?_
      exact k
    obtain ⟨fs, hr, hrun, hended, hW, hsame⟩ := X_3.leave (v := some (.int (xs.getD (p1).toNatClampNeg 0))) (fun h => by rw [Bd.returns] at h; cases h)
    refine ⟨_, _, ?_, hrun, hended, _, _, rfl, ?_, ⟨_, rfl⟩, hW, hsame.mono (by decide) (by decide)⟩
    · show Steps p.tables e below (T_3.setTop (mkF m 19 #[.val (.ref a0), .val (.int p1)] [(.int (xs.getD (p1).toNatClampNeg 0))])) _
      exact retI X_3 hx Bd.returns (hb hby d3_19) hr
    · show Q3 Z a0 p1 w kk z xs h0 n0 _ T_3.heap _
      rw [e_3]
      exact ⟨by simp only [own_len, if_pos hc6], N0, rfl⟩
  · refine own_go (B := T_1.setTop (mkF m 18 #[.val (.ref a0), .val (.int p1)] [])) (fun t k => ?_) ?_
    · show Steps p.tables e below (T_1.setTop (mkF m 6 #[.val (.ref a0), .val (.int p1)] [(.int z), (.int p1)])) _
      refine XS.icmpYes X_1.here hx rfl (pc0 := 6) (pc' := 18) rfl (hb hby d3_6) rfl (flt hc6).2.1 (by decide) (by decide) ?_
      exact k
    refine own_go (B := T_1.setTop (mkF m 19 #[.val (.ref a0), .val (.int p1)] [(.int (0 : Int32))])) (fun t k => ?_) ?_
    · show Steps p.tables e below (T_1.setTop (mkF m 18 #[.val (.ref a0), .val (.int p1)] [])) _
      refine XS.iconst X_1.here hx rfl (hb hby d3_18) ?_
      exact k
    obtain ⟨fs, hr, hrun, hended, hW, hsame⟩ := X_1.leave (v := some (.int (0 : Int32))) (fun h => by rw [Bd.returns] at h; cases h)
    refine ⟨_, _, ?_, hrun, hended, _, _, rfl, ?_, ⟨_, rfl⟩, hW, hsame.mono (by decide) (by decide)⟩
    · show Steps p.tables e below (T_1.setTop (mkF m 19 #[.val (.ref a0), .val (.int p1)] [(.int (0 : Int32))])) _
      exact retI X_1 hx Bd.returns (hb hby d3_19) hr
    · show Q3 Z a0 p1 w kk z xs h0 n0 _ T_1.heap _
      rw [e_1]
      exact ⟨by simp only [own_len, if_neg hc6], N0, rfl⟩
theorem own_new (z p : Int32) (hz : ¬ z < (0 : Int32)) (hge : ¬ p < z) (hcap : p < (16 : Int32)) (hz8 : z < (9 : Int32)) : (own_maxi (p + 1) (z * 2)).toInt = max (p.toInt + 1) (2 * z.toInt) := by
  rw [own_i] at hz hge hcap hz8
  have e0 : (0 : Int32).toInt = 0 := rfl
  have e1 : (16 : Int32).toInt = 16 := rfl
  have e2 : (9 : Int32).toInt = 9 := rfl
  have a1 : (p + 1).toInt = p.toInt + 1 := by
    have := Jvm.Kit.i32_add (p := p) (q := 1) (by show -2 ^ 31 ≤ p.toInt + 1; omega) (by show p.toInt + 1 < 2 ^ 31; omega)
    exact this
  have a2 : (z * 2).toInt = 2 * z.toInt := by
    rw [Int32.toInt_mul]; show (z.toInt * 2).bmod (2 ^ 32) = _
    rw [Int.bmod_def]; omega
  unfold own_maxi
  by_cases h : p + 1 < z * 2
  · rw [if_pos h]; rw [own_i] at h; omega
  · rw [if_neg h]; rw [own_i] at h; omega
theorem d4_0 : decode prog_2_method_3_code 0 = .ok (.iload_n 1, 1) := by decide +kernel
theorem d4_1 : decode prog_2_method_3_code 1 = .ok (.aload_n 0, 1) := by decide +kernel
theorem d4_2 : decode prog_2_method_3_code 2 = .ok (.getfield 7, 3) := by decide +kernel
theorem d4_5 : decode prog_2_method_3_code 5 = .ok (.arraylength, 1) := by decide +kernel
theorem d4_6 : decode prog_2_method_3_code 6 = .ok (.if_icmp .lt 27, 3) := by decide +kernel
theorem d4_9 : decode prog_2_method_3_code 9 = .ok (.aload_n 0, 1) := by decide +kernel
theorem d4_10 : decode prog_2_method_3_code 10 = .ok (.aload_n 0, 1) := by decide +kernel
theorem d4_11 : decode prog_2_method_3_code 11 = .ok (.getfield 7, 3) := by decide +kernel
theorem d4_14 : decode prog_2_method_3_code 14 = .ok (.iload_n 1, 1) := by decide +kernel
theorem d4_15 : decode prog_2_method_3_code 15 = .ok (.iconst 1, 1) := by decide +kernel
theorem d4_16 : decode prog_2_method_3_code 16 = .ok (.iadd, 1) := by decide +kernel
theorem d4_17 : decode prog_2_method_3_code 17 = .ok (.aload_n 0, 1) := by decide +kernel
theorem d4_18 : decode prog_2_method_3_code 18 = .ok (.getfield 7, 3) := by decide +kernel
theorem d4_21 : decode prog_2_method_3_code 21 = .ok (.arraylength, 1) := by decide +kernel
theorem d4_22 : decode prog_2_method_3_code 22 = .ok (.iconst 2, 1) := by decide +kernel
theorem d4_23 : decode prog_2_method_3_code 23 = .ok (.imul, 1) := by decide +kernel
theorem d4_24 : decode prog_2_method_3_code 24 = .ok (.invokestatic 13, 3) := by decide +kernel
theorem d4_27 : decode prog_2_method_3_code 27 = .ok (.invokestatic 19, 3) := by decide +kernel
theorem d4_30 : decode prog_2_method_3_code 30 = .ok (.putfield 7, 3) := by decide +kernel
theorem d4_33 : decode prog_2_method_3_code 33 = .ok (.aload_n 0, 1) := by decide +kernel
theorem d4_34 : decode prog_2_method_3_code 34 = .ok (.getfield 7, 3) := by decide +kernel
theorem d4_37 : decode prog_2_method_3_code 37 = .ok (.iload_n 1, 1) := by decide +kernel
theorem d4_38 : decode prog_2_method_3_code 38 = .ok (.iload_n 2, 1) := by decide +kernel
theorem d4_39 : decode prog_2_method_3_code 39 = .ok (.iastore, 1) := by decide +kernel
theorem d4_40 : decode prog_2_method_3_code 40 = .ok (.return_, 1) := by decide +kernel
theorem pn_4 : plainName "com/example/mudskipper/mudskipper/index/FieldLengths" = true := by first | (simp [plainName, overriddenIn]; done) | decide +kernel
theorem ef_4 (m : MethodId) (a0 : Addr) (p1 : Int32) (p2 : Int32) : entryFrame m #[(.ref a0), (.int p1), (.int p2)] 3 = mkF m 0 #[.val (.ref a0), .val (.int p1), .val (.int p2)] [] := by first | (simp [entryFrame, mkF, argsToLocals, Value.category]; done) | rfl
theorem pd_1 : parseMethodDescriptor "([II)[I" = some ⟨[(.array .int), .int], some (.array .int)⟩ := by decide +kernel
def Q4 (Z : State) (a0 : Addr) (p1 : Int32) (p2 : Int32) (w : Addr) (kk : ClassId) (z : Int32) (xs : List Int32) (h0 : Heap) (n0 : Nat) (v : Option Value) (h : Heap) (L : List Loc) : Prop := ∃ (b : Addr) (kb : ClassId), v = none ∧ Fr n0 L ∧ Keep h0 h [a0] ∧ Fld Z h a0 "com/example/mudskipper/mudskipper/index/FieldLengths" "lengths" "[I" (.ref b) ∧ h0.size ≤ b ∧ Arv Z h b kb .int (own_maxi (p1 + (1 : Int32)) (z * (2 : Int32))) (own_vs (own_put xs (p1).toNatClampNeg p2)) (.int (0 : Int32))
set_option maxRecDepth 65536 in
set_option maxHeartbeats 40000000 in
theorem rm4 (l : Launch) (Z : State) (av0 : Array Value) (hw : ∀ d ∈ tables_1, d.before av0 Z = true) (ws : List Jvm.Cond) (a0 : Addr) (p1 : Int32) (p2 : Int32) (w : Addr) (kk : ClassId) (z : Int32) (xs : List Int32) (h0 : Heap) (n0 : Nat) (Z0 : n0 ≤ h0.size) (E_a0 : Exa Z h0 a0 "com/example/mudskipper/mudskipper/index/FieldLengths") (F_lengths_a0 : Fld Z h0 a0 "com/example/mudskipper/mudskipper/index/FieldLengths" "lengths" "[I" (.ref w)) (g_a0 : n0 ≤ a0) (V0 : Arv Z h0 w kk .int z (own_vs xs) (.int (0 : Int32))) (hz : ¬ z < (0 : Int32)) (hge : ¬ (p1 < z)) (hcap : p1 < (16 : Int32)) (hz8 : z < (9 : Int32)) (hxs : xs.length ≤ z.toNatClampNeg) (hne : a0 ≠ w) :
    MetFree l (⟨"com/example/mudskipper/mudskipper/index/FieldLengths", "add", "(II)V"⟩ : MethodName) (head1 (Jvm.Cond.code (⟨"com/example/mudskipper/mudskipper/index/FieldLengths", "add", "(II)V"⟩ : MethodName) prog_2_method_3_code 3 none :: ws) ({ frames := 2, cells := 1, slots := 16, locals := 33 } : Room)) (fun a U => a = #[(.ref a0), (.int p1), (.int p2)] ∧ Z.Warmed39 U.vm ∧ U.heap = h0) (fun _ _ _ _ _ => True) (fun _ U o U' => ∃ v L, o = .returned v ∧ Q4 Z a0 p1 p2 w kk z xs h0 n0 v U'.heap L ∧ FrameEnd U o U' L ({ frames := 2, cells := 1, slots := 16, locals := 33 } : Room).cells ({ frames := 2, cells := 1, slots := 16, locals := 33 } : Room).slots) := by
  refine MetFree.of_bodySF (plainFor_of_name pn_4) hisR ?_
  intro p e s m args below meth c s₁ Bd hml0 hP hK
  obtain ⟨rfl, hZ, hh⟩ := hP
  have hx := Bd.exec
  have hby := Bd.bytes
  have hml : c.maxLocals = 3 := hml0
  have hown : s.vm.findClass "com/example/mudskipper/mudskipper/index/FieldLengths" = some m.cls := findClass_of_methodNamed Bd.named
  have hnm := (name_of_methodNamed Bd.named Bd.method).1
  have X0 : Stand p l e ({ frames := 2, cells := 1, slots := 16, locals := 33 } : Room) s m #[(.ref a0), (.int p1), (.int p2)] below meth c s₁ [] 0 0 := Stand.of_body Bd
  have e0 : s₁.heap = h0 := by rw [← hh, Bd.state]; rfl
  have N0 := Fr.nil n0
  have K0 : Keep h0 h0 [a0] := Keep.refl h0 [a0]
  refine own_go (B := s₁.setTop (mkF m 0 #[.val (.ref a0), .val (.int p1), .val (.int p2)] [])) (fun t k => castTop (ef_4 m a0 p1 p2) k) ?_
  refine own_go (B := s₁.setTop (mkF m 2 #[.val (.ref a0), .val (.int p1), .val (.int p2)] [(.ref a0), (.int p1)])) (fun t k => ?_) ?_
  · show Steps p.tables e below (s₁.setTop (mkF m 0 #[.val (.ref a0), .val (.int p1), .val (.int p2)] [])) _
    refine XS.iloadN X0.here hx rfl (hb hby d4_0) rfl ?_
    show Steps p.tables e below (s₁.setTop (mkF m 1 #[.val (.ref a0), .val (.int p1), .val (.int p2)] [(.int p1)])) _
    refine XS.aloadN X0.here hx rfl (hb hby d4_1) rfl rfl ?_
    exact k
  obtain ⟨T_1, X_1, e_1, st_1⟩ := getF X0 hx hZ hown (host := "") (Or.inl (hw _ (List.mem_of_getElem? (i := 11) rfl))) Via.refl e0 F_lengths_a0 (g := (mkF m 2 #[.val (.ref a0), .val (.int p1), .val (.int p2)] [(.ref a0), (.int p1)])) rfl rfl (hb hby d4_2)
  refine own_go (B := T_1.setTop (mkF m 5 #[.val (.ref a0), .val (.int p1), .val (.int p2)] [(.ref w), (.int p1)])) (fun t k => st_1 t k) ?_
  obtain ⟨cl_2, Ar_2, -, S_2, M_2, -, -⟩ := id V0
  refine own_go (B := T_1.setTop (mkF m 6 #[.val (.ref a0), .val (.int p1), .val (.int p2)] [(.int z), (.int p1)])) (fun t k => X_1.arraylength hx (by rw [(e_1 : _ = _)]; exact Ar_2.1) (State.isArrayOf_alike hZ.alike Ar_2.2.1) (g := (mkF m 5 #[.val (.ref a0), .val (.int p1), .val (.int p2)] [(.ref w), (.int p1)])) rfl rfl (hb hby d4_5) t (by rw [len_of S_2 M_2]; exact k)) ?_
  refine own_go (B := T_1.setTop (mkF m 9 #[.val (.ref a0), .val (.int p1), .val (.int p2)] [])) (fun t k => ?_) ?_
  · show Steps p.tables e below (T_1.setTop (mkF m 6 #[.val (.ref a0), .val (.int p1), .val (.int p2)] [(.int z), (.int p1)])) _
    refine XS.icmpNo X_1.here hx rfl (hb hby d4_6) rfl (flt hge).1 ?_
    exact k
  refine own_go (B := T_1.setTop (mkF m 11 #[.val (.ref a0), .val (.int p1), .val (.int p2)] [(.ref a0), (.ref a0)])) (fun t k => ?_) ?_
  · show Steps p.tables e below (T_1.setTop (mkF m 9 #[.val (.ref a0), .val (.int p1), .val (.int p2)] [])) _
    refine XS.aloadN X_1.here hx rfl (hb hby d4_9) rfl rfl ?_
    show Steps p.tables e below (T_1.setTop (mkF m 10 #[.val (.ref a0), .val (.int p1), .val (.int p2)] [(.ref a0)])) _
    refine XS.aloadN X_1.here hx rfl (hb hby d4_10) rfl rfl ?_
    exact k
  obtain ⟨T_3, X_3, e_3, st_3⟩ := getF X_1 hx hZ hown (host := "") (Or.inl (hw _ (List.mem_of_getElem? (i := 11) rfl))) Via.refl e_1 F_lengths_a0 (g := (mkF m 11 #[.val (.ref a0), .val (.int p1), .val (.int p2)] [(.ref a0), (.ref a0)])) rfl rfl (hb hby d4_11)
  refine own_go (B := T_3.setTop (mkF m 14 #[.val (.ref a0), .val (.int p1), .val (.int p2)] [(.ref w), (.ref a0)])) (fun t k => st_3 t k) ?_
  refine own_go (B := T_3.setTop (mkF m 18 #[.val (.ref a0), .val (.int p1), .val (.int p2)] [(.ref a0), (.int (p1 + (1 : Int32))), (.ref w), (.ref a0)])) (fun t k => ?_) ?_
  · show Steps p.tables e below (T_3.setTop (mkF m 14 #[.val (.ref a0), .val (.int p1), .val (.int p2)] [(.ref w), (.ref a0)])) _
    refine XS.iloadN X_3.here hx rfl (hb hby d4_14) rfl ?_
    show Steps p.tables e below (T_3.setTop (mkF m 15 #[.val (.ref a0), .val (.int p1), .val (.int p2)] [(.int p1), (.ref w), (.ref a0)])) _
    refine XS.iconst X_3.here hx rfl (hb hby d4_15) ?_
    show Steps p.tables e below (T_3.setTop (mkF m 16 #[.val (.ref a0), .val (.int p1), .val (.int p2)] [(.int (1 : Int32)), (.int p1), (.ref w), (.ref a0)])) _
    refine XS.iadd X_3.here hx rfl (hb hby d4_16) rfl ?_
    show Steps p.tables e below (T_3.setTop (mkF m 17 #[.val (.ref a0), .val (.int p1), .val (.int p2)] [(.int (p1 + (1 : Int32))), (.ref w), (.ref a0)])) _
    refine XS.aloadN X_3.here hx rfl (hb hby d4_17) rfl rfl ?_
    exact k
  obtain ⟨T_4, X_4, e_4, st_4⟩ := getF X_3 hx hZ hown (host := "") (Or.inl (hw _ (List.mem_of_getElem? (i := 11) rfl))) Via.refl e_3 F_lengths_a0 (g := (mkF m 18 #[.val (.ref a0), .val (.int p1), .val (.int p2)] [(.ref a0), (.int (p1 + (1 : Int32))), (.ref w), (.ref a0)])) rfl rfl (hb hby d4_18)
  refine own_go (B := T_4.setTop (mkF m 21 #[.val (.ref a0), .val (.int p1), .val (.int p2)] [(.ref w), (.int (p1 + (1 : Int32))), (.ref w), (.ref a0)])) (fun t k => st_4 t k) ?_
  obtain ⟨cl_5, Ar_5, -, S_5, M_5, -, -⟩ := id V0
  refine own_go (B := T_4.setTop (mkF m 22 #[.val (.ref a0), .val (.int p1), .val (.int p2)] [(.int z), (.int (p1 + (1 : Int32))), (.ref w), (.ref a0)])) (fun t k => X_4.arraylength hx (by rw [(e_4 : _ = _)]; exact Ar_5.1) (State.isArrayOf_alike hZ.alike Ar_5.2.1) (g := (mkF m 21 #[.val (.ref a0), .val (.int p1), .val (.int p2)] [(.ref w), (.int (p1 + (1 : Int32))), (.ref w), (.ref a0)])) rfl rfl (hb hby d4_21) t (by rw [len_of S_5 M_5]; exact k)) ?_
  refine own_go (B := T_4.setTop (mkF m 24 #[.val (.ref a0), .val (.int p1), .val (.int p2)] [(.int (z * (2 : Int32))), (.int (p1 + (1 : Int32))), (.ref w), (.ref a0)])) (fun t k => ?_) ?_
  · show Steps p.tables e below (T_4.setTop (mkF m 22 #[.val (.ref a0), .val (.int p1), .val (.int p2)] [(.int z), (.int (p1 + (1 : Int32))), (.ref w), (.ref a0)])) _
    refine XS.iconst X_4.here hx rfl (hb hby d4_22) ?_
    show Steps p.tables e below (T_4.setTop (mkF m 23 #[.val (.ref a0), .val (.int p1), .val (.int p2)] [(.int (2 : Int32)), (.int z), (.int (p1 + (1 : Int32))), (.ref w), (.ref a0)])) _
    refine XS.imul X_4.here hx rfl (hb hby d4_23) rfl ?_
    exact k
  obtain ⟨_, _, ⟨T_6, L_6, k_6, n_6⟩, -, X_6, ⟨Lc_6, hQ_6, l_6, y_6, z_6⟩, st_6⟩ := Jvm.LawKit.callS X_4 hx (y := (⟨"java/lang/Math", "max", "(II)I"⟩ : MethodName)) hown (mvT hZ (hw _ (List.mem_of_getElem? (i := 23) rfl))) (mvT hZ (hw _ (List.mem_of_getElem? (i := 24) rfl))) (mvT hZ (hw _ (List.mem_of_getElem? (i := 25) rfl))) (mvT hZ (hw _ (List.mem_of_getElem? (i := 26) rfl))) (by decide) (backOf (W := 2) (rm5 l Z av0 hw [] (p1 + (1 : Int32)) (z * (2 : Int32))  h0 n0 Z0 ) hZ (hw _ (List.mem_of_getElem? (i := 26) rfl)) (hw _ (List.mem_of_getElem? (i := 25) rfl)) (by decide) (by decide)) (g := (mkF m 24 #[.val (.ref a0), .val (.int p1), .val (.int p2)] [(.int (z * (2 : Int32))), (.int (p1 + (1 : Int32))), (.ref w), (.ref a0)])) rfl (by rw [hml]; rfl) (argsL := [(.int (p1 + (1 : Int32))), (.int (z * (2 : Int32)))]) (rest := [(.ref w), (.ref a0)]) (lenOf pd_0 rfl) rfl (by show 2 * 0 + _ ≤ _; exact Nat.le_of_eq rfl) (hb hby d4_24) (fun _ _ => ⟨rfl, e_4, (by decide : 0 + 0 ≤ _), (by decide : 0 + 0 ≤ _)⟩)
  dsimp only [Pt.U, Pt.locs, Pt.cells, Pt.slots] at X_6 l_6 y_6 z_6 st_6 hQ_6
  subst l_6 y_6 z_6
  obtain ⟨rfl, N_6q, e_6⟩ := hQ_6
  have N_6 := Fr.app N0 N_6q
  refine own_go (B := T_6.setTop (mkF m 27 #[.val (.ref a0), .val (.int p1), .val (.int p2)] [(.int (own_maxi (p1 + (1 : Int32)) (z * (2 : Int32)))), (.ref w), (.ref a0)])) (fun t k => st_6 t k) ?_
  have hN := own_new z p1 hz hge hcap hz8
  have hzi := hz; have hgi := hge; have hci := hcap; have h8i := hz8
  rw [own_i] at hzi hgi hci h8i
  have c0 : (0 : Int32).toInt = 0 := rfl
  have c9 : (9 : Int32).toInt = 9 := rfl
  have c16 : (16 : Int32).toInt = 16 := rfl
  have c17 : (17 : Int32).toInt = 17 := rfl
  have hA1 : z < (own_maxi (p1 + (1 : Int32)) (z * (2 : Int32))) := by rw [own_i]; omega
  have hA2 : (own_maxi (p1 + (1 : Int32)) (z * (2 : Int32))) < (17 : Int32) := by rw [own_i]; omega
  have hA3 : ¬ (own_maxi (p1 + (1 : Int32)) (z * (2 : Int32))) < (0 : Int32) := by rw [own_i]; omega
  have hA4 : ¬ ((own_maxi (p1 + (1 : Int32)) (z * (2 : Int32))) = z) := fun q => by rw [q] at hN; omega
  have ltE_7 := (E_a0).lt
  obtain ⟨_, _, ⟨T_7, L_7, k_7, n_7⟩, -, X_7, ⟨Lc_7, hQ_7, l_7, y_7, z_7⟩, st_7⟩ := Jvm.LawKit.callS X_6 hx (y := (⟨"java/util/Arrays", "copyOf", "([II)[I"⟩ : MethodName)) hown (mvT hZ (hw _ (List.mem_of_getElem? (i := 27) rfl))) (mvT hZ (hw _ (List.mem_of_getElem? (i := 28) rfl))) (mvT hZ (hw _ (List.mem_of_getElem? (i := 29) rfl))) (mvT hZ (hw _ (List.mem_of_getElem? (i := 30) rfl))) (by decide) (backOf (W := 1) (rm6 l Z av0 hw [] w (own_maxi (p1 + (1 : Int32)) (z * (2 : Int32))) kk z xs h0 n0 Z0 V0 hz hA1 hA2 hA3 hA4 hxs) hZ (hw _ (List.mem_of_getElem? (i := 30) rfl)) (hw _ (List.mem_of_getElem? (i := 29) rfl)) (by decide) (by decide)) (g := (mkF m 27 #[.val (.ref a0), .val (.int p1), .val (.int p2)] [(.int (own_maxi (p1 + (1 : Int32)) (z * (2 : Int32)))), (.ref w), (.ref a0)])) rfl (by rw [hml]; rfl) (argsL := [(.ref w), (.int (own_maxi (p1 + (1 : Int32)) (z * (2 : Int32))))]) (rest := [(.ref a0)]) (lenOf pd_1 rfl) rfl (by show 2 * 0 + _ ≤ _; exact Nat.le_of_eq rfl) (hb hby d4_27) (fun _ _ => ⟨rfl, e_6, (by decide : 0 + 1 ≤ _), (by decide : 0 + 16 ≤ _)⟩)
  dsimp only [Pt.U, Pt.locs, Pt.cells, Pt.slots] at X_7 l_7 y_7 z_7 st_7 hQ_7
  subst l_7 y_7 z_7
  obtain ⟨b_7, kb_7, rfl, N_7q, K_7, szq_7, V_7⟩ := hQ_7
  have N_7 := Fr.app N_6 N_7q
  have c1 : Keep h0 T_7.heap [a0] := K0.trans K_7 all0
  have c2 : Exa Z T_7.heap a0 "com/example/mudskipper/mudskipper/index/FieldLengths" := E_a0.keep K_7
  have c3 : Fld Z T_7.heap a0 "com/example/mudskipper/mudskipper/index/FieldLengths" "lengths" "[I" (.ref w) := F_lengths_a0.keep K_7 nin0
  have c4 := V0.keep K_7 nin0
  have Z0__7 : n0 ≤ T_7.heap.size := Nat.le_trans Z0 K_7.1
  have sz_b_7 : h0.size ≤ b_7 := Nat.le_trans K0.1 szq_7
  have g_b_7 : n0 ≤ b_7 := Nat.le_trans Z0 sz_b_7
  have ne_7 : a0 ≠ b_7 := Nat.ne_of_lt (Nat.lt_of_lt_of_le ltE_7 szq_7)
  refine own_go (B := T_7.setTop (mkF m 30 #[.val (.ref a0), .val (.int p1), .val (.int p2)] [(.ref b_7), (.ref a0)])) (fun t k => st_7 t k) ?_
  obtain ⟨T_8, h_8, X_8, e_8, W_8, st_8⟩ := putF X_7 hx hZ hown (host := "") (Or.inl (hw _ (List.mem_of_getElem? (i := 11) rfl))) Via.refl rfl c3 c2 (Or.inl (hw _ (List.mem_of_getElem? (i := 12) rfl))) (hw _ (List.mem_of_getElem? (i := 2) rfl)) (ty := (.array .int)) (by decide) rfl rfl (g := (mkF m 30 #[.val (.ref a0), .val (.int p1), .val (.int p2)] [(.ref b_7), (.ref a0)])) rfl rfl (hb hby d4_30)
  have c5 : Keep h0 h_8 [a0] := c1.wr W_8 (Or.inl (List.mem_of_getElem? (i := 0) rfl))
  have c6 : Exa Z h_8 a0 "com/example/mudskipper/mudskipper/index/FieldLengths" := c2.wr W_8
  have c7 : Fld Z h_8 a0 "com/example/mudskipper/mudskipper/index/FieldLengths" "lengths" "[I" (.ref b_7) := c3.same W_8
  have c8 := c4.other W_8 (Ne.symm hne)
  have c9 := V_7.other W_8 (Ne.symm ne_7)
  have N_8 := Fr.snoc X_8 N_7 g_a0
  have Z0__8 : n0 ≤ h_8.size := by rw [W_8.size]; exact Z0__7
  refine own_go (B := T_8.setTop (mkF m 33 #[.val (.ref a0), .val (.int p1), .val (.int p2)] [])) (fun t k => st_8 t k) ?_
  refine own_go (B := T_8.setTop (mkF m 34 #[.val (.ref a0), .val (.int p1), .val (.int p2)] [(.ref a0)])) (fun t k => ?_) ?_
  · show Steps p.tables e below (T_8.setTop (mkF m 33 #[.val (.ref a0), .val (.int p1), .val (.int p2)] [])) _
    refine XS.aloadN X_8.here hx rfl (hb hby d4_33) rfl rfl ?_
    exact k
  obtain ⟨T_9, X_9, e_9, st_9⟩ := getF X_8 hx hZ hown (host := "") (Or.inl (hw _ (List.mem_of_getElem? (i := 11) rfl))) Via.refl e_8 c7 (g := (mkF m 34 #[.val (.ref a0), .val (.int p1), .val (.int p2)] [(.ref a0)])) rfl rfl (hb hby d4_34)
  refine own_go (B := T_9.setTop (mkF m 37 #[.val (.ref a0), .val (.int p1), .val (.int p2)] [(.ref b_7)])) (fun t k => st_9 t k) ?_
  refine own_go (B := T_9.setTop (mkF m 39 #[.val (.ref a0), .val (.int p1), .val (.int p2)] [(.int p2), (.int p1), (.ref b_7)])) (fun t k => ?_) ?_
  · show Steps p.tables e below (T_9.setTop (mkF m 37 #[.val (.ref a0), .val (.int p1), .val (.int p2)] [(.ref b_7)])) _
    refine XS.iloadN X_9.here hx rfl (hb hby d4_37) rfl ?_
    show Steps p.tables e below (T_9.setTop (mkF m 38 #[.val (.ref a0), .val (.int p1), .val (.int p2)] [(.int p1), (.ref b_7)])) _
    refine XS.iloadN X_9.here hx rfl (hb hby d4_38) rfl ?_
    exact k
  obtain ⟨cl_10, Ar_10, q_10, S_10, M_10, H_10, G_10⟩ := id c9
  have hin_10 : ¬ (p1 < 0 ∨ cl_10.slots.size ≤ (p1).toNatClampNeg) := inb_of S_10 ⟨by rw [own_i]; omega, by rw [own_i]; omega⟩
  obtain ⟨T_10, h_10, X_10, e_10, W_10, st_10⟩ := stI X_9 hx hZ e_9 Ar_10 (j := p1) hin_10 (g := (mkF m 39 #[.val (.ref a0), .val (.int p1), .val (.int p2)] [(.int p2), (.int p1), (.ref b_7)])) rfl rfl (hb hby d4_39)
  have c10 : Keep h0 h_10 [a0] := c5.wr W_10 (Or.inr sz_b_7)
  have c11 : Exa Z h_10 a0 "com/example/mudskipper/mudskipper/index/FieldLengths" := c6.wr W_10
  have c12 : Fld Z h_10 a0 "com/example/mudskipper/mudskipper/index/FieldLengths" "lengths" "[I" (.ref b_7) := c7.other W_10 (Or.inl ne_7)
  have V_10 : Arv Z h_10 b_7 kb_7 .int (own_maxi (p1 + (1 : Int32)) (z * (2 : Int32))) (own_vs (own_put xs (p1).toNatClampNeg p2)) (.int (0 : Int32)) := by
    rw [← own_put_vs]
    obtain ⟨cx, Arx, qx, Sx, Mx, Hx, Gx⟩ := (c9).pad (pad_rep (own_vs xs) (.int (0 : Int32)) ((p1).toNatClampNeg + 1))
    have ec : cx = cl_10 := Option.some.inj (Arx.1.symm.trans Ar_10.1)
    subst ec
    exact Arv.set Arx qx Sx Mx Hx Gx rfl W_10 (p1).toNatClampNeg rfl (by simp; omega)
  have N_10 := Fr.snoc X_10 N_8 g_b_7
  have Z0__10 : n0 ≤ h_10.size := by rw [W_10.size]; exact Z0__8
  refine own_go (B := T_10.setTop (mkF m 40 #[.val (.ref a0), .val (.int p1), .val (.int p2)] [])) (fun t k => st_10 t k) ?_
  obtain ⟨fs, hr, hrun, hended, hW, hsame⟩ := X_10.leave (v := none) (fun _ => rfl)
  refine ⟨_, _, ?_, hrun, hended, _, _, rfl, ?_, ⟨_, rfl⟩, hW, hsame.mono (by decide) (by decide)⟩
  · show Steps p.tables e below (T_10.setTop (mkF m 40 #[.val (.ref a0), .val (.int p1), .val (.int p2)] [])) _
    exact X_10.returnOut hx Bd.returns (hb hby d4_40) hr
  · show Q4 Z a0 p1 p2 w kk z xs h0 n0 _ T_10.heap _
    rw [e_10]
    exact ⟨b_7, kb_7, rfl, N_10, c10, c12, sz_b_7, V_10⟩
theorem own_and (x : Int32) (m : Int32) (k : Nat) (hm : m.toBitVec.toNat = 2 ^ k - 1) (hk : k < 32) : 0 ≤ (x &&& m).toInt ∧ (x &&& m).toInt < 2 ^ k := by
  rw [Jvm.Kit.i32_mask x m hk hm]
  have h : (0 : Int) < 2 ^ k := Int.pow_pos (by decide)
  exact ⟨Int.emod_nonneg _ (by omega), Int.emod_lt_of_pos _ h⟩
theorem own_q (p z : Int32) (h : z = if (p &&& (32 : Int32)) = (0 : Int32) then (p &&& (31 : Int32)) else (p &&& (2147483647 : Int32))) : ¬ z < (0 : Int32) := by
  rw [own_i]
  have e0 : (0 : Int32).toInt = 0 := rfl
  have h1 := own_and p 31 5 rfl (by decide)
  have h2 := own_and p 2147483647 31 rfl (by decide)
  subst h; split <;> omega
theorem own_lt12 {n : Int32} (h : n < (1 : Int32)) : n < (2 : Int32) := by
  rw [own_i] at h ⊢
  have e1 : (1 : Int32).toInt = 1 := rfl
  have e2 : (2 : Int32).toInt = 2 := rfl
  omega
/-- the numbers of the law -/
theorem own_nums (x y : Int32) : 0 ≤ (x &&& (7 : Int32)).toInt ∧ (x &&& (7 : Int32)).toInt < 8 ∧ 0 ≤ (y &&& (7 : Int32)).toInt ∧ (y &&& (7 : Int32)).toInt < 8 ∧ (((x &&& (7 : Int32)) + (1 : Int32)) + (y &&& (7 : Int32))).toInt = (x &&& (7 : Int32)).toInt + 1 + (y &&& (7 : Int32)).toInt := by
  have h1 := own_and x 7 3 rfl (by decide)
  have h2 := own_and y 7 3 rfl (by decide)
  have e1 : (1 : Int32).toInt = 1 := rfl
  have a1 : ((x &&& 7) + 1).toInt = (x &&& 7).toInt + 1 := Jvm.Kit.i32_add (p := x &&& 7) (q := 1) (by omega) (by omega)
  have a2 : (((x &&& 7) + 1) + (y &&& 7)).toInt = ((x &&& 7) + 1).toInt + (y &&& 7).toInt := Jvm.Kit.i32_add (by omega) (by omega)
  omega
theorem own_len_0 (q : Int32) (hq : ¬ q < (0 : Int32)) : own_len (0 : Int32) [] q = 0 := by unfold own_len; rw [if_neg hq]
theorem own_len_p (z : Int32) (xs : List Int32) (a v q : Int32) (hq : ¬ q < (0 : Int32)) (ha : ¬ a < (0 : Int32)) (haz : a < z) : own_len z (own_put xs a.toNatClampNeg v) q = if q = a then v else if q < z then xs.getD q.toNatClampNeg 0 else 0 := by
  unfold own_len
  rw [own_put_get]
  have n1 := own_nat hq
  have n2 := own_nat ha
  by_cases h : q = a
  · subst h; simp [haz]
  · have h' : ¬ q.toNatClampNeg = a.toNatClampNeg := fun e => h (Int32.toInt_inj.mp (by omega))
    simp [h, h']
theorem own_last (z2 : Int32) (z1 : Int32) (a v q : Int32) (hq : ¬ q < (0 : Int32)) (ha : ¬ a < (0 : Int32)) (haz : a < z2) : (if q < z2 then (own_put [] a.toNatClampNeg v).getD q.toNatClampNeg 0 else 0) = if q = a then v else 0 := by
  have h := own_len_p z2 [] a v q hq ha haz
  unfold own_len at h
  rw [h]; simp
theorem pn_0 : plainName "com/example/mudskipper/mudskipper/index/FieldLengthsLengthPinLaw" = true := by first | (simp [plainName, overriddenIn]; done) | decide +kernel
theorem ef_0 (m : MethodId) (p0 : Int32) (p1 : Int32) (p2 : Int32) (p3 : Int32) (p4 : Int32) (p5 : Int32) : entryFrame m #[(.int p0), (.int p1), (.int p2), (.int p3), (.int p4), (.int p5)] maxLocals = mkF m 0 #[.val (.int p0), .val (.int p1), .val (.int p2), .val (.int p3), .val (.int p4), .val (.int p5), .unset, .unset, .unset, .unset, .unset, .unset] [] := by first | (simp [entryFrame, mkF, argsToLocals, Value.category, maxLocals]; done) | rfl
theorem pd_2 : parseMethodDescriptor "()V" = some ⟨[], none⟩ := by decide +kernel
theorem pd_3 : parseMethodDescriptor "(I)I" = some ⟨[.int], some .int⟩ := by decide +kernel
theorem pd_4 : parseMethodDescriptor "(II)V" = some ⟨[.int, .int], none⟩ := by decide +kernel
def Q0 (Z : State) (p0 : Int32) (p1 : Int32) (p2 : Int32) (p3 : Int32) (p4 : Int32) (p5 : Int32) (h0 : Heap) (n0 : Nat) (v : Option Value) (h : Heap) (L : List Loc) : Prop := v = some (.int 1) ∧ Fr n0 L ∧ True
set_option maxRecDepth 65536 in
set_option maxHeartbeats 40000000 in
theorem rm0 (l : Launch) (Z : State) (av0 : Array Value) (hw : ∀ d ∈ tables_1, d.before av0 Z = true) (ws : List Jvm.Cond) (p0 : Int32) (p1 : Int32) (p2 : Int32) (p3 : Int32) (p4 : Int32) (p5 : Int32) (h0 : Heap) (n0 : Nat) (Z0 : n0 ≤ h0.size) :
    MetFree l x (head1 (Jvm.Cond.code x code maxLocals ret :: ws) room_1) (fun a U => a = #[(.int p0), (.int p1), (.int p2), (.int p3), (.int p4), (.int p5)] ∧ Z.Warmed39 U.vm ∧ U.heap = h0) (fun _ _ _ _ _ => True) (fun _ U o U' => ∃ v L, o = .returned v ∧ Q0 Z p0 p1 p2 p3 p4 p5 h0 n0 v U'.heap L ∧ FrameEnd U o U' L room_1.cells room_1.slots) := by
  refine MetFree.of_bodySF (plainFor_of_name pn_0) hisR ?_
  intro p e s m args below meth c s₁ Bd hml0 hP hK
  obtain ⟨rfl, hZ, hh⟩ := hP
  have hx := Bd.exec
  have hby := Bd.bytes
  have hml : c.maxLocals = 12 := hml0
  have hown : s.vm.findClass "com/example/mudskipper/mudskipper/index/FieldLengthsLengthPinLaw" = some m.cls := findClass_of_methodNamed Bd.named
  have hnm := (name_of_methodNamed Bd.named Bd.method).1
  have X0 : Stand p l e room_1 s m #[(.int p0), (.int p1), (.int p2), (.int p3), (.int p4), (.int p5)] below meth c s₁ [] 0 0 := Stand.of_body Bd
  have e0 : s₁.heap = h0 := by rw [← hh, Bd.state]; rfl
  have N0 := Fr.nil n0
  have K0 : Keep h0 h0 [] := Keep.refl h0 []
  refine own_go (B := s₁.setTop (mkF m 0 #[.val (.int p0), .val (.int p1), .val (.int p2), .val (.int p3), .val (.int p4), .val (.int p5), .unset, .unset, .unset, .unset, .unset, .unset] [])) (fun t k => castTop (ef_0 m p0 p1 p2 p3 p4 p5) k) ?_
  refine own_go (B := s₁.setTop (mkF m 30 #[.val (.int p0), .val (.int p1), .val (.int p2), .val (.int p3), .val (.int p4), .val (.int p5), .val (.int ((p0 &&& (2147483647 : Int32)) - ((p0 &&& (2147483647 : Int32)) / (3 : Int32)) * (3 : Int32))), .val (.int (p1 &&& (7 : Int32))), .val (.int (((p1 &&& (7 : Int32)) + (1 : Int32)) + (p2 &&& (7 : Int32)))), .unset, .unset, .unset] [(.int (p5 &&& (32 : Int32)))])) (fun t k => ?_) ?_
  · show Steps p.tables e below (s₁.setTop (mkF m 0 #[.val (.int p0), .val (.int p1), .val (.int p2), .val (.int p3), .val (.int p4), .val (.int p5), .unset, .unset, .unset, .unset, .unset, .unset] [])) _
    refine XS.iloadN X0.here hx rfl (hb hby at_0) rfl ?_
    show Steps p.tables e below (s₁.setTop (mkF m 1 #[.val (.int p0), .val (.int p1), .val (.int p2), .val (.int p3), .val (.int p4), .val (.int p5), .unset, .unset, .unset, .unset, .unset, .unset] [(.int p0)])) _
    refine X0.ldcInt hx hown (mvT hZ (hw _ (List.mem_of_getElem? (i := 0) rfl))) (g := (mkF m 1 #[.val (.int p0), .val (.int p1), .val (.int p2), .val (.int p3), .val (.int p4), .val (.int p5), .unset, .unset, .unset, .unset, .unset, .unset] [(.int p0)])) rfl (hb hby at_1) _ ?_
    show Steps p.tables e below (s₁.setTop (mkF m 3 #[.val (.int p0), .val (.int p1), .val (.int p2), .val (.int p3), .val (.int p4), .val (.int p5), .unset, .unset, .unset, .unset, .unset, .unset] [(.int (2147483647 : Int32)), (.int p0)])) _
    refine XS.iand X0.here hx rfl (hb hby at_3) rfl ?_
    show Steps p.tables e below (s₁.setTop (mkF m 4 #[.val (.int p0), .val (.int p1), .val (.int p2), .val (.int p3), .val (.int p4), .val (.int p5), .unset, .unset, .unset, .unset, .unset, .unset] [(.int (p0 &&& (2147483647 : Int32)))])) _
    refine XS.iconst X0.here hx rfl (hb hby at_4) ?_
    show Steps p.tables e below (s₁.setTop (mkF m 5 #[.val (.int p0), .val (.int p1), .val (.int p2), .val (.int p3), .val (.int p4), .val (.int p5), .unset, .unset, .unset, .unset, .unset, .unset] [(.int (3 : Int32)), (.int (p0 &&& (2147483647 : Int32)))])) _
    refine XS.irem X0.here hx rfl (hb hby at_5) rfl (by decide) ?_
    show Steps p.tables e below (s₁.setTop (mkF m 6 #[.val (.int p0), .val (.int p1), .val (.int p2), .val (.int p3), .val (.int p4), .val (.int p5), .unset, .unset, .unset, .unset, .unset, .unset] [(.int ((p0 &&& (2147483647 : Int32)) - ((p0 &&& (2147483647 : Int32)) / (3 : Int32)) * (3 : Int32)))])) _
    refine XS.istore X0.here hx rfl (hb hby at_6) rfl (l' := #[.val (.int p0), .val (.int p1), .val (.int p2), .val (.int p3), .val (.int p4), .val (.int p5), .val (.int ((p0 &&& (2147483647 : Int32)) - ((p0 &&& (2147483647 : Int32)) / (3 : Int32)) * (3 : Int32))), .unset, .unset, .unset, .unset, .unset]) rfl ?_
    show Steps p.tables e below (s₁.setTop (mkF m 8 #[.val (.int p0), .val (.int p1), .val (.int p2), .val (.int p3), .val (.int p4), .val (.int p5), .val (.int ((p0 &&& (2147483647 : Int32)) - ((p0 &&& (2147483647 : Int32)) / (3 : Int32)) * (3 : Int32))), .unset, .unset, .unset, .unset, .unset] [])) _
    refine XS.iloadN X0.here hx rfl (hb hby at_8) rfl ?_
    show Steps p.tables e below (s₁.setTop (mkF m 9 #[.val (.int p0), .val (.int p1), .val (.int p2), .val (.int p3), .val (.int p4), .val (.int p5), .val (.int ((p0 &&& (2147483647 : Int32)) - ((p0 &&& (2147483647 : Int32)) / (3 : Int32)) * (3 : Int32))), .unset, .unset, .unset, .unset, .unset] [(.int p1)])) _
    refine XS.bipush X0.here hx rfl (hb hby at_9) ?_
    show Steps p.tables e below (s₁.setTop (mkF m 11 #[.val (.int p0), .val (.int p1), .val (.int p2), .val (.int p3), .val (.int p4), .val (.int p5), .val (.int ((p0 &&& (2147483647 : Int32)) - ((p0 &&& (2147483647 : Int32)) / (3 : Int32)) * (3 : Int32))), .unset, .unset, .unset, .unset, .unset] [(.int (7 : Int32)), (.int p1)])) _
    refine XS.iand X0.here hx rfl (hb hby at_11) rfl ?_
    show Steps p.tables e below (s₁.setTop (mkF m 12 #[.val (.int p0), .val (.int p1), .val (.int p2), .val (.int p3), .val (.int p4), .val (.int p5), .val (.int ((p0 &&& (2147483647 : Int32)) - ((p0 &&& (2147483647 : Int32)) / (3 : Int32)) * (3 : Int32))), .unset, .unset, .unset, .unset, .unset] [(.int (p1 &&& (7 : Int32)))])) _
    refine XS.istore X0.here hx rfl (hb hby at_12) rfl (l' := #[.val (.int p0), .val (.int p1), .val (.int p2), .val (.int p3), .val (.int p4), .val (.int p5), .val (.int ((p0 &&& (2147483647 : Int32)) - ((p0 &&& (2147483647 : Int32)) / (3 : Int32)) * (3 : Int32))), .val (.int (p1 &&& (7 : Int32))), .unset, .unset, .unset, .unset]) rfl ?_
    show Steps p.tables e below (s₁.setTop (mkF m 14 #[.val (.int p0), .val (.int p1), .val (.int p2), .val (.int p3), .val (.int p4), .val (.int p5), .val (.int ((p0 &&& (2147483647 : Int32)) - ((p0 &&& (2147483647 : Int32)) / (3 : Int32)) * (3 : Int32))), .val (.int (p1 &&& (7 : Int32))), .unset, .unset, .unset, .unset] [])) _
    refine XS.iload X0.here hx rfl (hb hby at_14) rfl ?_
    show Steps p.tables e below (s₁.setTop (mkF m 16 #[.val (.int p0), .val (.int p1), .val (.int p2), .val (.int p3), .val (.int p4), .val (.int p5), .val (.int ((p0 &&& (2147483647 : Int32)) - ((p0 &&& (2147483647 : Int32)) / (3 : Int32)) * (3 : Int32))), .val (.int (p1 &&& (7 : Int32))), .unset, .unset, .unset, .unset] [(.int (p1 &&& (7 : Int32)))])) _
    refine XS.iconst X0.here hx rfl (hb hby at_16) ?_
    show Steps p.tables e below (s₁.setTop (mkF m 17 #[.val (.int p0), .val (.int p1), .val (.int p2), .val (.int p3), .val (.int p4), .val (.int p5), .val (.int ((p0 &&& (2147483647 : Int32)) - ((p0 &&& (2147483647 : Int32)) / (3 : Int32)) * (3 : Int32))), .val (.int (p1 &&& (7 : Int32))), .unset, .unset, .unset, .unset] [(.int (1 : Int32)), (.int (p1 &&& (7 : Int32)))])) _
    refine XS.iadd X0.here hx rfl (hb hby at_17) rfl ?_
    show Steps p.tables e below (s₁.setTop (mkF m 18 #[.val (.int p0), .val (.int p1), .val (.int p2), .val (.int p3), .val (.int p4), .val (.int p5), .val (.int ((p0 &&& (2147483647 : Int32)) - ((p0 &&& (2147483647 : Int32)) / (3 : Int32)) * (3 : Int32))), .val (.int (p1 &&& (7 : Int32))), .unset, .unset, .unset, .unset] [(.int ((p1 &&& (7 : Int32)) + (1 : Int32)))])) _
    refine XS.iloadN X0.here hx rfl (hb hby at_18) rfl ?_
    show Steps p.tables e below (s₁.setTop (mkF m 19 #[.val (.int p0), .val (.int p1), .val (.int p2), .val (.int p3), .val (.int p4), .val (.int p5), .val (.int ((p0 &&& (2147483647 : Int32)) - ((p0 &&& (2147483647 : Int32)) / (3 : Int32)) * (3 : Int32))), .val (.int (p1 &&& (7 : Int32))), .unset, .unset, .unset, .unset] [(.int p2), (.int ((p1 &&& (7 : Int32)) + (1 : Int32)))])) _
    refine XS.bipush X0.here hx rfl (hb hby at_19) ?_
    show Steps p.tables e below (s₁.setTop (mkF m 21 #[.val (.int p0), .val (.int p1), .val (.int p2), .val (.int p3), .val (.int p4), .val (.int p5), .val (.int ((p0 &&& (2147483647 : Int32)) - ((p0 &&& (2147483647 : Int32)) / (3 : Int32)) * (3 : Int32))), .val (.int (p1 &&& (7 : Int32))), .unset, .unset, .unset, .unset] [(.int (7 : Int32)), (.int p2), (.int ((p1 &&& (7 : Int32)) + (1 : Int32)))])) _
    refine XS.iand X0.here hx rfl (hb hby at_21) rfl ?_
    show Steps p.tables e below (s₁.setTop (mkF m 22 #[.val (.int p0), .val (.int p1), .val (.int p2), .val (.int p3), .val (.int p4), .val (.int p5), .val (.int ((p0 &&& (2147483647 : Int32)) - ((p0 &&& (2147483647 : Int32)) / (3 : Int32)) * (3 : Int32))), .val (.int (p1 &&& (7 : Int32))), .unset, .unset, .unset, .unset] [(.int (p2 &&& (7 : Int32))), (.int ((p1 &&& (7 : Int32)) + (1 : Int32)))])) _
    refine XS.iadd X0.here hx rfl (hb hby at_22) rfl ?_
    show Steps p.tables e below (s₁.setTop (mkF m 23 #[.val (.int p0), .val (.int p1), .val (.int p2), .val (.int p3), .val (.int p4), .val (.int p5), .val (.int ((p0 &&& (2147483647 : Int32)) - ((p0 &&& (2147483647 : Int32)) / (3 : Int32)) * (3 : Int32))), .val (.int (p1 &&& (7 : Int32))), .unset, .unset, .unset, .unset] [(.int (((p1 &&& (7 : Int32)) + (1 : Int32)) + (p2 &&& (7 : Int32))))])) _
    refine XS.istore X0.here hx rfl (hb hby at_23) rfl (l' := #[.val (.int p0), .val (.int p1), .val (.int p2), .val (.int p3), .val (.int p4), .val (.int p5), .val (.int ((p0 &&& (2147483647 : Int32)) - ((p0 &&& (2147483647 : Int32)) / (3 : Int32)) * (3 : Int32))), .val (.int (p1 &&& (7 : Int32))), .val (.int (((p1 &&& (7 : Int32)) + (1 : Int32)) + (p2 &&& (7 : Int32)))), .unset, .unset, .unset]) rfl ?_
    show Steps p.tables e below (s₁.setTop (mkF m 25 #[.val (.int p0), .val (.int p1), .val (.int p2), .val (.int p3), .val (.int p4), .val (.int p5), .val (.int ((p0 &&& (2147483647 : Int32)) - ((p0 &&& (2147483647 : Int32)) / (3 : Int32)) * (3 : Int32))), .val (.int (p1 &&& (7 : Int32))), .val (.int (((p1 &&& (7 : Int32)) + (1 : Int32)) + (p2 &&& (7 : Int32)))), .unset, .unset, .unset] [])) _
    refine XS.iload X0.here hx rfl (hb hby at_25) rfl ?_
    show Steps p.tables e below (s₁.setTop (mkF m 27 #[.val (.int p0), .val (.int p1), .val (.int p2), .val (.int p3), .val (.int p4), .val (.int p5), .val (.int ((p0 &&& (2147483647 : Int32)) - ((p0 &&& (2147483647 : Int32)) / (3 : Int32)) * (3 : Int32))), .val (.int (p1 &&& (7 : Int32))), .val (.int (((p1 &&& (7 : Int32)) + (1 : Int32)) + (p2 &&& (7 : Int32)))), .unset, .unset, .unset] [(.int p5)])) _
    refine XS.bipush X0.here hx rfl (hb hby at_27) ?_
    show Steps p.tables e below (s₁.setTop (mkF m 29 #[.val (.int p0), .val (.int p1), .val (.int p2), .val (.int p3), .val (.int p4), .val (.int p5), .val (.int ((p0 &&& (2147483647 : Int32)) - ((p0 &&& (2147483647 : Int32)) / (3 : Int32)) * (3 : Int32))), .val (.int (p1 &&& (7 : Int32))), .val (.int (((p1 &&& (7 : Int32)) + (1 : Int32)) + (p2 &&& (7 : Int32)))), .unset, .unset, .unset] [(.int (32 : Int32)), (.int p5)])) _
    refine XS.iand X0.here hx rfl (hb hby at_29) rfl ?_
    exact k
  obtain ⟨zv1, hzv1⟩ : ∃ z : Int32, z = (if (p5 &&& (32 : Int32)) = (0 : Int32) then (p5 &&& (31 : Int32)) else (p5 &&& (2147483647 : Int32))) := ⟨_, rfl⟩
  refine own_go (B := s₁.setTop (mkF m 46 #[.val (.int p0), .val (.int p1), .val (.int p2), .val (.int p3), .val (.int p4), .val (.int p5), .val (.int ((p0 &&& (2147483647 : Int32)) - ((p0 &&& (2147483647 : Int32)) / (3 : Int32)) * (3 : Int32))), .val (.int (p1 &&& (7 : Int32))), .val (.int (((p1 &&& (7 : Int32)) + (1 : Int32)) + (p2 &&& (7 : Int32)))), .unset, .unset, .unset] [(.int zv1)])) (fun t k => ?_) ?_
  · show Steps p.tables e below (s₁.setTop (mkF m 30 #[.val (.int p0), .val (.int p1), .val (.int p2), .val (.int p3), .val (.int p4), .val (.int p5), .val (.int ((p0 &&& (2147483647 : Int32)) - ((p0 &&& (2147483647 : Int32)) / (3 : Int32)) * (3 : Int32))), .val (.int (p1 &&& (7 : Int32))), .val (.int (((p1 &&& (7 : Int32)) + (1 : Int32)) + (p2 &&& (7 : Int32)))), .unset, .unset, .unset] [(.int (p5 &&& (32 : Int32)))])) _
    by_cases hc30 : (p5 &&& (32 : Int32)) = (0 : Int32)
    · refine XS.ifYes X0.here hx rfl (pc0 := 30) (pc' := 41) rfl (hb hby at_30) rfl ((if0 _ _).trans (teq hc30).1) (by decide) (by decide) ?_
      show Steps p.tables e below (s₁.setTop (mkF m 41 #[.val (.int p0), .val (.int p1), .val (.int p2), .val (.int p3), .val (.int p4), .val (.int p5), .val (.int ((p0 &&& (2147483647 : Int32)) - ((p0 &&& (2147483647 : Int32)) / (3 : Int32)) * (3 : Int32))), .val (.int (p1 &&& (7 : Int32))), .val (.int (((p1 &&& (7 : Int32)) + (1 : Int32)) + (p2 &&& (7 : Int32)))), .unset, .unset, .unset] [])) _
      refine XS.iload X0.here hx rfl (hb hby at_41) rfl ?_
      show Steps p.tables e below (s₁.setTop (mkF m 43 #[.val (.int p0), .val (.int p1), .val (.int p2), .val (.int p3), .val (.int p4), .val (.int p5), .val (.int ((p0 &&& (2147483647 : Int32)) - ((p0 &&& (2147483647 : Int32)) / (3 : Int32)) * (3 : Int32))), .val (.int (p1 &&& (7 : Int32))), .val (.int (((p1 &&& (7 : Int32)) + (1 : Int32)) + (p2 &&& (7 : Int32)))), .unset, .unset, .unset] [(.int p5)])) _
      refine XS.bipush X0.here hx rfl (hb hby at_43) ?_
      show Steps p.tables e below (s₁.setTop (mkF m 45 #[.val (.int p0), .val (.int p1), .val (.int p2), .val (.int p3), .val (.int p4), .val (.int p5), .val (.int ((p0 &&& (2147483647 : Int32)) - ((p0 &&& (2147483647 : Int32)) / (3 : Int32)) * (3 : Int32))), .val (.int (p1 &&& (7 : Int32))), .val (.int (((p1 &&& (7 : Int32)) + (1 : Int32)) + (p2 &&& (7 : Int32)))), .unset, .unset, .unset] [(.int (31 : Int32)), (.int p5)])) _
      refine XS.iand X0.here hx rfl (hb hby at_45) rfl ?_
      show Steps p.tables e below (s₁.setTop (mkF m 46 #[.val (.int p0), .val (.int p1), .val (.int p2), .val (.int p3), .val (.int p4), .val (.int p5), .val (.int ((p0 &&& (2147483647 : Int32)) - ((p0 &&& (2147483647 : Int32)) / (3 : Int32)) * (3 : Int32))), .val (.int (p1 &&& (7 : Int32))), .val (.int (((p1 &&& (7 : Int32)) + (1 : Int32)) + (p2 &&& (7 : Int32)))), .unset, .unset, .unset] [(.int (p5 &&& (31 : Int32)))])) _
      rw [show zv1 = (p5 &&& (31 : Int32)) from by simp only [hzv1, if_pos hc30]] at k
      exact k
    · refine XS.ifNo X0.here hx rfl (hb hby at_30) rfl ((if0 _ _).trans (feq hc30).1) ?_
      show Steps p.tables e below (s₁.setTop (mkF m 33 #[.val (.int p0), .val (.int p1), .val (.int p2), .val (.int p3), .val (.int p4), .val (.int p5), .val (.int ((p0 &&& (2147483647 : Int32)) - ((p0 &&& (2147483647 : Int32)) / (3 : Int32)) * (3 : Int32))), .val (.int (p1 &&& (7 : Int32))), .val (.int (((p1 &&& (7 : Int32)) + (1 : Int32)) + (p2 &&& (7 : Int32)))), .unset, .unset, .unset] [])) _
      refine XS.iload X0.here hx rfl (hb hby at_33) rfl ?_
      show Steps p.tables e below (s₁.setTop (mkF m 35 #[.val (.int p0), .val (.int p1), .val (.int p2), .val (.int p3), .val (.int p4), .val (.int p5), .val (.int ((p0 &&& (2147483647 : Int32)) - ((p0 &&& (2147483647 : Int32)) / (3 : Int32)) * (3 : Int32))), .val (.int (p1 &&& (7 : Int32))), .val (.int (((p1 &&& (7 : Int32)) + (1 : Int32)) + (p2 &&& (7 : Int32)))), .unset, .unset, .unset] [(.int p5)])) _
      refine X0.ldcInt hx hown (mvT hZ (hw _ (List.mem_of_getElem? (i := 0) rfl))) (g := (mkF m 35 #[.val (.int p0), .val (.int p1), .val (.int p2), .val (.int p3), .val (.int p4), .val (.int p5), .val (.int ((p0 &&& (2147483647 : Int32)) - ((p0 &&& (2147483647 : Int32)) / (3 : Int32)) * (3 : Int32))), .val (.int (p1 &&& (7 : Int32))), .val (.int (((p1 &&& (7 : Int32)) + (1 : Int32)) + (p2 &&& (7 : Int32)))), .unset, .unset, .unset] [(.int p5)])) rfl (hb hby at_35) _ ?_
      show Steps p.tables e below (s₁.setTop (mkF m 37 #[.val (.int p0), .val (.int p1), .val (.int p2), .val (.int p3), .val (.int p4), .val (.int p5), .val (.int ((p0 &&& (2147483647 : Int32)) - ((p0 &&& (2147483647 : Int32)) / (3 : Int32)) * (3 : Int32))), .val (.int (p1 &&& (7 : Int32))), .val (.int (((p1 &&& (7 : Int32)) + (1 : Int32)) + (p2 &&& (7 : Int32)))), .unset, .unset, .unset] [(.int (2147483647 : Int32)), (.int p5)])) _
      refine XS.iand X0.here hx rfl (hb hby at_37) rfl ?_
      show Steps p.tables e below (s₁.setTop (mkF m 38 #[.val (.int p0), .val (.int p1), .val (.int p2), .val (.int p3), .val (.int p4), .val (.int p5), .val (.int ((p0 &&& (2147483647 : Int32)) - ((p0 &&& (2147483647 : Int32)) / (3 : Int32)) * (3 : Int32))), .val (.int (p1 &&& (7 : Int32))), .val (.int (((p1 &&& (7 : Int32)) + (1 : Int32)) + (p2 &&& (7 : Int32)))), .unset, .unset, .unset] [(.int (p5 &&& (2147483647 : Int32)))])) _
      refine XS.goto X0.here hx rfl (pc0 := 38) (pc' := 46) rfl (hb hby at_38) (by decide) (by decide) ?_
      show Steps p.tables e below (s₁.setTop (mkF m 46 #[.val (.int p0), .val (.int p1), .val (.int p2), .val (.int p3), .val (.int p4), .val (.int p5), .val (.int ((p0 &&& (2147483647 : Int32)) - ((p0 &&& (2147483647 : Int32)) / (3 : Int32)) * (3 : Int32))), .val (.int (p1 &&& (7 : Int32))), .val (.int (((p1 &&& (7 : Int32)) + (1 : Int32)) + (p2 &&& (7 : Int32)))), .unset, .unset, .unset] [(.int (p5 &&& (2147483647 : Int32)))])) _
      rw [show zv1 = (p5 &&& (2147483647 : Int32)) from by simp only [hzv1, if_neg hc30]] at k
      exact k
  refine own_go (B := s₁.setTop (mkF m 48 #[.val (.int p0), .val (.int p1), .val (.int p2), .val (.int p3), .val (.int p4), .val (.int p5), .val (.int ((p0 &&& (2147483647 : Int32)) - ((p0 &&& (2147483647 : Int32)) / (3 : Int32)) * (3 : Int32))), .val (.int (p1 &&& (7 : Int32))), .val (.int (((p1 &&& (7 : Int32)) + (1 : Int32)) + (p2 &&& (7 : Int32)))), .val (.int zv1), .unset, .unset] [])) (fun t k => ?_) ?_
  · show Steps p.tables e below (s₁.setTop (mkF m 46 #[.val (.int p0), .val (.int p1), .val (.int p2), .val (.int p3), .val (.int p4), .val (.int p5), .val (.int ((p0 &&& (2147483647 : Int32)) - ((p0 &&& (2147483647 : Int32)) / (3 : Int32)) * (3 : Int32))), .val (.int (p1 &&& (7 : Int32))), .val (.int (((p1 &&& (7 : Int32)) + (1 : Int32)) + (p2 &&& (7 : Int32)))), .unset, .unset, .unset] [(.int zv1)])) _
    refine XS.istore X0.here hx rfl (hb hby at_46) rfl (l' := #[.val (.int p0), .val (.int p1), .val (.int p2), .val (.int p3), .val (.int p4), .val (.int p5), .val (.int ((p0 &&& (2147483647 : Int32)) - ((p0 &&& (2147483647 : Int32)) / (3 : Int32)) * (3 : Int32))), .val (.int (p1 &&& (7 : Int32))), .val (.int (((p1 &&& (7 : Int32)) + (1 : Int32)) + (p2 &&& (7 : Int32)))), .val (.int zv1), .unset, .unset]) rfl ?_
    exact k
  have hq := own_q p5 zv1 hzv1
  obtain ⟨m1, m2, m3, m4, m5⟩ := own_nums p1 p2
  have c0 : (0 : Int32).toInt = 0 := rfl
  have c9 : (9 : Int32).toInt = 9 := rfl
  have c16 : (16 : Int32).toInt = 16 := rfl
  have mZ1 : ((own_maxi ((p1 &&& (7 : Int32)) + (1 : Int32)) ((0 : Int32) * (2 : Int32)))).toInt = ((p1 &&& (7 : Int32))).toInt + 1 := by rw [own_new 0 (p1 &&& (7 : Int32)) (by decide) (by rw [own_i]; omega) (by rw [own_i]; omega) (by decide)]; omega
  have mZ2 : ((own_maxi ((((p1 &&& (7 : Int32)) + (1 : Int32)) + (p2 &&& (7 : Int32))) + (1 : Int32)) ((own_maxi ((p1 &&& (7 : Int32)) + (1 : Int32)) ((0 : Int32) * (2 : Int32))) * (2 : Int32)))).toInt ≥ ((((p1 &&& (7 : Int32)) + (1 : Int32)) + (p2 &&& (7 : Int32)))).toInt + 1 := by rw [own_new (own_maxi ((p1 &&& (7 : Int32)) + (1 : Int32)) ((0 : Int32) * (2 : Int32))) (((p1 &&& (7 : Int32)) + (1 : Int32)) + (p2 &&& (7 : Int32))) (by rw [own_i]; omega) (by rw [own_i]; omega) (by rw [own_i]; omega) (by rw [own_i]; omega)]; omega
  have mA := own_nat (x := (p1 &&& (7 : Int32))) (by rw [own_i]; omega)
  have mZn := own_nat (x := (own_maxi ((p1 &&& (7 : Int32)) + (1 : Int32)) ((0 : Int32) * (2 : Int32)))) (by rw [own_i]; omega)
  have mB := own_nat (x := (((p1 &&& (7 : Int32)) + (1 : Int32)) + (p2 &&& (7 : Int32)))) (by rw [own_i]; omega)
  obtain ⟨T_1, h_1, X_1, e_1, E_1, A_1, D_1, -, st_1⟩ := newO X0 hx hZ hown (hw _ (List.mem_of_getElem? (i := 1) rfl)) (hw _ (List.mem_of_getElem? (i := 2) rfl)) (hw _ (List.mem_of_getElem? (i := 3) rfl)) e0 (g := (mkF m 48 #[.val (.int p0), .val (.int p1), .val (.int p2), .val (.int p3), .val (.int p4), .val (.int p5), .val (.int ((p0 &&& (2147483647 : Int32)) - ((p0 &&& (2147483647 : Int32)) / (3 : Int32)) * (3 : Int32))), .val (.int (p1 &&& (7 : Int32))), .val (.int (((p1 &&& (7 : Int32)) + (1 : Int32)) + (p2 &&& (7 : Int32)))), .val (.int zv1), .unset, .unset] [])) rfl (hb hby at_48) (by decide) (by decide)
  obtain ⟨b_1, g_1⟩ : ∃ z, z = h0.size := ⟨_, rfl⟩
  rw [← g_1] at A_1 D_1 st_1
  have g_b_1 : n0 ≤ b_1 := Nat.le_trans Z0 (Nat.le_of_eq g_1.symm)
  have sz_b_1 : h0.size ≤ b_1 := Nat.le_trans K0.1 (Nat.le_of_eq g_1.symm)
  have c1 : Keep h0 h_1 [] := K0.ext E_1
  have Z0__1 : n0 ≤ h_1.size := Nat.le_trans Z0 E_1.1
  have F_lengths_b_1 : Fld Z h_1 b_1 "com/example/mudskipper/mudskipper/index/FieldLengths" "lengths" "[I" .null := D_1 (Or.inl (hw _ (List.mem_of_getElem? (i := 12) rfl))) (ty := (.array .int)) (by decide)
  refine own_go (B := T_1.setTop (mkF m 51 #[.val (.int p0), .val (.int p1), .val (.int p2), .val (.int p3), .val (.int p4), .val (.int p5), .val (.int ((p0 &&& (2147483647 : Int32)) - ((p0 &&& (2147483647 : Int32)) / (3 : Int32)) * (3 : Int32))), .val (.int (p1 &&& (7 : Int32))), .val (.int (((p1 &&& (7 : Int32)) + (1 : Int32)) + (p2 &&& (7 : Int32)))), .val (.int zv1), .unset, .unset] [(.ref b_1)])) (fun t k => st_1 t k) ?_
  refine own_go (B := T_1.setTop (mkF m 52 #[.val (.int p0), .val (.int p1), .val (.int p2), .val (.int p3), .val (.int p4), .val (.int p5), .val (.int ((p0 &&& (2147483647 : Int32)) - ((p0 &&& (2147483647 : Int32)) / (3 : Int32)) * (3 : Int32))), .val (.int (p1 &&& (7 : Int32))), .val (.int (((p1 &&& (7 : Int32)) + (1 : Int32)) + (p2 &&& (7 : Int32)))), .val (.int zv1), .unset, .unset] [(.ref b_1), (.ref b_1)])) (fun t k => ?_) ?_
  · show Steps p.tables e below (T_1.setTop (mkF m 51 #[.val (.int p0), .val (.int p1), .val (.int p2), .val (.int p3), .val (.int p4), .val (.int p5), .val (.int ((p0 &&& (2147483647 : Int32)) - ((p0 &&& (2147483647 : Int32)) / (3 : Int32)) * (3 : Int32))), .val (.int (p1 &&& (7 : Int32))), .val (.int (((p1 &&& (7 : Int32)) + (1 : Int32)) + (p2 &&& (7 : Int32)))), .val (.int zv1), .unset, .unset] [(.ref b_1)])) _
    refine XS.dup X_1.here hx rfl (hb hby at_51) rfl rfl ?_
    exact k
  have lt_2 := (A_1).lt
  obtain ⟨_, _, ⟨T_2, L_2, k_2, n_2⟩, -, X_2, ⟨Lc_2, hQ_2, l_2, y_2, z_2⟩, st_2⟩ := X_1.specialBack hx (y := (⟨"com/example/mudskipper/mudskipper/index/FieldLengths", "<init>", "()V"⟩ : MethodName)) rfl hown (mvT hZ (hw _ (List.mem_of_getElem? (i := 4) rfl))) (mvT hZ (hw _ (List.mem_of_getElem? (i := 5) rfl))) (mvT hZ (hw _ (List.mem_of_getElem? (i := 6) rfl))) (by decide) (backOf (W := 1) (rm1 l Z av0 hw [] b_1 .null h_1 n0 Z0__1 A_1 F_lengths_b_1 g_b_1) hZ (hw _ (List.mem_of_getElem? (i := 6) rfl)) (hw _ (List.mem_of_getElem? (i := 3) rfl)) (by decide) (by decide)) (g := (mkF m 52 #[.val (.int p0), .val (.int p1), .val (.int p2), .val (.int p3), .val (.int p4), .val (.int p5), .val (.int ((p0 &&& (2147483647 : Int32)) - ((p0 &&& (2147483647 : Int32)) / (3 : Int32)) * (3 : Int32))), .val (.int (p1 &&& (7 : Int32))), .val (.int (((p1 &&& (7 : Int32)) + (1 : Int32)) + (p2 &&& (7 : Int32)))), .val (.int zv1), .unset, .unset] [(.ref b_1), (.ref b_1)])) rfl (by rw [hml]; rfl) (Steps.refl _) (a := b_1) (argsL := []) (rest := [(.ref b_1)]) (lenOf pd_2 rfl) rfl (by show 2 * 0 + _ ≤ _; exact Nat.le_of_eq rfl) (hb hby at_52) (fun _ _ => ⟨rfl, e_1, (by decide : 1 + 1 ≤ _), (by decide : 1 + 0 ≤ _)⟩)
  dsimp only [Pt.U, Pt.locs, Pt.cells, Pt.slots] at X_2 l_2 y_2 z_2 st_2 hQ_2
  subst l_2 y_2 z_2
  obtain ⟨w_2, kb_2, rfl, N_2q, K_2, F_2, szq_2, V_2⟩ := hQ_2
  have N_2 := Fr.app N0 N_2q
  have c2 : Keep h0 T_2.heap [] := c1.trans K_2 (allS (Or.inr sz_b_1) all0)
  have c3 : Exa Z T_2.heap b_1 "com/example/mudskipper/mudskipper/index/FieldLengths" := A_1.keep K_2
  have Z0__2 : n0 ≤ T_2.heap.size := Nat.le_trans Z0__1 K_2.1
  have ne_2 : b_1 ≠ w_2 := Nat.ne_of_lt (Nat.lt_of_lt_of_le lt_2 szq_2)
  refine own_go (B := T_2.setTop (mkF m 55 #[.val (.int p0), .val (.int p1), .val (.int p2), .val (.int p3), .val (.int p4), .val (.int p5), .val (.int ((p0 &&& (2147483647 : Int32)) - ((p0 &&& (2147483647 : Int32)) / (3 : Int32)) * (3 : Int32))), .val (.int (p1 &&& (7 : Int32))), .val (.int (((p1 &&& (7 : Int32)) + (1 : Int32)) + (p2 &&& (7 : Int32)))), .val (.int zv1), .unset, .unset] [(.ref b_1)])) (fun t k => st_2.trans k) ?_
  refine own_go (B := T_2.setTop (mkF m 60 #[.val (.int p0), .val (.int p1), .val (.int p2), .val (.int p3), .val (.int p4), .val (.int p5), .val (.int ((p0 &&& (2147483647 : Int32)) - ((p0 &&& (2147483647 : Int32)) / (3 : Int32)) * (3 : Int32))), .val (.int (p1 &&& (7 : Int32))), .val (.int (((p1 &&& (7 : Int32)) + (1 : Int32)) + (p2 &&& (7 : Int32)))), .val (.int zv1), .val (.ref b_1), .unset] [(.int (1 : Int32)), (.int ((p0 &&& (2147483647 : Int32)) - ((p0 &&& (2147483647 : Int32)) / (3 : Int32)) * (3 : Int32)))])) (fun t k => ?_) ?_
  · show Steps p.tables e below (T_2.setTop (mkF m 55 #[.val (.int p0), .val (.int p1), .val (.int p2), .val (.int p3), .val (.int p4), .val (.int p5), .val (.int ((p0 &&& (2147483647 : Int32)) - ((p0 &&& (2147483647 : Int32)) / (3 : Int32)) * (3 : Int32))), .val (.int (p1 &&& (7 : Int32))), .val (.int (((p1 &&& (7 : Int32)) + (1 : Int32)) + (p2 &&& (7 : Int32)))), .val (.int zv1), .unset, .unset] [(.ref b_1)])) _
    refine XS.astore X_2.here hx rfl (hb hby at_55) rfl rfl (l' := #[.val (.int p0), .val (.int p1), .val (.int p2), .val (.int p3), .val (.int p4), .val (.int p5), .val (.int ((p0 &&& (2147483647 : Int32)) - ((p0 &&& (2147483647 : Int32)) / (3 : Int32)) * (3 : Int32))), .val (.int (p1 &&& (7 : Int32))), .val (.int (((p1 &&& (7 : Int32)) + (1 : Int32)) + (p2 &&& (7 : Int32)))), .val (.int zv1), .val (.ref b_1), .unset]) rfl ?_
    show Steps p.tables e below (T_2.setTop (mkF m 57 #[.val (.int p0), .val (.int p1), .val (.int p2), .val (.int p3), .val (.int p4), .val (.int p5), .val (.int ((p0 &&& (2147483647 : Int32)) - ((p0 &&& (2147483647 : Int32)) / (3 : Int32)) * (3 : Int32))), .val (.int (p1 &&& (7 : Int32))), .val (.int (((p1 &&& (7 : Int32)) + (1 : Int32)) + (p2 &&& (7 : Int32)))), .val (.int zv1), .val (.ref b_1), .unset] [])) _
    refine XS.iload X_2.here hx rfl (hb hby at_57) rfl ?_
    show Steps p.tables e below (T_2.setTop (mkF m 59 #[.val (.int p0), .val (.int p1), .val (.int p2), .val (.int p3), .val (.int p4), .val (.int p5), .val (.int ((p0 &&& (2147483647 : Int32)) - ((p0 &&& (2147483647 : Int32)) / (3 : Int32)) * (3 : Int32))), .val (.int (p1 &&& (7 : Int32))), .val (.int (((p1 &&& (7 : Int32)) + (1 : Int32)) + (p2 &&& (7 : Int32)))), .val (.int zv1), .val (.ref b_1), .unset] [(.int ((p0 &&& (2147483647 : Int32)) - ((p0 &&& (2147483647 : Int32)) / (3 : Int32)) * (3 : Int32)))])) _
    refine XS.iconst X_2.here hx rfl (hb hby at_59) ?_
    exact k
  by_cases hc60 : ((p0 &&& (2147483647 : Int32)) - ((p0 &&& (2147483647 : Int32)) / (3 : Int32)) * (3 : Int32)) < (1 : Int32)
  · refine own_go (B := T_2.setTop (mkF m 71 #[.val (.int p0), .val (.int p1), .val (.int p2), .val (.int p3), .val (.int p4), .val (.int p5), .val (.int ((p0 &&& (2147483647 : Int32)) - ((p0 &&& (2147483647 : Int32)) / (3 : Int32)) * (3 : Int32))), .val (.int (p1 &&& (7 : Int32))), .val (.int (((p1 &&& (7 : Int32)) + (1 : Int32)) + (p2 &&& (7 : Int32)))), .val (.int zv1), .val (.ref b_1), .unset] [])) (fun t k => ?_) ?_
    · show Steps p.tables e below (T_2.setTop (mkF m 60 #[.val (.int p0), .val (.int p1), .val (.int p2), .val (.int p3), .val (.int p4), .val (.int p5), .val (.int ((p0 &&& (2147483647 : Int32)) - ((p0 &&& (2147483647 : Int32)) / (3 : Int32)) * (3 : Int32))), .val (.int (p1 &&& (7 : Int32))), .val (.int (((p1 &&& (7 : Int32)) + (1 : Int32)) + (p2 &&& (7 : Int32)))), .val (.int zv1), .val (.ref b_1), .unset] [(.int (1 : Int32)), (.int ((p0 &&& (2147483647 : Int32)) - ((p0 &&& (2147483647 : Int32)) / (3 : Int32)) * (3 : Int32)))])) _
      refine XS.icmpYes X_2.here hx rfl (pc0 := 60) (pc' := 71) rfl (hb hby at_60) rfl (tlt hc60).1 (by decide) (by decide) ?_
      exact k
    refine own_go (B := T_2.setTop (mkF m 74 #[.val (.int p0), .val (.int p1), .val (.int p2), .val (.int p3), .val (.int p4), .val (.int p5), .val (.int ((p0 &&& (2147483647 : Int32)) - ((p0 &&& (2147483647 : Int32)) / (3 : Int32)) * (3 : Int32))), .val (.int (p1 &&& (7 : Int32))), .val (.int (((p1 &&& (7 : Int32)) + (1 : Int32)) + (p2 &&& (7 : Int32)))), .val (.int zv1), .val (.ref b_1), .unset] [(.int (2 : Int32)), (.int ((p0 &&& (2147483647 : Int32)) - ((p0 &&& (2147483647 : Int32)) / (3 : Int32)) * (3 : Int32)))])) (fun t k => ?_) ?_
    · show Steps p.tables e below (T_2.setTop (mkF m 71 #[.val (.int p0), .val (.int p1), .val (.int p2), .val (.int p3), .val (.int p4), .val (.int p5), .val (.int ((p0 &&& (2147483647 : Int32)) - ((p0 &&& (2147483647 : Int32)) / (3 : Int32)) * (3 : Int32))), .val (.int (p1 &&& (7 : Int32))), .val (.int (((p1 &&& (7 : Int32)) + (1 : Int32)) + (p2 &&& (7 : Int32)))), .val (.int zv1), .val (.ref b_1), .unset] [])) _
      refine XS.iload X_2.here hx rfl (hb hby at_71) rfl ?_
      show Steps p.tables e below (T_2.setTop (mkF m 73 #[.val (.int p0), .val (.int p1), .val (.int p2), .val (.int p3), .val (.int p4), .val (.int p5), .val (.int ((p0 &&& (2147483647 : Int32)) - ((p0 &&& (2147483647 : Int32)) / (3 : Int32)) * (3 : Int32))), .val (.int (p1 &&& (7 : Int32))), .val (.int (((p1 &&& (7 : Int32)) + (1 : Int32)) + (p2 &&& (7 : Int32)))), .val (.int zv1), .val (.ref b_1), .unset] [(.int ((p0 &&& (2147483647 : Int32)) - ((p0 &&& (2147483647 : Int32)) / (3 : Int32)) * (3 : Int32)))])) _
      refine XS.iconst X_2.here hx rfl (hb hby at_73) ?_
      exact k
    refine own_go (B := T_2.setTop (mkF m 86 #[.val (.int p0), .val (.int p1), .val (.int p2), .val (.int p3), .val (.int p4), .val (.int p5), .val (.int ((p0 &&& (2147483647 : Int32)) - ((p0 &&& (2147483647 : Int32)) / (3 : Int32)) * (3 : Int32))), .val (.int (p1 &&& (7 : Int32))), .val (.int (((p1 &&& (7 : Int32)) + (1 : Int32)) + (p2 &&& (7 : Int32)))), .val (.int zv1), .val (.ref b_1), .unset] [])) (fun t k => ?_) ?_
    · show Steps p.tables e below (T_2.setTop (mkF m 74 #[.val (.int p0), .val (.int p1), .val (.int p2), .val (.int p3), .val (.int p4), .val (.int p5), .val (.int ((p0 &&& (2147483647 : Int32)) - ((p0 &&& (2147483647 : Int32)) / (3 : Int32)) * (3 : Int32))), .val (.int (p1 &&& (7 : Int32))), .val (.int (((p1 &&& (7 : Int32)) + (1 : Int32)) + (p2 &&& (7 : Int32)))), .val (.int zv1), .val (.ref b_1), .unset] [(.int (2 : Int32)), (.int ((p0 &&& (2147483647 : Int32)) - ((p0 &&& (2147483647 : Int32)) / (3 : Int32)) * (3 : Int32)))])) _
      refine XS.icmpYes X_2.here hx rfl (pc0 := 74) (pc' := 86) rfl (hb hby at_74) rfl (tlt (own_lt12 hc60)).1 (by decide) (by decide) ?_
      exact k
    refine own_go (B := T_2.setTop (mkF m 89 #[.val (.int p0), .val (.int p1), .val (.int p2), .val (.int p3), .val (.int p4), .val (.int p5), .val (.int ((p0 &&& (2147483647 : Int32)) - ((p0 &&& (2147483647 : Int32)) / (3 : Int32)) * (3 : Int32))), .val (.int (p1 &&& (7 : Int32))), .val (.int (((p1 &&& (7 : Int32)) + (1 : Int32)) + (p2 &&& (7 : Int32)))), .val (.int zv1), .val (.ref b_1), .unset] [(.int (2 : Int32)), (.int ((p0 &&& (2147483647 : Int32)) - ((p0 &&& (2147483647 : Int32)) / (3 : Int32)) * (3 : Int32)))])) (fun t k => ?_) ?_
    · show Steps p.tables e below (T_2.setTop (mkF m 86 #[.val (.int p0), .val (.int p1), .val (.int p2), .val (.int p3), .val (.int p4), .val (.int p5), .val (.int ((p0 &&& (2147483647 : Int32)) - ((p0 &&& (2147483647 : Int32)) / (3 : Int32)) * (3 : Int32))), .val (.int (p1 &&& (7 : Int32))), .val (.int (((p1 &&& (7 : Int32)) + (1 : Int32)) + (p2 &&& (7 : Int32)))), .val (.int zv1), .val (.ref b_1), .unset] [])) _
      refine XS.iload X_2.here hx rfl (hb hby at_86) rfl ?_
      show Steps p.tables e below (T_2.setTop (mkF m 88 #[.val (.int p0), .val (.int p1), .val (.int p2), .val (.int p3), .val (.int p4), .val (.int p5), .val (.int ((p0 &&& (2147483647 : Int32)) - ((p0 &&& (2147483647 : Int32)) / (3 : Int32)) * (3 : Int32))), .val (.int (p1 &&& (7 : Int32))), .val (.int (((p1 &&& (7 : Int32)) + (1 : Int32)) + (p2 &&& (7 : Int32)))), .val (.int zv1), .val (.ref b_1), .unset] [(.int ((p0 &&& (2147483647 : Int32)) - ((p0 &&& (2147483647 : Int32)) / (3 : Int32)) * (3 : Int32)))])) _
      refine XS.iconst X_2.here hx rfl (hb hby at_88) ?_
      exact k
    refine own_go (B := T_2.setTop (mkF m 106 #[.val (.int p0), .val (.int p1), .val (.int p2), .val (.int p3), .val (.int p4), .val (.int p5), .val (.int ((p0 &&& (2147483647 : Int32)) - ((p0 &&& (2147483647 : Int32)) / (3 : Int32)) * (3 : Int32))), .val (.int (p1 &&& (7 : Int32))), .val (.int (((p1 &&& (7 : Int32)) + (1 : Int32)) + (p2 &&& (7 : Int32)))), .val (.int zv1), .val (.ref b_1), .unset] [])) (fun t k => ?_) ?_
    · show Steps p.tables e below (T_2.setTop (mkF m 89 #[.val (.int p0), .val (.int p1), .val (.int p2), .val (.int p3), .val (.int p4), .val (.int p5), .val (.int ((p0 &&& (2147483647 : Int32)) - ((p0 &&& (2147483647 : Int32)) / (3 : Int32)) * (3 : Int32))), .val (.int (p1 &&& (7 : Int32))), .val (.int (((p1 &&& (7 : Int32)) + (1 : Int32)) + (p2 &&& (7 : Int32)))), .val (.int zv1), .val (.ref b_1), .unset] [(.int (2 : Int32)), (.int ((p0 &&& (2147483647 : Int32)) - ((p0 &&& (2147483647 : Int32)) / (3 : Int32)) * (3 : Int32)))])) _
      refine XS.icmpYes X_2.here hx rfl (pc0 := 89) (pc' := 106) rfl (hb hby at_89) rfl (tlt (own_lt12 hc60)).1 (by decide) (by decide) ?_
      exact k
    refine own_go (B := T_2.setTop (mkF m 109 #[.val (.int p0), .val (.int p1), .val (.int p2), .val (.int p3), .val (.int p4), .val (.int p5), .val (.int ((p0 &&& (2147483647 : Int32)) - ((p0 &&& (2147483647 : Int32)) / (3 : Int32)) * (3 : Int32))), .val (.int (p1 &&& (7 : Int32))), .val (.int (((p1 &&& (7 : Int32)) + (1 : Int32)) + (p2 &&& (7 : Int32)))), .val (.int zv1), .val (.ref b_1), .unset] [(.int (1 : Int32)), (.int ((p0 &&& (2147483647 : Int32)) - ((p0 &&& (2147483647 : Int32)) / (3 : Int32)) * (3 : Int32)))])) (fun t k => ?_) ?_
    · show Steps p.tables e below (T_2.setTop (mkF m 106 #[.val (.int p0), .val (.int p1), .val (.int p2), .val (.int p3), .val (.int p4), .val (.int p5), .val (.int ((p0 &&& (2147483647 : Int32)) - ((p0 &&& (2147483647 : Int32)) / (3 : Int32)) * (3 : Int32))), .val (.int (p1 &&& (7 : Int32))), .val (.int (((p1 &&& (7 : Int32)) + (1 : Int32)) + (p2 &&& (7 : Int32)))), .val (.int zv1), .val (.ref b_1), .unset] [])) _
      refine XS.iload X_2.here hx rfl (hb hby at_106) rfl ?_
      show Steps p.tables e below (T_2.setTop (mkF m 108 #[.val (.int p0), .val (.int p1), .val (.int p2), .val (.int p3), .val (.int p4), .val (.int p5), .val (.int ((p0 &&& (2147483647 : Int32)) - ((p0 &&& (2147483647 : Int32)) / (3 : Int32)) * (3 : Int32))), .val (.int (p1 &&& (7 : Int32))), .val (.int (((p1 &&& (7 : Int32)) + (1 : Int32)) + (p2 &&& (7 : Int32)))), .val (.int zv1), .val (.ref b_1), .unset] [(.int ((p0 &&& (2147483647 : Int32)) - ((p0 &&& (2147483647 : Int32)) / (3 : Int32)) * (3 : Int32)))])) _
      refine XS.iconst X_2.here hx rfl (hb hby at_108) ?_
      exact k
    refine own_go (B := T_2.setTop (mkF m 125 #[.val (.int p0), .val (.int p1), .val (.int p2), .val (.int p3), .val (.int p4), .val (.int p5), .val (.int ((p0 &&& (2147483647 : Int32)) - ((p0 &&& (2147483647 : Int32)) / (3 : Int32)) * (3 : Int32))), .val (.int (p1 &&& (7 : Int32))), .val (.int (((p1 &&& (7 : Int32)) + (1 : Int32)) + (p2 &&& (7 : Int32)))), .val (.int zv1), .val (.ref b_1), .unset] [])) (fun t k => ?_) ?_
    · show Steps p.tables e below (T_2.setTop (mkF m 109 #[.val (.int p0), .val (.int p1), .val (.int p2), .val (.int p3), .val (.int p4), .val (.int p5), .val (.int ((p0 &&& (2147483647 : Int32)) - ((p0 &&& (2147483647 : Int32)) / (3 : Int32)) * (3 : Int32))), .val (.int (p1 &&& (7 : Int32))), .val (.int (((p1 &&& (7 : Int32)) + (1 : Int32)) + (p2 &&& (7 : Int32)))), .val (.int zv1), .val (.ref b_1), .unset] [(.int (1 : Int32)), (.int ((p0 &&& (2147483647 : Int32)) - ((p0 &&& (2147483647 : Int32)) / (3 : Int32)) * (3 : Int32)))])) _
      refine XS.icmpYes X_2.here hx rfl (pc0 := 109) (pc' := 125) rfl (hb hby at_109) rfl (tlt hc60).1 (by decide) (by decide) ?_
      exact k
    refine own_go (B := T_2.setTop (mkF m 132 #[.val (.int p0), .val (.int p1), .val (.int p2), .val (.int p3), .val (.int p4), .val (.int p5), .val (.int ((p0 &&& (2147483647 : Int32)) - ((p0 &&& (2147483647 : Int32)) / (3 : Int32)) * (3 : Int32))), .val (.int (p1 &&& (7 : Int32))), .val (.int (((p1 &&& (7 : Int32)) + (1 : Int32)) + (p2 &&& (7 : Int32)))), .val (.int zv1), .val (.ref b_1), .val (.int (0 : Int32))] [(.int zv1), (.ref b_1)])) (fun t k => ?_) ?_
    · show Steps p.tables e below (T_2.setTop (mkF m 125 #[.val (.int p0), .val (.int p1), .val (.int p2), .val (.int p3), .val (.int p4), .val (.int p5), .val (.int ((p0 &&& (2147483647 : Int32)) - ((p0 &&& (2147483647 : Int32)) / (3 : Int32)) * (3 : Int32))), .val (.int (p1 &&& (7 : Int32))), .val (.int (((p1 &&& (7 : Int32)) + (1 : Int32)) + (p2 &&& (7 : Int32)))), .val (.int zv1), .val (.ref b_1), .unset] [])) _
      refine XS.iconst X_2.here hx rfl (hb hby at_125) ?_
      show Steps p.tables e below (T_2.setTop (mkF m 126 #[.val (.int p0), .val (.int p1), .val (.int p2), .val (.int p3), .val (.int p4), .val (.int p5), .val (.int ((p0 &&& (2147483647 : Int32)) - ((p0 &&& (2147483647 : Int32)) / (3 : Int32)) * (3 : Int32))), .val (.int (p1 &&& (7 : Int32))), .val (.int (((p1 &&& (7 : Int32)) + (1 : Int32)) + (p2 &&& (7 : Int32)))), .val (.int zv1), .val (.ref b_1), .unset] [(.int (0 : Int32))])) _
      refine XS.istore X_2.here hx rfl (hb hby at_126) rfl (l' := #[.val (.int p0), .val (.int p1), .val (.int p2), .val (.int p3), .val (.int p4), .val (.int p5), .val (.int ((p0 &&& (2147483647 : Int32)) - ((p0 &&& (2147483647 : Int32)) / (3 : Int32)) * (3 : Int32))), .val (.int (p1 &&& (7 : Int32))), .val (.int (((p1 &&& (7 : Int32)) + (1 : Int32)) + (p2 &&& (7 : Int32)))), .val (.int zv1), .val (.ref b_1), .val (.int (0 : Int32))]) rfl ?_
      show Steps p.tables e below (T_2.setTop (mkF m 128 #[.val (.int p0), .val (.int p1), .val (.int p2), .val (.int p3), .val (.int p4), .val (.int p5), .val (.int ((p0 &&& (2147483647 : Int32)) - ((p0 &&& (2147483647 : Int32)) / (3 : Int32)) * (3 : Int32))), .val (.int (p1 &&& (7 : Int32))), .val (.int (((p1 &&& (7 : Int32)) + (1 : Int32)) + (p2 &&& (7 : Int32)))), .val (.int zv1), .val (.ref b_1), .val (.int (0 : Int32))] [])) _
      refine XS.aload X_2.here hx rfl (hb hby at_128) rfl rfl ?_
      show Steps p.tables e below (T_2.setTop (mkF m 130 #[.val (.int p0), .val (.int p1), .val (.int p2), .val (.int p3), .val (.int p4), .val (.int p5), .val (.int ((p0 &&& (2147483647 : Int32)) - ((p0 &&& (2147483647 : Int32)) / (3 : Int32)) * (3 : Int32))), .val (.int (p1 &&& (7 : Int32))), .val (.int (((p1 &&& (7 : Int32)) + (1 : Int32)) + (p2 &&& (7 : Int32)))), .val (.int zv1), .val (.ref b_1), .val (.int (0 : Int32))] [(.ref b_1)])) _
      refine XS.iload X_2.here hx rfl (hb hby at_130) rfl ?_
      exact k
    obtain ⟨cq_3, kq_3, q_3a, q_3b, q_3c⟩ := isOf hZ rfl c3
    obtain ⟨_, _, ⟨T_3, L_3, k_3, n_3⟩, -, X_3, ⟨Lc_3, hQ_3, l_3, y_3, z_3⟩, st_3⟩ := X_2.virtualBack hx (y := (⟨"com/example/mudskipper/mudskipper/index/FieldLengths", "length", "(I)I"⟩ : MethodName)) (z := (⟨"com/example/mudskipper/mudskipper/index/FieldLengths", "length", "(I)I"⟩ : MethodName)) hown (mvT hZ (hw _ (List.mem_of_getElem? (i := 13) rfl))) (mvT hZ (hw _ (List.mem_of_getElem? (i := 14) rfl))) (notFace_of_selects (args := #[]) (mvT hZ (hw _ (List.mem_of_getElem? (i := 16) rfl)))) (mvT hZ (hw _ (List.mem_of_getElem? (i := 16) rfl))) (mvT hZ (hw _ (List.mem_of_getElem? (i := 15) rfl))) (by decide) (backOf (W := 0) (rm3 l Z av0 hw [] b_1 zv1 w_2 kb_2 (0 : Int32) [] T_2.heap n0 Z0__2 F_2 V_2 hq) hZ (hw _ (List.mem_of_getElem? (i := 17) rfl)) (hw _ (List.mem_of_getElem? (i := 3) rfl)) (by decide) (by decide)) q_3a q_3c (g := (mkF m 132 #[.val (.int p0), .val (.int p1), .val (.int p2), .val (.int p3), .val (.int p4), .val (.int p5), .val (.int ((p0 &&& (2147483647 : Int32)) - ((p0 &&& (2147483647 : Int32)) / (3 : Int32)) * (3 : Int32))), .val (.int (p1 &&& (7 : Int32))), .val (.int (((p1 &&& (7 : Int32)) + (1 : Int32)) + (p2 &&& (7 : Int32)))), .val (.int zv1), .val (.ref b_1), .val (.int (0 : Int32))] [(.int zv1), (.ref b_1)])) rfl (by rw [hml]; rfl) (Steps.refl _) (argsL := [(.int zv1)]) (rest := []) (lenOf pd_3 rfl) rfl (by show 2 * 0 + _ ≤ _; exact Nat.le_of_eq rfl) (hb hby at_132) (fun _ _ => ⟨rfl, rfl, (by decide : 2 + 0 ≤ _), (by decide : 1 + 0 ≤ _)⟩)
    dsimp only [Pt.U, Pt.locs, Pt.cells, Pt.slots] at X_3 l_3 y_3 z_3 st_3 hQ_3
    subst l_3 y_3 z_3
    obtain ⟨rfl, N_3q, e_3⟩ := hQ_3
    have N_3 := Fr.app N_2 N_3q
    refine own_go (B := T_3.setTop (mkF m 135 #[.val (.int p0), .val (.int p1), .val (.int p2), .val (.int p3), .val (.int p4), .val (.int p5), .val (.int ((p0 &&& (2147483647 : Int32)) - ((p0 &&& (2147483647 : Int32)) / (3 : Int32)) * (3 : Int32))), .val (.int (p1 &&& (7 : Int32))), .val (.int (((p1 &&& (7 : Int32)) + (1 : Int32)) + (p2 &&& (7 : Int32)))), .val (.int zv1), .val (.ref b_1), .val (.int (0 : Int32))] [(.int (own_len (0 : Int32) [] zv1))])) (fun t k => st_3.trans k) ?_
    refine own_go (B := T_3.setTop (mkF m 137 #[.val (.int p0), .val (.int p1), .val (.int p2), .val (.int p3), .val (.int p4), .val (.int p5), .val (.int ((p0 &&& (2147483647 : Int32)) - ((p0 &&& (2147483647 : Int32)) / (3 : Int32)) * (3 : Int32))), .val (.int (p1 &&& (7 : Int32))), .val (.int (((p1 &&& (7 : Int32)) + (1 : Int32)) + (p2 &&& (7 : Int32)))), .val (.int zv1), .val (.ref b_1), .val (.int (0 : Int32))] [(.int (0 : Int32)), (.int (own_len (0 : Int32) [] zv1))])) (fun t k => ?_) ?_
    · show Steps p.tables e below (T_3.setTop (mkF m 135 #[.val (.int p0), .val (.int p1), .val (.int p2), .val (.int p3), .val (.int p4), .val (.int p5), .val (.int ((p0 &&& (2147483647 : Int32)) - ((p0 &&& (2147483647 : Int32)) / (3 : Int32)) * (3 : Int32))), .val (.int (p1 &&& (7 : Int32))), .val (.int (((p1 &&& (7 : Int32)) + (1 : Int32)) + (p2 &&& (7 : Int32)))), .val (.int zv1), .val (.ref b_1), .val (.int (0 : Int32))] [(.int (own_len (0 : Int32) [] zv1))])) _
      refine XS.iload X_3.here hx rfl (hb hby at_135) rfl ?_
      exact k
    obtain ⟨zv2, hzv2⟩ : ∃ z : Int32, z = (if (own_len (0 : Int32) [] zv1) = (0 : Int32) then (1 : Int32) else (0 : Int32)) := ⟨_, rfl⟩
    refine own_go (B := T_3.setTop (mkF m 145 #[.val (.int p0), .val (.int p1), .val (.int p2), .val (.int p3), .val (.int p4), .val (.int p5), .val (.int ((p0 &&& (2147483647 : Int32)) - ((p0 &&& (2147483647 : Int32)) / (3 : Int32)) * (3 : Int32))), .val (.int (p1 &&& (7 : Int32))), .val (.int (((p1 &&& (7 : Int32)) + (1 : Int32)) + (p2 &&& (7 : Int32)))), .val (.int zv1), .val (.ref b_1), .val (.int (0 : Int32))] [(.int zv2)])) (fun t k => ?_) ?_
    · show Steps p.tables e below (T_3.setTop (mkF m 137 #[.val (.int p0), .val (.int p1), .val (.int p2), .val (.int p3), .val (.int p4), .val (.int p5), .val (.int ((p0 &&& (2147483647 : Int32)) - ((p0 &&& (2147483647 : Int32)) / (3 : Int32)) * (3 : Int32))), .val (.int (p1 &&& (7 : Int32))), .val (.int (((p1 &&& (7 : Int32)) + (1 : Int32)) + (p2 &&& (7 : Int32)))), .val (.int zv1), .val (.ref b_1), .val (.int (0 : Int32))] [(.int (0 : Int32)), (.int (own_len (0 : Int32) [] zv1))])) _
      by_cases hc137 : (own_len (0 : Int32) [] zv1) = (0 : Int32)
      · refine XS.icmpNo X_3.here hx rfl (hb hby at_137) rfl (teq hc137).2 ?_
        show Steps p.tables e below (T_3.setTop (mkF m 140 #[.val (.int p0), .val (.int p1), .val (.int p2), .val (.int p3), .val (.int p4), .val (.int p5), .val (.int ((p0 &&& (2147483647 : Int32)) - ((p0 &&& (2147483647 : Int32)) / (3 : Int32)) * (3 : Int32))), .val (.int (p1 &&& (7 : Int32))), .val (.int (((p1 &&& (7 : Int32)) + (1 : Int32)) + (p2 &&& (7 : Int32)))), .val (.int zv1), .val (.ref b_1), .val (.int (0 : Int32))] [])) _
        refine XS.iconst X_3.here hx rfl (hb hby at_140) ?_
        show Steps p.tables e below (T_3.setTop (mkF m 141 #[.val (.int p0), .val (.int p1), .val (.int p2), .val (.int p3), .val (.int p4), .val (.int p5), .val (.int ((p0 &&& (2147483647 : Int32)) - ((p0 &&& (2147483647 : Int32)) / (3 : Int32)) * (3 : Int32))), .val (.int (p1 &&& (7 : Int32))), .val (.int (((p1 &&& (7 : Int32)) + (1 : Int32)) + (p2 &&& (7 : Int32)))), .val (.int zv1), .val (.ref b_1), .val (.int (0 : Int32))] [(.int (1 : Int32))])) _
        refine XS.goto X_3.here hx rfl (pc0 := 141) (pc' := 145) rfl (hb hby at_141) (by decide) (by decide) ?_
        show Steps p.tables e below (T_3.setTop (mkF m 145 #[.val (.int p0), .val (.int p1), .val (.int p2), .val (.int p3), .val (.int p4), .val (.int p5), .val (.int ((p0 &&& (2147483647 : Int32)) - ((p0 &&& (2147483647 : Int32)) / (3 : Int32)) * (3 : Int32))), .val (.int (p1 &&& (7 : Int32))), .val (.int (((p1 &&& (7 : Int32)) + (1 : Int32)) + (p2 &&& (7 : Int32)))), .val (.int zv1), .val (.ref b_1), .val (.int (0 : Int32))] [(.int (1 : Int32))])) _
        rw [show zv2 = (1 : Int32) from by simp only [hzv2, if_pos hc137]] at k
        exact k
      · refine XS.icmpYes X_3.here hx rfl (pc0 := 137) (pc' := 144) rfl (hb hby at_137) rfl (feq hc137).2 (by decide) (by decide) ?_
        show Steps p.tables e below (T_3.setTop (mkF m 144 #[.val (.int p0), .val (.int p1), .val (.int p2), .val (.int p3), .val (.int p4), .val (.int p5), .val (.int ((p0 &&& (2147483647 : Int32)) - ((p0 &&& (2147483647 : Int32)) / (3 : Int32)) * (3 : Int32))), .val (.int (p1 &&& (7 : Int32))), .val (.int (((p1 &&& (7 : Int32)) + (1 : Int32)) + (p2 &&& (7 : Int32)))), .val (.int zv1), .val (.ref b_1), .val (.int (0 : Int32))] [])) _
        refine XS.iconst X_3.here hx rfl (hb hby at_144) ?_
        show Steps p.tables e below (T_3.setTop (mkF m 145 #[.val (.int p0), .val (.int p1), .val (.int p2), .val (.int p3), .val (.int p4), .val (.int p5), .val (.int ((p0 &&& (2147483647 : Int32)) - ((p0 &&& (2147483647 : Int32)) / (3 : Int32)) * (3 : Int32))), .val (.int (p1 &&& (7 : Int32))), .val (.int (((p1 &&& (7 : Int32)) + (1 : Int32)) + (p2 &&& (7 : Int32)))), .val (.int zv1), .val (.ref b_1), .val (.int (0 : Int32))] [(.int (0 : Int32))])) _
        rw [show zv2 = (0 : Int32) from by simp only [hzv2, if_neg hc137]] at k
        exact k
    obtain ⟨fs, hr, hrun, hended, hW, hsame⟩ := X_3.leave (v := some (.int (nar .boolean zv2))) (fun h => by rw [Bd.returns] at h; cases h)
    refine ⟨_, _, ?_, hrun, hended, _, _, rfl, ?_, ⟨_, rfl⟩, hW, hsame.mono (by decide) (by decide)⟩
    · show Steps p.tables e below (T_3.setTop (mkF m 145 #[.val (.int p0), .val (.int p1), .val (.int p2), .val (.int p3), .val (.int p4), .val (.int p5), .val (.int ((p0 &&& (2147483647 : Int32)) - ((p0 &&& (2147483647 : Int32)) / (3 : Int32)) * (3 : Int32))), .val (.int (p1 &&& (7 : Int32))), .val (.int (((p1 &&& (7 : Int32)) + (1 : Int32)) + (p2 &&& (7 : Int32)))), .val (.int zv1), .val (.ref b_1), .val (.int (0 : Int32))] [(.int zv2)])) _
      exact retN X_3 hx (t := .boolean) Bd.returns (by simp) (hb hby at_145) hr
    · show Q0 Z p0 p1 p2 p3 p4 p5 h0 n0 _ T_3.heap _
      rw [e_3]
      exact ⟨by rw [show zv2 = (1 : Int32) from by rw [hzv2]; exact if_pos (own_len_0 _ hq)]; rfl, N_3, trivial⟩
  · refine own_go (B := T_2.setTop (mkF m 63 #[.val (.int p0), .val (.int p1), .val (.int p2), .val (.int p3), .val (.int p4), .val (.int p5), .val (.int ((p0 &&& (2147483647 : Int32)) - ((p0 &&& (2147483647 : Int32)) / (3 : Int32)) * (3 : Int32))), .val (.int (p1 &&& (7 : Int32))), .val (.int (((p1 &&& (7 : Int32)) + (1 : Int32)) + (p2 &&& (7 : Int32)))), .val (.int zv1), .val (.ref b_1), .unset] [])) (fun t k => ?_) ?_
    · show Steps p.tables e below (T_2.setTop (mkF m 60 #[.val (.int p0), .val (.int p1), .val (.int p2), .val (.int p3), .val (.int p4), .val (.int p5), .val (.int ((p0 &&& (2147483647 : Int32)) - ((p0 &&& (2147483647 : Int32)) / (3 : Int32)) * (3 : Int32))), .val (.int (p1 &&& (7 : Int32))), .val (.int (((p1 &&& (7 : Int32)) + (1 : Int32)) + (p2 &&& (7 : Int32)))), .val (.int zv1), .val (.ref b_1), .unset] [(.int (1 : Int32)), (.int ((p0 &&& (2147483647 : Int32)) - ((p0 &&& (2147483647 : Int32)) / (3 : Int32)) * (3 : Int32)))])) _
      refine XS.icmpNo X_2.here hx rfl (hb hby at_60) rfl (flt hc60).1 ?_
      exact k
    refine own_go (B := T_2.setTop (mkF m 68 #[.val (.int p0), .val (.int p1), .val (.int p2), .val (.int p3), .val (.int p4), .val (.int p5), .val (.int ((p0 &&& (2147483647 : Int32)) - ((p0 &&& (2147483647 : Int32)) / (3 : Int32)) * (3 : Int32))), .val (.int (p1 &&& (7 : Int32))), .val (.int (((p1 &&& (7 : Int32)) + (1 : Int32)) + (p2 &&& (7 : Int32)))), .val (.int zv1), .val (.ref b_1), .unset] [(.int p3), (.int (p1 &&& (7 : Int32))), (.ref b_1)])) (fun t k => ?_) ?_
    · show Steps p.tables e below (T_2.setTop (mkF m 63 #[.val (.int p0), .val (.int p1), .val (.int p2), .val (.int p3), .val (.int p4), .val (.int p5), .val (.int ((p0 &&& (2147483647 : Int32)) - ((p0 &&& (2147483647 : Int32)) / (3 : Int32)) * (3 : Int32))), .val (.int (p1 &&& (7 : Int32))), .val (.int (((p1 &&& (7 : Int32)) + (1 : Int32)) + (p2 &&& (7 : Int32)))), .val (.int zv1), .val (.ref b_1), .unset] [])) _
      refine XS.aload X_2.here hx rfl (hb hby at_63) rfl rfl ?_
      show Steps p.tables e below (T_2.setTop (mkF m 65 #[.val (.int p0), .val (.int p1), .val (.int p2), .val (.int p3), .val (.int p4), .val (.int p5), .val (.int ((p0 &&& (2147483647 : Int32)) - ((p0 &&& (2147483647 : Int32)) / (3 : Int32)) * (3 : Int32))), .val (.int (p1 &&& (7 : Int32))), .val (.int (((p1 &&& (7 : Int32)) + (1 : Int32)) + (p2 &&& (7 : Int32)))), .val (.int zv1), .val (.ref b_1), .unset] [(.ref b_1)])) _
      refine XS.iload X_2.here hx rfl (hb hby at_65) rfl ?_
      show Steps p.tables e below (T_2.setTop (mkF m 67 #[.val (.int p0), .val (.int p1), .val (.int p2), .val (.int p3), .val (.int p4), .val (.int p5), .val (.int ((p0 &&& (2147483647 : Int32)) - ((p0 &&& (2147483647 : Int32)) / (3 : Int32)) * (3 : Int32))), .val (.int (p1 &&& (7 : Int32))), .val (.int (((p1 &&& (7 : Int32)) + (1 : Int32)) + (p2 &&& (7 : Int32)))), .val (.int zv1), .val (.ref b_1), .unset] [(.int (p1 &&& (7 : Int32))), (.ref b_1)])) _
      refine XS.iloadN X_2.here hx rfl (hb hby at_67) rfl ?_
      exact k
    have lt_4 := (c3).lt
    obtain ⟨cq_4, kq_4, q_4a, q_4b, q_4c⟩ := isOf hZ rfl c3
    obtain ⟨_, _, ⟨T_4, L_4, k_4, n_4⟩, -, X_4, ⟨Lc_4, hQ_4, l_4, y_4, z_4⟩, st_4⟩ := X_2.virtualBack hx (y := (⟨"com/example/mudskipper/mudskipper/index/FieldLengths", "add", "(II)V"⟩ : MethodName)) (z := (⟨"com/example/mudskipper/mudskipper/index/FieldLengths", "add", "(II)V"⟩ : MethodName)) hown (mvT hZ (hw _ (List.mem_of_getElem? (i := 18) rfl))) (mvT hZ (hw _ (List.mem_of_getElem? (i := 19) rfl))) (notFace_of_selects (args := #[]) (mvT hZ (hw _ (List.mem_of_getElem? (i := 21) rfl)))) (mvT hZ (hw _ (List.mem_of_getElem? (i := 21) rfl))) (mvT hZ (hw _ (List.mem_of_getElem? (i := 20) rfl))) (by decide) (backOf (W := 0) (rm4 l Z av0 hw [] b_1 (p1 &&& (7 : Int32)) p3 w_2 kb_2 (0 : Int32) [] T_2.heap n0 Z0__2 c3 F_2 g_b_1 V_2 (by decide) (by rw [own_i]; omega) (by rw [own_i]; omega) (by decide) (by decide) ne_2) hZ (hw _ (List.mem_of_getElem? (i := 22) rfl)) (hw _ (List.mem_of_getElem? (i := 3) rfl)) (by decide) (by decide)) q_4a q_4c (g := (mkF m 68 #[.val (.int p0), .val (.int p1), .val (.int p2), .val (.int p3), .val (.int p4), .val (.int p5), .val (.int ((p0 &&& (2147483647 : Int32)) - ((p0 &&& (2147483647 : Int32)) / (3 : Int32)) * (3 : Int32))), .val (.int (p1 &&& (7 : Int32))), .val (.int (((p1 &&& (7 : Int32)) + (1 : Int32)) + (p2 &&& (7 : Int32)))), .val (.int zv1), .val (.ref b_1), .unset] [(.int p3), (.int (p1 &&& (7 : Int32))), (.ref b_1)])) rfl (by rw [hml]; rfl) (Steps.refl _) (argsL := [(.int (p1 &&& (7 : Int32))), (.int p3)]) (rest := []) (lenOf pd_4 rfl) rfl (by show 2 * 0 + _ ≤ _; exact Nat.le_of_eq rfl) (hb hby at_68) (fun _ _ => ⟨rfl, rfl, (by decide : 2 + 1 ≤ _), (by decide : 1 + 16 ≤ _)⟩)
    dsimp only [Pt.U, Pt.locs, Pt.cells, Pt.slots] at X_4 l_4 y_4 z_4 st_4 hQ_4
    subst l_4 y_4 z_4
    obtain ⟨w_4, kb_4, rfl, N_4q, K_4, F_4, szq_4, V_4⟩ := hQ_4
    have N_4 := Fr.app N_2 N_4q
    have c4 : Keep h0 T_4.heap [] := c2.trans K_4 (allS (Or.inr sz_b_1) all0)
    have c5 : Exa Z T_4.heap b_1 "com/example/mudskipper/mudskipper/index/FieldLengths" := c3.keep K_4
    have c6 := V_2.keep K_4 (ninS (Ne.symm ne_2) nin0)
    have Z0__4 : n0 ≤ T_4.heap.size := Nat.le_trans Z0__2 K_4.1
    have ne_4 : b_1 ≠ w_4 := Nat.ne_of_lt (Nat.lt_of_lt_of_le lt_4 szq_4)
    refine own_go (B := T_4.setTop (mkF m 71 #[.val (.int p0), .val (.int p1), .val (.int p2), .val (.int p3), .val (.int p4), .val (.int p5), .val (.int ((p0 &&& (2147483647 : Int32)) - ((p0 &&& (2147483647 : Int32)) / (3 : Int32)) * (3 : Int32))), .val (.int (p1 &&& (7 : Int32))), .val (.int (((p1 &&& (7 : Int32)) + (1 : Int32)) + (p2 &&& (7 : Int32)))), .val (.int zv1), .val (.ref b_1), .unset] [])) (fun t k => st_4.trans k) ?_
    refine own_go (B := T_4.setTop (mkF m 74 #[.val (.int p0), .val (.int p1), .val (.int p2), .val (.int p3), .val (.int p4), .val (.int p5), .val (.int ((p0 &&& (2147483647 : Int32)) - ((p0 &&& (2147483647 : Int32)) / (3 : Int32)) * (3 : Int32))), .val (.int (p1 &&& (7 : Int32))), .val (.int (((p1 &&& (7 : Int32)) + (1 : Int32)) + (p2 &&& (7 : Int32)))), .val (.int zv1), .val (.ref b_1), .unset] [(.int (2 : Int32)), (.int ((p0 &&& (2147483647 : Int32)) - ((p0 &&& (2147483647 : Int32)) / (3 : Int32)) * (3 : Int32)))])) (fun t k => ?_) ?_
    · show Steps p.tables e below (T_4.setTop (mkF m 71 #[.val (.int p0), .val (.int p1), .val (.int p2), .val (.int p3), .val (.int p4), .val (.int p5), .val (.int ((p0 &&& (2147483647 : Int32)) - ((p0 &&& (2147483647 : Int32)) / (3 : Int32)) * (3 : Int32))), .val (.int (p1 &&& (7 : Int32))), .val (.int (((p1 &&& (7 : Int32)) + (1 : Int32)) + (p2 &&& (7 : Int32)))), .val (.int zv1), .val (.ref b_1), .unset] [])) _
      refine XS.iload X_4.here hx rfl (hb hby at_71) rfl ?_
      show Steps p.tables e below (T_4.setTop (mkF m 73 #[.val (.int p0), .val (.int p1), .val (.int p2), .val (.int p3), .val (.int p4), .val (.int p5), .val (.int ((p0 &&& (2147483647 : Int32)) - ((p0 &&& (2147483647 : Int32)) / (3 : Int32)) * (3 : Int32))), .val (.int (p1 &&& (7 : Int32))), .val (.int (((p1 &&& (7 : Int32)) + (1 : Int32)) + (p2 &&& (7 : Int32)))), .val (.int zv1), .val (.ref b_1), .unset] [(.int ((p0 &&& (2147483647 : Int32)) - ((p0 &&& (2147483647 : Int32)) / (3 : Int32)) * (3 : Int32)))])) _
      refine XS.iconst X_4.here hx rfl (hb hby at_73) ?_
      exact k
    by_cases hc74 : ((p0 &&& (2147483647 : Int32)) - ((p0 &&& (2147483647 : Int32)) / (3 : Int32)) * (3 : Int32)) < (2 : Int32)
    · refine own_go (B := T_4.setTop (mkF m 86 #[.val (.int p0), .val (.int p1), .val (.int p2), .val (.int p3), .val (.int p4), .val (.int p5), .val (.int ((p0 &&& (2147483647 : Int32)) - ((p0 &&& (2147483647 : Int32)) / (3 : Int32)) * (3 : Int32))), .val (.int (p1 &&& (7 : Int32))), .val (.int (((p1 &&& (7 : Int32)) + (1 : Int32)) + (p2 &&& (7 : Int32)))), .val (.int zv1), .val (.ref b_1), .unset] [])) (fun t k => ?_) ?_
      · show Steps p.tables e below (T_4.setTop (mkF m 74 #[.val (.int p0), .val (.int p1), .val (.int p2), .val (.int p3), .val (.int p4), .val (.int p5), .val (.int ((p0 &&& (2147483647 : Int32)) - ((p0 &&& (2147483647 : Int32)) / (3 : Int32)) * (3 : Int32))), .val (.int (p1 &&& (7 : Int32))), .val (.int (((p1 &&& (7 : Int32)) + (1 : Int32)) + (p2 &&& (7 : Int32)))), .val (.int zv1), .val (.ref b_1), .unset] [(.int (2 : Int32)), (.int ((p0 &&& (2147483647 : Int32)) - ((p0 &&& (2147483647 : Int32)) / (3 : Int32)) * (3 : Int32)))])) _
        refine XS.icmpYes X_4.here hx rfl (pc0 := 74) (pc' := 86) rfl (hb hby at_74) rfl (tlt hc74).1 (by decide) (by decide) ?_
        exact k
      refine own_go (B := T_4.setTop (mkF m 89 #[.val (.int p0), .val (.int p1), .val (.int p2), .val (.int p3), .val (.int p4), .val (.int p5), .val (.int ((p0 &&& (2147483647 : Int32)) - ((p0 &&& (2147483647 : Int32)) / (3 : Int32)) * (3 : Int32))), .val (.int (p1 &&& (7 : Int32))), .val (.int (((p1 &&& (7 : Int32)) + (1 : Int32)) + (p2 &&& (7 : Int32)))), .val (.int zv1), .val (.ref b_1), .unset] [(.int (2 : Int32)), (.int ((p0 &&& (2147483647 : Int32)) - ((p0 &&& (2147483647 : Int32)) / (3 : Int32)) * (3 : Int32)))])) (fun t k => ?_) ?_
      · show Steps p.tables e below (T_4.setTop (mkF m 86 #[.val (.int p0), .val (.int p1), .val (.int p2), .val (.int p3), .val (.int p4), .val (.int p5), .val (.int ((p0 &&& (2147483647 : Int32)) - ((p0 &&& (2147483647 : Int32)) / (3 : Int32)) * (3 : Int32))), .val (.int (p1 &&& (7 : Int32))), .val (.int (((p1 &&& (7 : Int32)) + (1 : Int32)) + (p2 &&& (7 : Int32)))), .val (.int zv1), .val (.ref b_1), .unset] [])) _
        refine XS.iload X_4.here hx rfl (hb hby at_86) rfl ?_
        show Steps p.tables e below (T_4.setTop (mkF m 88 #[.val (.int p0), .val (.int p1), .val (.int p2), .val (.int p3), .val (.int p4), .val (.int p5), .val (.int ((p0 &&& (2147483647 : Int32)) - ((p0 &&& (2147483647 : Int32)) / (3 : Int32)) * (3 : Int32))), .val (.int (p1 &&& (7 : Int32))), .val (.int (((p1 &&& (7 : Int32)) + (1 : Int32)) + (p2 &&& (7 : Int32)))), .val (.int zv1), .val (.ref b_1), .unset] [(.int ((p0 &&& (2147483647 : Int32)) - ((p0 &&& (2147483647 : Int32)) / (3 : Int32)) * (3 : Int32)))])) _
        refine XS.iconst X_4.here hx rfl (hb hby at_88) ?_
        exact k
      refine own_go (B := T_4.setTop (mkF m 106 #[.val (.int p0), .val (.int p1), .val (.int p2), .val (.int p3), .val (.int p4), .val (.int p5), .val (.int ((p0 &&& (2147483647 : Int32)) - ((p0 &&& (2147483647 : Int32)) / (3 : Int32)) * (3 : Int32))), .val (.int (p1 &&& (7 : Int32))), .val (.int (((p1 &&& (7 : Int32)) + (1 : Int32)) + (p2 &&& (7 : Int32)))), .val (.int zv1), .val (.ref b_1), .unset] [])) (fun t k => ?_) ?_
      · show Steps p.tables e below (T_4.setTop (mkF m 89 #[.val (.int p0), .val (.int p1), .val (.int p2), .val (.int p3), .val (.int p4), .val (.int p5), .val (.int ((p0 &&& (2147483647 : Int32)) - ((p0 &&& (2147483647 : Int32)) / (3 : Int32)) * (3 : Int32))), .val (.int (p1 &&& (7 : Int32))), .val (.int (((p1 &&& (7 : Int32)) + (1 : Int32)) + (p2 &&& (7 : Int32)))), .val (.int zv1), .val (.ref b_1), .unset] [(.int (2 : Int32)), (.int ((p0 &&& (2147483647 : Int32)) - ((p0 &&& (2147483647 : Int32)) / (3 : Int32)) * (3 : Int32)))])) _
        refine XS.icmpYes X_4.here hx rfl (pc0 := 89) (pc' := 106) rfl (hb hby at_89) rfl (tlt hc74).1 (by decide) (by decide) ?_
        exact k
      refine own_go (B := T_4.setTop (mkF m 109 #[.val (.int p0), .val (.int p1), .val (.int p2), .val (.int p3), .val (.int p4), .val (.int p5), .val (.int ((p0 &&& (2147483647 : Int32)) - ((p0 &&& (2147483647 : Int32)) / (3 : Int32)) * (3 : Int32))), .val (.int (p1 &&& (7 : Int32))), .val (.int (((p1 &&& (7 : Int32)) + (1 : Int32)) + (p2 &&& (7 : Int32)))), .val (.int zv1), .val (.ref b_1), .unset] [(.int (1 : Int32)), (.int ((p0 &&& (2147483647 : Int32)) - ((p0 &&& (2147483647 : Int32)) / (3 : Int32)) * (3 : Int32)))])) (fun t k => ?_) ?_
      · show Steps p.tables e below (T_4.setTop (mkF m 106 #[.val (.int p0), .val (.int p1), .val (.int p2), .val (.int p3), .val (.int p4), .val (.int p5), .val (.int ((p0 &&& (2147483647 : Int32)) - ((p0 &&& (2147483647 : Int32)) / (3 : Int32)) * (3 : Int32))), .val (.int (p1 &&& (7 : Int32))), .val (.int (((p1 &&& (7 : Int32)) + (1 : Int32)) + (p2 &&& (7 : Int32)))), .val (.int zv1), .val (.ref b_1), .unset] [])) _
        refine XS.iload X_4.here hx rfl (hb hby at_106) rfl ?_
        show Steps p.tables e below (T_4.setTop (mkF m 108 #[.val (.int p0), .val (.int p1), .val (.int p2), .val (.int p3), .val (.int p4), .val (.int p5), .val (.int ((p0 &&& (2147483647 : Int32)) - ((p0 &&& (2147483647 : Int32)) / (3 : Int32)) * (3 : Int32))), .val (.int (p1 &&& (7 : Int32))), .val (.int (((p1 &&& (7 : Int32)) + (1 : Int32)) + (p2 &&& (7 : Int32)))), .val (.int zv1), .val (.ref b_1), .unset] [(.int ((p0 &&& (2147483647 : Int32)) - ((p0 &&& (2147483647 : Int32)) / (3 : Int32)) * (3 : Int32)))])) _
        refine XS.iconst X_4.here hx rfl (hb hby at_108) ?_
        exact k
      refine own_go (B := T_4.setTop (mkF m 112 #[.val (.int p0), .val (.int p1), .val (.int p2), .val (.int p3), .val (.int p4), .val (.int p5), .val (.int ((p0 &&& (2147483647 : Int32)) - ((p0 &&& (2147483647 : Int32)) / (3 : Int32)) * (3 : Int32))), .val (.int (p1 &&& (7 : Int32))), .val (.int (((p1 &&& (7 : Int32)) + (1 : Int32)) + (p2 &&& (7 : Int32)))), .val (.int zv1), .val (.ref b_1), .unset] [])) (fun t k => ?_) ?_
      · show Steps p.tables e below (T_4.setTop (mkF m 109 #[.val (.int p0), .val (.int p1), .val (.int p2), .val (.int p3), .val (.int p4), .val (.int p5), .val (.int ((p0 &&& (2147483647 : Int32)) - ((p0 &&& (2147483647 : Int32)) / (3 : Int32)) * (3 : Int32))), .val (.int (p1 &&& (7 : Int32))), .val (.int (((p1 &&& (7 : Int32)) + (1 : Int32)) + (p2 &&& (7 : Int32)))), .val (.int zv1), .val (.ref b_1), .unset] [(.int (1 : Int32)), (.int ((p0 &&& (2147483647 : Int32)) - ((p0 &&& (2147483647 : Int32)) / (3 : Int32)) * (3 : Int32)))])) _
        refine XS.icmpNo X_4.here hx rfl (hb hby at_109) rfl (flt hc60).1 ?_
        exact k
      refine own_go (B := T_4.setTop (mkF m 116 #[.val (.int p0), .val (.int p1), .val (.int p2), .val (.int p3), .val (.int p4), .val (.int p5), .val (.int ((p0 &&& (2147483647 : Int32)) - ((p0 &&& (2147483647 : Int32)) / (3 : Int32)) * (3 : Int32))), .val (.int (p1 &&& (7 : Int32))), .val (.int (((p1 &&& (7 : Int32)) + (1 : Int32)) + (p2 &&& (7 : Int32)))), .val (.int zv1), .val (.ref b_1), .unset] [(.int (p1 &&& (7 : Int32))), (.int zv1)])) (fun t k => ?_) ?_
      · show Steps p.tables e below (T_4.setTop (mkF m 112 #[.val (.int p0), .val (.int p1), .val (.int p2), .val (.int p3), .val (.int p4), .val (.int p5), .val (.int ((p0 &&& (2147483647 : Int32)) - ((p0 &&& (2147483647 : Int32)) / (3 : Int32)) * (3 : Int32))), .val (.int (p1 &&& (7 : Int32))), .val (.int (((p1 &&& (7 : Int32)) + (1 : Int32)) + (p2 &&& (7 : Int32)))), .val (.int zv1), .val (.ref b_1), .unset] [])) _
        refine XS.iload X_4.here hx rfl (hb hby at_112) rfl ?_
        show Steps p.tables e below (T_4.setTop (mkF m 114 #[.val (.int p0), .val (.int p1), .val (.int p2), .val (.int p3), .val (.int p4), .val (.int p5), .val (.int ((p0 &&& (2147483647 : Int32)) - ((p0 &&& (2147483647 : Int32)) / (3 : Int32)) * (3 : Int32))), .val (.int (p1 &&& (7 : Int32))), .val (.int (((p1 &&& (7 : Int32)) + (1 : Int32)) + (p2 &&& (7 : Int32)))), .val (.int zv1), .val (.ref b_1), .unset] [(.int zv1)])) _
        refine XS.iload X_4.here hx rfl (hb hby at_114) rfl ?_
        exact k
      obtain ⟨zv3, hzv3⟩ : ∃ z : Int32, z = (if zv1 = (p1 &&& (7 : Int32)) then p3 else (0 : Int32)) := ⟨_, rfl⟩
      refine own_go (B := T_4.setTop (mkF m 128 #[.val (.int p0), .val (.int p1), .val (.int p2), .val (.int p3), .val (.int p4), .val (.int p5), .val (.int ((p0 &&& (2147483647 : Int32)) - ((p0 &&& (2147483647 : Int32)) / (3 : Int32)) * (3 : Int32))), .val (.int (p1 &&& (7 : Int32))), .val (.int (((p1 &&& (7 : Int32)) + (1 : Int32)) + (p2 &&& (7 : Int32)))), .val (.int zv1), .val (.ref b_1), .val (.int zv3)] [])) (fun t k => ?_) ?_
      · show Steps p.tables e below (T_4.setTop (mkF m 116 #[.val (.int p0), .val (.int p1), .val (.int p2), .val (.int p3), .val (.int p4), .val (.int p5), .val (.int ((p0 &&& (2147483647 : Int32)) - ((p0 &&& (2147483647 : Int32)) / (3 : Int32)) * (3 : Int32))), .val (.int (p1 &&& (7 : Int32))), .val (.int (((p1 &&& (7 : Int32)) + (1 : Int32)) + (p2 &&& (7 : Int32)))), .val (.int zv1), .val (.ref b_1), .unset] [(.int (p1 &&& (7 : Int32))), (.int zv1)])) _
        by_cases hc116 : zv1 = (p1 &&& (7 : Int32))
        · refine XS.icmpNo X_4.here hx rfl (hb hby at_116) rfl (teq hc116).2 ?_
          show Steps p.tables e below (T_4.setTop (mkF m 119 #[.val (.int p0), .val (.int p1), .val (.int p2), .val (.int p3), .val (.int p4), .val (.int p5), .val (.int ((p0 &&& (2147483647 : Int32)) - ((p0 &&& (2147483647 : Int32)) / (3 : Int32)) * (3 : Int32))), .val (.int (p1 &&& (7 : Int32))), .val (.int (((p1 &&& (7 : Int32)) + (1 : Int32)) + (p2 &&& (7 : Int32)))), .val (.int zv1), .val (.ref b_1), .unset] [])) _
          refine XS.iloadN X_4.here hx rfl (hb hby at_119) rfl ?_
          show Steps p.tables e below (T_4.setTop (mkF m 120 #[.val (.int p0), .val (.int p1), .val (.int p2), .val (.int p3), .val (.int p4), .val (.int p5), .val (.int ((p0 &&& (2147483647 : Int32)) - ((p0 &&& (2147483647 : Int32)) / (3 : Int32)) * (3 : Int32))), .val (.int (p1 &&& (7 : Int32))), .val (.int (((p1 &&& (7 : Int32)) + (1 : Int32)) + (p2 &&& (7 : Int32)))), .val (.int zv1), .val (.ref b_1), .unset] [(.int p3)])) _
          refine XS.istore X_4.here hx rfl (hb hby at_120) rfl (l' := #[.val (.int p0), .val (.int p1), .val (.int p2), .val (.int p3), .val (.int p4), .val (.int p5), .val (.int ((p0 &&& (2147483647 : Int32)) - ((p0 &&& (2147483647 : Int32)) / (3 : Int32)) * (3 : Int32))), .val (.int (p1 &&& (7 : Int32))), .val (.int (((p1 &&& (7 : Int32)) + (1 : Int32)) + (p2 &&& (7 : Int32)))), .val (.int zv1), .val (.ref b_1), .val (.int p3)]) rfl ?_
          show Steps p.tables e below (T_4.setTop (mkF m 122 #[.val (.int p0), .val (.int p1), .val (.int p2), .val (.int p3), .val (.int p4), .val (.int p5), .val (.int ((p0 &&& (2147483647 : Int32)) - ((p0 &&& (2147483647 : Int32)) / (3 : Int32)) * (3 : Int32))), .val (.int (p1 &&& (7 : Int32))), .val (.int (((p1 &&& (7 : Int32)) + (1 : Int32)) + (p2 &&& (7 : Int32)))), .val (.int zv1), .val (.ref b_1), .val (.int p3)] [])) _
          refine XS.goto X_4.here hx rfl (pc0 := 122) (pc' := 128) rfl (hb hby at_122) (by decide) (by decide) ?_
          show Steps p.tables e below (T_4.setTop (mkF m 128 #[.val (.int p0), .val (.int p1), .val (.int p2), .val (.int p3), .val (.int p4), .val (.int p5), .val (.int ((p0 &&& (2147483647 : Int32)) - ((p0 &&& (2147483647 : Int32)) / (3 : Int32)) * (3 : Int32))), .val (.int (p1 &&& (7 : Int32))), .val (.int (((p1 &&& (7 : Int32)) + (1 : Int32)) + (p2 &&& (7 : Int32)))), .val (.int zv1), .val (.ref b_1), .val (.int p3)] [])) _
          rw [show zv3 = p3 from by simp only [hzv3, if_pos hc116]] at k
          exact k
        · refine XS.icmpYes X_4.here hx rfl (pc0 := 116) (pc' := 125) rfl (hb hby at_116) rfl (feq hc116).2 (by decide) (by decide) ?_
          show Steps p.tables e below (T_4.setTop (mkF m 125 #[.val (.int p0), .val (.int p1), .val (.int p2), .val (.int p3), .val (.int p4), .val (.int p5), .val (.int ((p0 &&& (2147483647 : Int32)) - ((p0 &&& (2147483647 : Int32)) / (3 : Int32)) * (3 : Int32))), .val (.int (p1 &&& (7 : Int32))), .val (.int (((p1 &&& (7 : Int32)) + (1 : Int32)) + (p2 &&& (7 : Int32)))), .val (.int zv1), .val (.ref b_1), .unset] [])) _
          refine XS.iconst X_4.here hx rfl (hb hby at_125) ?_
          show Steps p.tables e below (T_4.setTop (mkF m 126 #[.val (.int p0), .val (.int p1), .val (.int p2), .val (.int p3), .val (.int p4), .val (.int p5), .val (.int ((p0 &&& (2147483647 : Int32)) - ((p0 &&& (2147483647 : Int32)) / (3 : Int32)) * (3 : Int32))), .val (.int (p1 &&& (7 : Int32))), .val (.int (((p1 &&& (7 : Int32)) + (1 : Int32)) + (p2 &&& (7 : Int32)))), .val (.int zv1), .val (.ref b_1), .unset] [(.int (0 : Int32))])) _
          refine XS.istore X_4.here hx rfl (hb hby at_126) rfl (l' := #[.val (.int p0), .val (.int p1), .val (.int p2), .val (.int p3), .val (.int p4), .val (.int p5), .val (.int ((p0 &&& (2147483647 : Int32)) - ((p0 &&& (2147483647 : Int32)) / (3 : Int32)) * (3 : Int32))), .val (.int (p1 &&& (7 : Int32))), .val (.int (((p1 &&& (7 : Int32)) + (1 : Int32)) + (p2 &&& (7 : Int32)))), .val (.int zv1), .val (.ref b_1), .val (.int (0 : Int32))]) rfl ?_
          show Steps p.tables e below (T_4.setTop (mkF m 128 #[.val (.int p0), .val (.int p1), .val (.int p2), .val (.int p3), .val (.int p4), .val (.int p5), .val (.int ((p0 &&& (2147483647 : Int32)) - ((p0 &&& (2147483647 : Int32)) / (3 : Int32)) * (3 : Int32))), .val (.int (p1 &&& (7 : Int32))), .val (.int (((p1 &&& (7 : Int32)) + (1 : Int32)) + (p2 &&& (7 : Int32)))), .val (.int zv1), .val (.ref b_1), .val (.int (0 : Int32))] [])) _
          rw [show zv3 = (0 : Int32) from by simp only [hzv3, if_neg hc116]] at k
          exact k
      refine own_go (B := T_4.setTop (mkF m 132 #[.val (.int p0), .val (.int p1), .val (.int p2), .val (.int p3), .val (.int p4), .val (.int p5), .val (.int ((p0 &&& (2147483647 : Int32)) - ((p0 &&& (2147483647 : Int32)) / (3 : Int32)) * (3 : Int32))), .val (.int (p1 &&& (7 : Int32))), .val (.int (((p1 &&& (7 : Int32)) + (1 : Int32)) + (p2 &&& (7 : Int32)))), .val (.int zv1), .val (.ref b_1), .val (.int zv3)] [(.int zv1), (.ref b_1)])) (fun t k => ?_) ?_
      · show Steps p.tables e below (T_4.setTop (mkF m 128 #[.val (.int p0), .val (.int p1), .val (.int p2), .val (.int p3), .val (.int p4), .val (.int p5), .val (.int ((p0 &&& (2147483647 : Int32)) - ((p0 &&& (2147483647 : Int32)) / (3 : Int32)) * (3 : Int32))), .val (.int (p1 &&& (7 : Int32))), .val (.int (((p1 &&& (7 : Int32)) + (1 : Int32)) + (p2 &&& (7 : Int32)))), .val (.int zv1), .val (.ref b_1), .val (.int zv3)] [])) _
        refine XS.aload X_4.here hx rfl (hb hby at_128) rfl rfl ?_
        show Steps p.tables e below (T_4.setTop (mkF m 130 #[.val (.int p0), .val (.int p1), .val (.int p2), .val (.int p3), .val (.int p4), .val (.int p5), .val (.int ((p0 &&& (2147483647 : Int32)) - ((p0 &&& (2147483647 : Int32)) / (3 : Int32)) * (3 : Int32))), .val (.int (p1 &&& (7 : Int32))), .val (.int (((p1 &&& (7 : Int32)) + (1 : Int32)) + (p2 &&& (7 : Int32)))), .val (.int zv1), .val (.ref b_1), .val (.int zv3)] [(.ref b_1)])) _
        refine XS.iload X_4.here hx rfl (hb hby at_130) rfl ?_
        exact k
      obtain ⟨cq_5, kq_5, q_5a, q_5b, q_5c⟩ := isOf hZ rfl c5
      obtain ⟨_, _, ⟨T_5, L_5, k_5, n_5⟩, -, X_5, ⟨Lc_5, hQ_5, l_5, y_5, z_5⟩, st_5⟩ := X_4.virtualBack hx (y := (⟨"com/example/mudskipper/mudskipper/index/FieldLengths", "length", "(I)I"⟩ : MethodName)) (z := (⟨"com/example/mudskipper/mudskipper/index/FieldLengths", "length", "(I)I"⟩ : MethodName)) hown (mvT hZ (hw _ (List.mem_of_getElem? (i := 13) rfl))) (mvT hZ (hw _ (List.mem_of_getElem? (i := 14) rfl))) (notFace_of_selects (args := #[]) (mvT hZ (hw _ (List.mem_of_getElem? (i := 16) rfl)))) (mvT hZ (hw _ (List.mem_of_getElem? (i := 16) rfl))) (mvT hZ (hw _ (List.mem_of_getElem? (i := 15) rfl))) (by decide) (backOf (W := 0) (rm3 l Z av0 hw [] b_1 zv1 w_4 kb_4 (own_maxi ((p1 &&& (7 : Int32)) + (1 : Int32)) ((0 : Int32) * (2 : Int32))) (own_put [] ((p1 &&& (7 : Int32))).toNatClampNeg p3) T_4.heap n0 Z0__4 F_4 V_4 hq) hZ (hw _ (List.mem_of_getElem? (i := 17) rfl)) (hw _ (List.mem_of_getElem? (i := 3) rfl)) (by decide) (by decide)) q_5a q_5c (g := (mkF m 132 #[.val (.int p0), .val (.int p1), .val (.int p2), .val (.int p3), .val (.int p4), .val (.int p5), .val (.int ((p0 &&& (2147483647 : Int32)) - ((p0 &&& (2147483647 : Int32)) / (3 : Int32)) * (3 : Int32))), .val (.int (p1 &&& (7 : Int32))), .val (.int (((p1 &&& (7 : Int32)) + (1 : Int32)) + (p2 &&& (7 : Int32)))), .val (.int zv1), .val (.ref b_1), .val (.int zv3)] [(.int zv1), (.ref b_1)])) rfl (by rw [hml]; rfl) (Steps.refl _) (argsL := [(.int zv1)]) (rest := []) (lenOf pd_3 rfl) rfl (by show 2 * 0 + _ ≤ _; exact Nat.le_of_eq rfl) (hb hby at_132) (fun _ _ => ⟨rfl, rfl, (by decide : 3 + 0 ≤ _), (by decide : 17 + 0 ≤ _)⟩)
      dsimp only [Pt.U, Pt.locs, Pt.cells, Pt.slots] at X_5 l_5 y_5 z_5 st_5 hQ_5
      subst l_5 y_5 z_5
      obtain ⟨rfl, N_5q, e_5⟩ := hQ_5
      have N_5 := Fr.app N_4 N_5q
      refine own_go (B := T_5.setTop (mkF m 135 #[.val (.int p0), .val (.int p1), .val (.int p2), .val (.int p3), .val (.int p4), .val (.int p5), .val (.int ((p0 &&& (2147483647 : Int32)) - ((p0 &&& (2147483647 : Int32)) / (3 : Int32)) * (3 : Int32))), .val (.int (p1 &&& (7 : Int32))), .val (.int (((p1 &&& (7 : Int32)) + (1 : Int32)) + (p2 &&& (7 : Int32)))), .val (.int zv1), .val (.ref b_1), .val (.int zv3)] [(.int (own_len (own_maxi ((p1 &&& (7 : Int32)) + (1 : Int32)) ((0 : Int32) * (2 : Int32))) (own_put [] ((p1 &&& (7 : Int32))).toNatClampNeg p3) zv1))])) (fun t k => st_5.trans k) ?_
      refine own_go (B := T_5.setTop (mkF m 137 #[.val (.int p0), .val (.int p1), .val (.int p2), .val (.int p3), .val (.int p4), .val (.int p5), .val (.int ((p0 &&& (2147483647 : Int32)) - ((p0 &&& (2147483647 : Int32)) / (3 : Int32)) * (3 : Int32))), .val (.int (p1 &&& (7 : Int32))), .val (.int (((p1 &&& (7 : Int32)) + (1 : Int32)) + (p2 &&& (7 : Int32)))), .val (.int zv1), .val (.ref b_1), .val (.int zv3)] [(.int zv3), (.int (own_len (own_maxi ((p1 &&& (7 : Int32)) + (1 : Int32)) ((0 : Int32) * (2 : Int32))) (own_put [] ((p1 &&& (7 : Int32))).toNatClampNeg p3) zv1))])) (fun t k => ?_) ?_
      · show Steps p.tables e below (T_5.setTop (mkF m 135 #[.val (.int p0), .val (.int p1), .val (.int p2), .val (.int p3), .val (.int p4), .val (.int p5), .val (.int ((p0 &&& (2147483647 : Int32)) - ((p0 &&& (2147483647 : Int32)) / (3 : Int32)) * (3 : Int32))), .val (.int (p1 &&& (7 : Int32))), .val (.int (((p1 &&& (7 : Int32)) + (1 : Int32)) + (p2 &&& (7 : Int32)))), .val (.int zv1), .val (.ref b_1), .val (.int zv3)] [(.int (own_len (own_maxi ((p1 &&& (7 : Int32)) + (1 : Int32)) ((0 : Int32) * (2 : Int32))) (own_put [] ((p1 &&& (7 : Int32))).toNatClampNeg p3) zv1))])) _
        refine XS.iload X_5.here hx rfl (hb hby at_135) rfl ?_
        exact k
      obtain ⟨zv4, hzv4⟩ : ∃ z : Int32, z = (if (own_len (own_maxi ((p1 &&& (7 : Int32)) + (1 : Int32)) ((0 : Int32) * (2 : Int32))) (own_put [] ((p1 &&& (7 : Int32))).toNatClampNeg p3) zv1) = zv3 then (1 : Int32) else (0 : Int32)) := ⟨_, rfl⟩
      refine own_go (B := T_5.setTop (mkF m 145 #[.val (.int p0), .val (.int p1), .val (.int p2), .val (.int p3), .val (.int p4), .val (.int p5), .val (.int ((p0 &&& (2147483647 : Int32)) - ((p0 &&& (2147483647 : Int32)) / (3 : Int32)) * (3 : Int32))), .val (.int (p1 &&& (7 : Int32))), .val (.int (((p1 &&& (7 : Int32)) + (1 : Int32)) + (p2 &&& (7 : Int32)))), .val (.int zv1), .val (.ref b_1), .val (.int zv3)] [(.int zv4)])) (fun t k => ?_) ?_
      · show Steps p.tables e below (T_5.setTop (mkF m 137 #[.val (.int p0), .val (.int p1), .val (.int p2), .val (.int p3), .val (.int p4), .val (.int p5), .val (.int ((p0 &&& (2147483647 : Int32)) - ((p0 &&& (2147483647 : Int32)) / (3 : Int32)) * (3 : Int32))), .val (.int (p1 &&& (7 : Int32))), .val (.int (((p1 &&& (7 : Int32)) + (1 : Int32)) + (p2 &&& (7 : Int32)))), .val (.int zv1), .val (.ref b_1), .val (.int zv3)] [(.int zv3), (.int (own_len (own_maxi ((p1 &&& (7 : Int32)) + (1 : Int32)) ((0 : Int32) * (2 : Int32))) (own_put [] ((p1 &&& (7 : Int32))).toNatClampNeg p3) zv1))])) _
        by_cases hc137 : (own_len (own_maxi ((p1 &&& (7 : Int32)) + (1 : Int32)) ((0 : Int32) * (2 : Int32))) (own_put [] ((p1 &&& (7 : Int32))).toNatClampNeg p3) zv1) = zv3
        · refine XS.icmpNo X_5.here hx rfl (hb hby at_137) rfl (teq hc137).2 ?_
          show Steps p.tables e below (T_5.setTop (mkF m 140 #[.val (.int p0), .val (.int p1), .val (.int p2), .val (.int p3), .val (.int p4), .val (.int p5), .val (.int ((p0 &&& (2147483647 : Int32)) - ((p0 &&& (2147483647 : Int32)) / (3 : Int32)) * (3 : Int32))), .val (.int (p1 &&& (7 : Int32))), .val (.int (((p1 &&& (7 : Int32)) + (1 : Int32)) + (p2 &&& (7 : Int32)))), .val (.int zv1), .val (.ref b_1), .val (.int zv3)] [])) _
          refine XS.iconst X_5.here hx rfl (hb hby at_140) ?_
          show Steps p.tables e below (T_5.setTop (mkF m 141 #[.val (.int p0), .val (.int p1), .val (.int p2), .val (.int p3), .val (.int p4), .val (.int p5), .val (.int ((p0 &&& (2147483647 : Int32)) - ((p0 &&& (2147483647 : Int32)) / (3 : Int32)) * (3 : Int32))), .val (.int (p1 &&& (7 : Int32))), .val (.int (((p1 &&& (7 : Int32)) + (1 : Int32)) + (p2 &&& (7 : Int32)))), .val (.int zv1), .val (.ref b_1), .val (.int zv3)] [(.int (1 : Int32))])) _
          refine XS.goto X_5.here hx rfl (pc0 := 141) (pc' := 145) rfl (hb hby at_141) (by decide) (by decide) ?_
          show Steps p.tables e below (T_5.setTop (mkF m 145 #[.val (.int p0), .val (.int p1), .val (.int p2), .val (.int p3), .val (.int p4), .val (.int p5), .val (.int ((p0 &&& (2147483647 : Int32)) - ((p0 &&& (2147483647 : Int32)) / (3 : Int32)) * (3 : Int32))), .val (.int (p1 &&& (7 : Int32))), .val (.int (((p1 &&& (7 : Int32)) + (1 : Int32)) + (p2 &&& (7 : Int32)))), .val (.int zv1), .val (.ref b_1), .val (.int zv3)] [(.int (1 : Int32))])) _
          rw [show zv4 = (1 : Int32) from by simp only [hzv4, if_pos hc137]] at k
          exact k
        · refine XS.icmpYes X_5.here hx rfl (pc0 := 137) (pc' := 144) rfl (hb hby at_137) rfl (feq hc137).2 (by decide) (by decide) ?_
          show Steps p.tables e below (T_5.setTop (mkF m 144 #[.val (.int p0), .val (.int p1), .val (.int p2), .val (.int p3), .val (.int p4), .val (.int p5), .val (.int ((p0 &&& (2147483647 : Int32)) - ((p0 &&& (2147483647 : Int32)) / (3 : Int32)) * (3 : Int32))), .val (.int (p1 &&& (7 : Int32))), .val (.int (((p1 &&& (7 : Int32)) + (1 : Int32)) + (p2 &&& (7 : Int32)))), .val (.int zv1), .val (.ref b_1), .val (.int zv3)] [])) _
          refine XS.iconst X_5.here hx rfl (hb hby at_144) ?_
          show Steps p.tables e below (T_5.setTop (mkF m 145 #[.val (.int p0), .val (.int p1), .val (.int p2), .val (.int p3), .val (.int p4), .val (.int p5), .val (.int ((p0 &&& (2147483647 : Int32)) - ((p0 &&& (2147483647 : Int32)) / (3 : Int32)) * (3 : Int32))), .val (.int (p1 &&& (7 : Int32))), .val (.int (((p1 &&& (7 : Int32)) + (1 : Int32)) + (p2 &&& (7 : Int32)))), .val (.int zv1), .val (.ref b_1), .val (.int zv3)] [(.int (0 : Int32))])) _
          rw [show zv4 = (0 : Int32) from by simp only [hzv4, if_neg hc137]] at k
          exact k
      obtain ⟨fs, hr, hrun, hended, hW, hsame⟩ := X_5.leave (v := some (.int (nar .boolean zv4))) (fun h => by rw [Bd.returns] at h; cases h)
      refine ⟨_, _, ?_, hrun, hended, _, _, rfl, ?_, ⟨_, rfl⟩, hW, hsame.mono (by decide) (by decide)⟩
      · show Steps p.tables e below (T_5.setTop (mkF m 145 #[.val (.int p0), .val (.int p1), .val (.int p2), .val (.int p3), .val (.int p4), .val (.int p5), .val (.int ((p0 &&& (2147483647 : Int32)) - ((p0 &&& (2147483647 : Int32)) / (3 : Int32)) * (3 : Int32))), .val (.int (p1 &&& (7 : Int32))), .val (.int (((p1 &&& (7 : Int32)) + (1 : Int32)) + (p2 &&& (7 : Int32)))), .val (.int zv1), .val (.ref b_1), .val (.int zv3)] [(.int zv4)])) _
        exact retN X_5 hx (t := .boolean) Bd.returns (by simp) (hb hby at_145) hr
      · show Q0 Z p0 p1 p2 p3 p4 p5 h0 n0 _ T_5.heap _
        rw [e_5]
        exact ⟨by rw [show zv4 = (1 : Int32) from by rw [hzv4]; exact if_pos (by rw [own_len_p _ _ _ _ _ hq (by rw [own_i]; omega) (by rw [own_i]; omega)]; simp only [hzv3, List.getD_nil, ite_self])]; rfl, N_5, trivial⟩
    · refine own_go (B := T_4.setTop (mkF m 77 #[.val (.int p0), .val (.int p1), .val (.int p2), .val (.int p3), .val (.int p4), .val (.int p5), .val (.int ((p0 &&& (2147483647 : Int32)) - ((p0 &&& (2147483647 : Int32)) / (3 : Int32)) * (3 : Int32))), .val (.int (p1 &&& (7 : Int32))), .val (.int (((p1 &&& (7 : Int32)) + (1 : Int32)) + (p2 &&& (7 : Int32)))), .val (.int zv1), .val (.ref b_1), .unset] [])) (fun t k => ?_) ?_
      · show Steps p.tables e below (T_4.setTop (mkF m 74 #[.val (.int p0), .val (.int p1), .val (.int p2), .val (.int p3), .val (.int p4), .val (.int p5), .val (.int ((p0 &&& (2147483647 : Int32)) - ((p0 &&& (2147483647 : Int32)) / (3 : Int32)) * (3 : Int32))), .val (.int (p1 &&& (7 : Int32))), .val (.int (((p1 &&& (7 : Int32)) + (1 : Int32)) + (p2 &&& (7 : Int32)))), .val (.int zv1), .val (.ref b_1), .unset] [(.int (2 : Int32)), (.int ((p0 &&& (2147483647 : Int32)) - ((p0 &&& (2147483647 : Int32)) / (3 : Int32)) * (3 : Int32)))])) _
        refine XS.icmpNo X_4.here hx rfl (hb hby at_74) rfl (flt hc74).1 ?_
        exact k
      refine own_go (B := T_4.setTop (mkF m 83 #[.val (.int p0), .val (.int p1), .val (.int p2), .val (.int p3), .val (.int p4), .val (.int p5), .val (.int ((p0 &&& (2147483647 : Int32)) - ((p0 &&& (2147483647 : Int32)) / (3 : Int32)) * (3 : Int32))), .val (.int (p1 &&& (7 : Int32))), .val (.int (((p1 &&& (7 : Int32)) + (1 : Int32)) + (p2 &&& (7 : Int32)))), .val (.int zv1), .val (.ref b_1), .unset] [(.int p4), (.int (((p1 &&& (7 : Int32)) + (1 : Int32)) + (p2 &&& (7 : Int32)))), (.ref b_1)])) (fun t k => ?_) ?_
      · show Steps p.tables e below (T_4.setTop (mkF m 77 #[.val (.int p0), .val (.int p1), .val (.int p2), .val (.int p3), .val (.int p4), .val (.int p5), .val (.int ((p0 &&& (2147483647 : Int32)) - ((p0 &&& (2147483647 : Int32)) / (3 : Int32)) * (3 : Int32))), .val (.int (p1 &&& (7 : Int32))), .val (.int (((p1 &&& (7 : Int32)) + (1 : Int32)) + (p2 &&& (7 : Int32)))), .val (.int zv1), .val (.ref b_1), .unset] [])) _
        refine XS.aload X_4.here hx rfl (hb hby at_77) rfl rfl ?_
        show Steps p.tables e below (T_4.setTop (mkF m 79 #[.val (.int p0), .val (.int p1), .val (.int p2), .val (.int p3), .val (.int p4), .val (.int p5), .val (.int ((p0 &&& (2147483647 : Int32)) - ((p0 &&& (2147483647 : Int32)) / (3 : Int32)) * (3 : Int32))), .val (.int (p1 &&& (7 : Int32))), .val (.int (((p1 &&& (7 : Int32)) + (1 : Int32)) + (p2 &&& (7 : Int32)))), .val (.int zv1), .val (.ref b_1), .unset] [(.ref b_1)])) _
        refine XS.iload X_4.here hx rfl (hb hby at_79) rfl ?_
        show Steps p.tables e below (T_4.setTop (mkF m 81 #[.val (.int p0), .val (.int p1), .val (.int p2), .val (.int p3), .val (.int p4), .val (.int p5), .val (.int ((p0 &&& (2147483647 : Int32)) - ((p0 &&& (2147483647 : Int32)) / (3 : Int32)) * (3 : Int32))), .val (.int (p1 &&& (7 : Int32))), .val (.int (((p1 &&& (7 : Int32)) + (1 : Int32)) + (p2 &&& (7 : Int32)))), .val (.int zv1), .val (.ref b_1), .unset] [(.int (((p1 &&& (7 : Int32)) + (1 : Int32)) + (p2 &&& (7 : Int32)))), (.ref b_1)])) _
        refine XS.iload X_4.here hx rfl (hb hby at_81) rfl ?_
        exact k
      have lt_6 := (c5).lt
      obtain ⟨cq_6, kq_6, q_6a, q_6b, q_6c⟩ := isOf hZ rfl c5
      obtain ⟨_, _, ⟨T_6, L_6, k_6, n_6⟩, -, X_6, ⟨Lc_6, hQ_6, l_6, y_6, z_6⟩, st_6⟩ := X_4.virtualBack hx (y := (⟨"com/example/mudskipper/mudskipper/index/FieldLengths", "add", "(II)V"⟩ : MethodName)) (z := (⟨"com/example/mudskipper/mudskipper/index/FieldLengths", "add", "(II)V"⟩ : MethodName)) hown (mvT hZ (hw _ (List.mem_of_getElem? (i := 18) rfl))) (mvT hZ (hw _ (List.mem_of_getElem? (i := 19) rfl))) (notFace_of_selects (args := #[]) (mvT hZ (hw _ (List.mem_of_getElem? (i := 21) rfl)))) (mvT hZ (hw _ (List.mem_of_getElem? (i := 21) rfl))) (mvT hZ (hw _ (List.mem_of_getElem? (i := 20) rfl))) (by decide) (backOf (W := 0) (rm4 l Z av0 hw [] b_1 (((p1 &&& (7 : Int32)) + (1 : Int32)) + (p2 &&& (7 : Int32))) p4 w_4 kb_4 (own_maxi ((p1 &&& (7 : Int32)) + (1 : Int32)) ((0 : Int32) * (2 : Int32))) (own_put [] ((p1 &&& (7 : Int32))).toNatClampNeg p3) T_4.heap n0 Z0__4 c5 F_4 g_b_1 V_4 (by rw [own_i]; omega) (by rw [own_i]; omega) (by rw [own_i]; omega) (by rw [own_i]; omega) (own_put_len _ _ _ _ (by simp only [List.length_nil]; omega)) ne_4) hZ (hw _ (List.mem_of_getElem? (i := 22) rfl)) (hw _ (List.mem_of_getElem? (i := 3) rfl)) (by decide) (by decide)) q_6a q_6c (g := (mkF m 83 #[.val (.int p0), .val (.int p1), .val (.int p2), .val (.int p3), .val (.int p4), .val (.int p5), .val (.int ((p0 &&& (2147483647 : Int32)) - ((p0 &&& (2147483647 : Int32)) / (3 : Int32)) * (3 : Int32))), .val (.int (p1 &&& (7 : Int32))), .val (.int (((p1 &&& (7 : Int32)) + (1 : Int32)) + (p2 &&& (7 : Int32)))), .val (.int zv1), .val (.ref b_1), .unset] [(.int p4), (.int (((p1 &&& (7 : Int32)) + (1 : Int32)) + (p2 &&& (7 : Int32)))), (.ref b_1)])) rfl (by rw [hml]; rfl) (Steps.refl _) (argsL := [(.int (((p1 &&& (7 : Int32)) + (1 : Int32)) + (p2 &&& (7 : Int32)))), (.int p4)]) (rest := []) (lenOf pd_4 rfl) rfl (by show 2 * 0 + _ ≤ _; exact Nat.le_of_eq rfl) (hb hby at_83) (fun _ _ => ⟨rfl, rfl, (by decide : 3 + 1 ≤ _), (by decide : 17 + 16 ≤ _)⟩)
      dsimp only [Pt.U, Pt.locs, Pt.cells, Pt.slots] at X_6 l_6 y_6 z_6 st_6 hQ_6
      subst l_6 y_6 z_6
      obtain ⟨w_6, kb_6, rfl, N_6q, K_6, F_6, szq_6, V_6⟩ := hQ_6
      have N_6 := Fr.app N_4 N_6q
      have c7 : Keep h0 T_6.heap [] := c4.trans K_6 (allS (Or.inr sz_b_1) all0)
      have c8 : Exa Z T_6.heap b_1 "com/example/mudskipper/mudskipper/index/FieldLengths" := c5.keep K_6
      have c9 := c6.keep K_6 (ninS (Ne.symm ne_2) nin0)
      have c10 := V_4.keep K_6 (ninS (Ne.symm ne_4) nin0)
      have Z0__6 : n0 ≤ T_6.heap.size := Nat.le_trans Z0__4 K_6.1
      have ne_6 : b_1 ≠ w_6 := Nat.ne_of_lt (Nat.lt_of_lt_of_le lt_6 szq_6)
      refine own_go (B := T_6.setTop (mkF m 86 #[.val (.int p0), .val (.int p1), .val (.int p2), .val (.int p3), .val (.int p4), .val (.int p5), .val (.int ((p0 &&& (2147483647 : Int32)) - ((p0 &&& (2147483647 : Int32)) / (3 : Int32)) * (3 : Int32))), .val (.int (p1 &&& (7 : Int32))), .val (.int (((p1 &&& (7 : Int32)) + (1 : Int32)) + (p2 &&& (7 : Int32)))), .val (.int zv1), .val (.ref b_1), .unset] [])) (fun t k => st_6.trans k) ?_
      refine own_go (B := T_6.setTop (mkF m 89 #[.val (.int p0), .val (.int p1), .val (.int p2), .val (.int p3), .val (.int p4), .val (.int p5), .val (.int ((p0 &&& (2147483647 : Int32)) - ((p0 &&& (2147483647 : Int32)) / (3 : Int32)) * (3 : Int32))), .val (.int (p1 &&& (7 : Int32))), .val (.int (((p1 &&& (7 : Int32)) + (1 : Int32)) + (p2 &&& (7 : Int32)))), .val (.int zv1), .val (.ref b_1), .unset] [(.int (2 : Int32)), (.int ((p0 &&& (2147483647 : Int32)) - ((p0 &&& (2147483647 : Int32)) / (3 : Int32)) * (3 : Int32)))])) (fun t k => ?_) ?_
      · show Steps p.tables e below (T_6.setTop (mkF m 86 #[.val (.int p0), .val (.int p1), .val (.int p2), .val (.int p3), .val (.int p4), .val (.int p5), .val (.int ((p0 &&& (2147483647 : Int32)) - ((p0 &&& (2147483647 : Int32)) / (3 : Int32)) * (3 : Int32))), .val (.int (p1 &&& (7 : Int32))), .val (.int (((p1 &&& (7 : Int32)) + (1 : Int32)) + (p2 &&& (7 : Int32)))), .val (.int zv1), .val (.ref b_1), .unset] [])) _
        refine XS.iload X_6.here hx rfl (hb hby at_86) rfl ?_
        show Steps p.tables e below (T_6.setTop (mkF m 88 #[.val (.int p0), .val (.int p1), .val (.int p2), .val (.int p3), .val (.int p4), .val (.int p5), .val (.int ((p0 &&& (2147483647 : Int32)) - ((p0 &&& (2147483647 : Int32)) / (3 : Int32)) * (3 : Int32))), .val (.int (p1 &&& (7 : Int32))), .val (.int (((p1 &&& (7 : Int32)) + (1 : Int32)) + (p2 &&& (7 : Int32)))), .val (.int zv1), .val (.ref b_1), .unset] [(.int ((p0 &&& (2147483647 : Int32)) - ((p0 &&& (2147483647 : Int32)) / (3 : Int32)) * (3 : Int32)))])) _
        refine XS.iconst X_6.here hx rfl (hb hby at_88) ?_
        exact k
      refine own_go (B := T_6.setTop (mkF m 92 #[.val (.int p0), .val (.int p1), .val (.int p2), .val (.int p3), .val (.int p4), .val (.int p5), .val (.int ((p0 &&& (2147483647 : Int32)) - ((p0 &&& (2147483647 : Int32)) / (3 : Int32)) * (3 : Int32))), .val (.int (p1 &&& (7 : Int32))), .val (.int (((p1 &&& (7 : Int32)) + (1 : Int32)) + (p2 &&& (7 : Int32)))), .val (.int zv1), .val (.ref b_1), .unset] [])) (fun t k => ?_) ?_
      · show Steps p.tables e below (T_6.setTop (mkF m 89 #[.val (.int p0), .val (.int p1), .val (.int p2), .val (.int p3), .val (.int p4), .val (.int p5), .val (.int ((p0 &&& (2147483647 : Int32)) - ((p0 &&& (2147483647 : Int32)) / (3 : Int32)) * (3 : Int32))), .val (.int (p1 &&& (7 : Int32))), .val (.int (((p1 &&& (7 : Int32)) + (1 : Int32)) + (p2 &&& (7 : Int32)))), .val (.int zv1), .val (.ref b_1), .unset] [(.int (2 : Int32)), (.int ((p0 &&& (2147483647 : Int32)) - ((p0 &&& (2147483647 : Int32)) / (3 : Int32)) * (3 : Int32)))])) _
        refine XS.icmpNo X_6.here hx rfl (hb hby at_89) rfl (flt hc74).1 ?_
        exact k
      refine own_go (B := T_6.setTop (mkF m 96 #[.val (.int p0), .val (.int p1), .val (.int p2), .val (.int p3), .val (.int p4), .val (.int p5), .val (.int ((p0 &&& (2147483647 : Int32)) - ((p0 &&& (2147483647 : Int32)) / (3 : Int32)) * (3 : Int32))), .val (.int (p1 &&& (7 : Int32))), .val (.int (((p1 &&& (7 : Int32)) + (1 : Int32)) + (p2 &&& (7 : Int32)))), .val (.int zv1), .val (.ref b_1), .unset] [(.int (((p1 &&& (7 : Int32)) + (1 : Int32)) + (p2 &&& (7 : Int32)))), (.int zv1)])) (fun t k => ?_) ?_
      · show Steps p.tables e below (T_6.setTop (mkF m 92 #[.val (.int p0), .val (.int p1), .val (.int p2), .val (.int p3), .val (.int p4), .val (.int p5), .val (.int ((p0 &&& (2147483647 : Int32)) - ((p0 &&& (2147483647 : Int32)) / (3 : Int32)) * (3 : Int32))), .val (.int (p1 &&& (7 : Int32))), .val (.int (((p1 &&& (7 : Int32)) + (1 : Int32)) + (p2 &&& (7 : Int32)))), .val (.int zv1), .val (.ref b_1), .unset] [])) _
        refine XS.iload X_6.here hx rfl (hb hby at_92) rfl ?_
        show Steps p.tables e below (T_6.setTop (mkF m 94 #[.val (.int p0), .val (.int p1), .val (.int p2), .val (.int p3), .val (.int p4), .val (.int p5), .val (.int ((p0 &&& (2147483647 : Int32)) - ((p0 &&& (2147483647 : Int32)) / (3 : Int32)) * (3 : Int32))), .val (.int (p1 &&& (7 : Int32))), .val (.int (((p1 &&& (7 : Int32)) + (1 : Int32)) + (p2 &&& (7 : Int32)))), .val (.int zv1), .val (.ref b_1), .unset] [(.int zv1)])) _
        refine XS.iload X_6.here hx rfl (hb hby at_94) rfl ?_
        exact k
      obtain ⟨zv5, hzv5⟩ : ∃ z : Int32, z = (if zv1 = (((p1 &&& (7 : Int32)) + (1 : Int32)) + (p2 &&& (7 : Int32))) then p4 else (if zv1 = (p1 &&& (7 : Int32)) then p3 else (0 : Int32))) := ⟨_, rfl⟩
      refine own_go (B := T_6.setTop (mkF m 128 #[.val (.int p0), .val (.int p1), .val (.int p2), .val (.int p3), .val (.int p4), .val (.int p5), .val (.int ((p0 &&& (2147483647 : Int32)) - ((p0 &&& (2147483647 : Int32)) / (3 : Int32)) * (3 : Int32))), .val (.int (p1 &&& (7 : Int32))), .val (.int (((p1 &&& (7 : Int32)) + (1 : Int32)) + (p2 &&& (7 : Int32)))), .val (.int zv1), .val (.ref b_1), .val (.int zv5)] [])) (fun t k => ?_) ?_
      · show Steps p.tables e below (T_6.setTop (mkF m 96 #[.val (.int p0), .val (.int p1), .val (.int p2), .val (.int p3), .val (.int p4), .val (.int p5), .val (.int ((p0 &&& (2147483647 : Int32)) - ((p0 &&& (2147483647 : Int32)) / (3 : Int32)) * (3 : Int32))), .val (.int (p1 &&& (7 : Int32))), .val (.int (((p1 &&& (7 : Int32)) + (1 : Int32)) + (p2 &&& (7 : Int32)))), .val (.int zv1), .val (.ref b_1), .unset] [(.int (((p1 &&& (7 : Int32)) + (1 : Int32)) + (p2 &&& (7 : Int32)))), (.int zv1)])) _
        by_cases hc96 : zv1 = (((p1 &&& (7 : Int32)) + (1 : Int32)) + (p2 &&& (7 : Int32)))
        · refine XS.icmpNo X_6.here hx rfl (hb hby at_96) rfl (teq hc96).2 ?_
          show Steps p.tables e below (T_6.setTop (mkF m 99 #[.val (.int p0), .val (.int p1), .val (.int p2), .val (.int p3), .val (.int p4), .val (.int p5), .val (.int ((p0 &&& (2147483647 : Int32)) - ((p0 &&& (2147483647 : Int32)) / (3 : Int32)) * (3 : Int32))), .val (.int (p1 &&& (7 : Int32))), .val (.int (((p1 &&& (7 : Int32)) + (1 : Int32)) + (p2 &&& (7 : Int32)))), .val (.int zv1), .val (.ref b_1), .unset] [])) _
          refine XS.iload X_6.here hx rfl (hb hby at_99) rfl ?_
          show Steps p.tables e below (T_6.setTop (mkF m 101 #[.val (.int p0), .val (.int p1), .val (.int p2), .val (.int p3), .val (.int p4), .val (.int p5), .val (.int ((p0 &&& (2147483647 : Int32)) - ((p0 &&& (2147483647 : Int32)) / (3 : Int32)) * (3 : Int32))), .val (.int (p1 &&& (7 : Int32))), .val (.int (((p1 &&& (7 : Int32)) + (1 : Int32)) + (p2 &&& (7 : Int32)))), .val (.int zv1), .val (.ref b_1), .unset] [(.int p4)])) _
          refine XS.istore X_6.here hx rfl (hb hby at_101) rfl (l' := #[.val (.int p0), .val (.int p1), .val (.int p2), .val (.int p3), .val (.int p4), .val (.int p5), .val (.int ((p0 &&& (2147483647 : Int32)) - ((p0 &&& (2147483647 : Int32)) / (3 : Int32)) * (3 : Int32))), .val (.int (p1 &&& (7 : Int32))), .val (.int (((p1 &&& (7 : Int32)) + (1 : Int32)) + (p2 &&& (7 : Int32)))), .val (.int zv1), .val (.ref b_1), .val (.int p4)]) rfl ?_
          show Steps p.tables e below (T_6.setTop (mkF m 103 #[.val (.int p0), .val (.int p1), .val (.int p2), .val (.int p3), .val (.int p4), .val (.int p5), .val (.int ((p0 &&& (2147483647 : Int32)) - ((p0 &&& (2147483647 : Int32)) / (3 : Int32)) * (3 : Int32))), .val (.int (p1 &&& (7 : Int32))), .val (.int (((p1 &&& (7 : Int32)) + (1 : Int32)) + (p2 &&& (7 : Int32)))), .val (.int zv1), .val (.ref b_1), .val (.int p4)] [])) _
          refine XS.goto X_6.here hx rfl (pc0 := 103) (pc' := 128) rfl (hb hby at_103) (by decide) (by decide) ?_
          show Steps p.tables e below (T_6.setTop (mkF m 128 #[.val (.int p0), .val (.int p1), .val (.int p2), .val (.int p3), .val (.int p4), .val (.int p5), .val (.int ((p0 &&& (2147483647 : Int32)) - ((p0 &&& (2147483647 : Int32)) / (3 : Int32)) * (3 : Int32))), .val (.int (p1 &&& (7 : Int32))), .val (.int (((p1 &&& (7 : Int32)) + (1 : Int32)) + (p2 &&& (7 : Int32)))), .val (.int zv1), .val (.ref b_1), .val (.int p4)] [])) _
          rw [show zv5 = p4 from by simp only [hzv5, if_pos hc96]] at k
          exact k
        · refine XS.icmpYes X_6.here hx rfl (pc0 := 96) (pc' := 106) rfl (hb hby at_96) rfl (feq hc96).2 (by decide) (by decide) ?_
          show Steps p.tables e below (T_6.setTop (mkF m 106 #[.val (.int p0), .val (.int p1), .val (.int p2), .val (.int p3), .val (.int p4), .val (.int p5), .val (.int ((p0 &&& (2147483647 : Int32)) - ((p0 &&& (2147483647 : Int32)) / (3 : Int32)) * (3 : Int32))), .val (.int (p1 &&& (7 : Int32))), .val (.int (((p1 &&& (7 : Int32)) + (1 : Int32)) + (p2 &&& (7 : Int32)))), .val (.int zv1), .val (.ref b_1), .unset] [])) _
          refine XS.iload X_6.here hx rfl (hb hby at_106) rfl ?_
          show Steps p.tables e below (T_6.setTop (mkF m 108 #[.val (.int p0), .val (.int p1), .val (.int p2), .val (.int p3), .val (.int p4), .val (.int p5), .val (.int ((p0 &&& (2147483647 : Int32)) - ((p0 &&& (2147483647 : Int32)) / (3 : Int32)) * (3 : Int32))), .val (.int (p1 &&& (7 : Int32))), .val (.int (((p1 &&& (7 : Int32)) + (1 : Int32)) + (p2 &&& (7 : Int32)))), .val (.int zv1), .val (.ref b_1), .unset] [(.int ((p0 &&& (2147483647 : Int32)) - ((p0 &&& (2147483647 : Int32)) / (3 : Int32)) * (3 : Int32)))])) _
          refine XS.iconst X_6.here hx rfl (hb hby at_108) ?_
          show Steps p.tables e below (T_6.setTop (mkF m 109 #[.val (.int p0), .val (.int p1), .val (.int p2), .val (.int p3), .val (.int p4), .val (.int p5), .val (.int ((p0 &&& (2147483647 : Int32)) - ((p0 &&& (2147483647 : Int32)) / (3 : Int32)) * (3 : Int32))), .val (.int (p1 &&& (7 : Int32))), .val (.int (((p1 &&& (7 : Int32)) + (1 : Int32)) + (p2 &&& (7 : Int32)))), .val (.int zv1), .val (.ref b_1), .unset] [(.int (1 : Int32)), (.int ((p0 &&& (2147483647 : Int32)) - ((p0 &&& (2147483647 : Int32)) / (3 : Int32)) * (3 : Int32)))])) _
          refine XS.icmpNo X_6.here hx rfl (hb hby at_109) rfl (flt hc60).1 ?_
          show Steps p.tables e below (T_6.setTop (mkF m 112 #[.val (.int p0), .val (.int p1), .val (.int p2), .val (.int p3), .val (.int p4), .val (.int p5), .val (.int ((p0 &&& (2147483647 : Int32)) - ((p0 &&& (2147483647 : Int32)) / (3 : Int32)) * (3 : Int32))), .val (.int (p1 &&& (7 : Int32))), .val (.int (((p1 &&& (7 : Int32)) + (1 : Int32)) + (p2 &&& (7 : Int32)))), .val (.int zv1), .val (.ref b_1), .unset] [])) _
          refine XS.iload X_6.here hx rfl (hb hby at_112) rfl ?_
          show Steps p.tables e below (T_6.setTop (mkF m 114 #[.val (.int p0), .val (.int p1), .val (.int p2), .val (.int p3), .val (.int p4), .val (.int p5), .val (.int ((p0 &&& (2147483647 : Int32)) - ((p0 &&& (2147483647 : Int32)) / (3 : Int32)) * (3 : Int32))), .val (.int (p1 &&& (7 : Int32))), .val (.int (((p1 &&& (7 : Int32)) + (1 : Int32)) + (p2 &&& (7 : Int32)))), .val (.int zv1), .val (.ref b_1), .unset] [(.int zv1)])) _
          refine XS.iload X_6.here hx rfl (hb hby at_114) rfl ?_
          show Steps p.tables e below (T_6.setTop (mkF m 116 #[.val (.int p0), .val (.int p1), .val (.int p2), .val (.int p3), .val (.int p4), .val (.int p5), .val (.int ((p0 &&& (2147483647 : Int32)) - ((p0 &&& (2147483647 : Int32)) / (3 : Int32)) * (3 : Int32))), .val (.int (p1 &&& (7 : Int32))), .val (.int (((p1 &&& (7 : Int32)) + (1 : Int32)) + (p2 &&& (7 : Int32)))), .val (.int zv1), .val (.ref b_1), .unset] [(.int (p1 &&& (7 : Int32))), (.int zv1)])) _
          by_cases hc116 : zv1 = (p1 &&& (7 : Int32))
          · refine XS.icmpNo X_6.here hx rfl (hb hby at_116) rfl (teq hc116).2 ?_
            show Steps p.tables e below (T_6.setTop (mkF m 119 #[.val (.int p0), .val (.int p1), .val (.int p2), .val (.int p3), .val (.int p4), .val (.int p5), .val (.int ((p0 &&& (2147483647 : Int32)) - ((p0 &&& (2147483647 : Int32)) / (3 : Int32)) * (3 : Int32))), .val (.int (p1 &&& (7 : Int32))), .val (.int (((p1 &&& (7 : Int32)) + (1 : Int32)) + (p2 &&& (7 : Int32)))), .val (.int zv1), .val (.ref b_1), .unset] [])) _
            refine XS.iloadN X_6.here hx rfl (hb hby at_119) rfl ?_
            show Steps p.tables e below (T_6.setTop (mkF m 120 #[.val (.int p0), .val (.int p1), .val (.int p2), .val (.int p3), .val (.int p4), .val (.int p5), .val (.int ((p0 &&& (2147483647 : Int32)) - ((p0 &&& (2147483647 : Int32)) / (3 : Int32)) * (3 : Int32))), .val (.int (p1 &&& (7 : Int32))), .val (.int (((p1 &&& (7 : Int32)) + (1 : Int32)) + (p2 &&& (7 : Int32)))), .val (.int zv1), .val (.ref b_1), .unset] [(.int p3)])) _
            refine XS.istore X_6.here hx rfl (hb hby at_120) rfl (l' := #[.val (.int p0), .val (.int p1), .val (.int p2), .val (.int p3), .val (.int p4), .val (.int p5), .val (.int ((p0 &&& (2147483647 : Int32)) - ((p0 &&& (2147483647 : Int32)) / (3 : Int32)) * (3 : Int32))), .val (.int (p1 &&& (7 : Int32))), .val (.int (((p1 &&& (7 : Int32)) + (1 : Int32)) + (p2 &&& (7 : Int32)))), .val (.int zv1), .val (.ref b_1), .val (.int p3)]) rfl ?_
            show Steps p.tables e below (T_6.setTop (mkF m 122 #[.val (.int p0), .val (.int p1), .val (.int p2), .val (.int p3), .val (.int p4), .val (.int p5), .val (.int ((p0 &&& (2147483647 : Int32)) - ((p0 &&& (2147483647 : Int32)) / (3 : Int32)) * (3 : Int32))), .val (.int (p1 &&& (7 : Int32))), .val (.int (((p1 &&& (7 : Int32)) + (1 : Int32)) + (p2 &&& (7 : Int32)))), .val (.int zv1), .val (.ref b_1), .val (.int p3)] [])) _
            refine XS.goto X_6.here hx rfl (pc0 := 122) (pc' := 128) rfl (hb hby at_122) (by decide) (by decide) ?_
            show Steps p.tables e below (T_6.setTop (mkF m 128 #[.val (.int p0), .val (.int p1), .val (.int p2), .val (.int p3), .val (.int p4), .val (.int p5), .val (.int ((p0 &&& (2147483647 : Int32)) - ((p0 &&& (2147483647 : Int32)) / (3 : Int32)) * (3 : Int32))), .val (.int (p1 &&& (7 : Int32))), .val (.int (((p1 &&& (7 : Int32)) + (1 : Int32)) + (p2 &&& (7 : Int32)))), .val (.int zv1), .val (.ref b_1), .val (.int p3)] [])) _
            rw [show zv5 = p3 from by simp only [hzv5, if_neg hc96, if_pos hc116]] at k
            exact k
          · refine XS.icmpYes X_6.here hx rfl (pc0 := 116) (pc' := 125) rfl (hb hby at_116) rfl (feq hc116).2 (by decide) (by decide) ?_
            show Steps p.tables e below (T_6.setTop (mkF m 125 #[.val (.int p0), .val (.int p1), .val (.int p2), .val (.int p3), .val (.int p4), .val (.int p5), .val (.int ((p0 &&& (2147483647 : Int32)) - ((p0 &&& (2147483647 : Int32)) / (3 : Int32)) * (3 : Int32))), .val (.int (p1 &&& (7 : Int32))), .val (.int (((p1 &&& (7 : Int32)) + (1 : Int32)) + (p2 &&& (7 : Int32)))), .val (.int zv1), .val (.ref b_1), .unset] [])) _
            refine XS.iconst X_6.here hx rfl (hb hby at_125) ?_
            show Steps p.tables e below (T_6.setTop (mkF m 126 #[.val (.int p0), .val (.int p1), .val (.int p2), .val (.int p3), .val (.int p4), .val (.int p5), .val (.int ((p0 &&& (2147483647 : Int32)) - ((p0 &&& (2147483647 : Int32)) / (3 : Int32)) * (3 : Int32))), .val (.int (p1 &&& (7 : Int32))), .val (.int (((p1 &&& (7 : Int32)) + (1 : Int32)) + (p2 &&& (7 : Int32)))), .val (.int zv1), .val (.ref b_1), .unset] [(.int (0 : Int32))])) _
            refine XS.istore X_6.here hx rfl (hb hby at_126) rfl (l' := #[.val (.int p0), .val (.int p1), .val (.int p2), .val (.int p3), .val (.int p4), .val (.int p5), .val (.int ((p0 &&& (2147483647 : Int32)) - ((p0 &&& (2147483647 : Int32)) / (3 : Int32)) * (3 : Int32))), .val (.int (p1 &&& (7 : Int32))), .val (.int (((p1 &&& (7 : Int32)) + (1 : Int32)) + (p2 &&& (7 : Int32)))), .val (.int zv1), .val (.ref b_1), .val (.int (0 : Int32))]) rfl ?_
            show Steps p.tables e below (T_6.setTop (mkF m 128 #[.val (.int p0), .val (.int p1), .val (.int p2), .val (.int p3), .val (.int p4), .val (.int p5), .val (.int ((p0 &&& (2147483647 : Int32)) - ((p0 &&& (2147483647 : Int32)) / (3 : Int32)) * (3 : Int32))), .val (.int (p1 &&& (7 : Int32))), .val (.int (((p1 &&& (7 : Int32)) + (1 : Int32)) + (p2 &&& (7 : Int32)))), .val (.int zv1), .val (.ref b_1), .val (.int (0 : Int32))] [])) _
            rw [show zv5 = (0 : Int32) from by simp only [hzv5, if_neg hc96, if_neg hc116]] at k
            exact k
      refine own_go (B := T_6.setTop (mkF m 132 #[.val (.int p0), .val (.int p1), .val (.int p2), .val (.int p3), .val (.int p4), .val (.int p5), .val (.int ((p0 &&& (2147483647 : Int32)) - ((p0 &&& (2147483647 : Int32)) / (3 : Int32)) * (3 : Int32))), .val (.int (p1 &&& (7 : Int32))), .val (.int (((p1 &&& (7 : Int32)) + (1 : Int32)) + (p2 &&& (7 : Int32)))), .val (.int zv1), .val (.ref b_1), .val (.int zv5)] [(.int zv1), (.ref b_1)])) (fun t k => ?_) ?_
      · show Steps p.tables e below (T_6.setTop (mkF m 128 #[.val (.int p0), .val (.int p1), .val (.int p2), .val (.int p3), .val (.int p4), .val (.int p5), .val (.int ((p0 &&& (2147483647 : Int32)) - ((p0 &&& (2147483647 : Int32)) / (3 : Int32)) * (3 : Int32))), .val (.int (p1 &&& (7 : Int32))), .val (.int (((p1 &&& (7 : Int32)) + (1 : Int32)) + (p2 &&& (7 : Int32)))), .val (.int zv1), .val (.ref b_1), .val (.int zv5)] [])) _
        refine XS.aload X_6.here hx rfl (hb hby at_128) rfl rfl ?_
        show Steps p.tables e below (T_6.setTop (mkF m 130 #[.val (.int p0), .val (.int p1), .val (.int p2), .val (.int p3), .val (.int p4), .val (.int p5), .val (.int ((p0 &&& (2147483647 : Int32)) - ((p0 &&& (2147483647 : Int32)) / (3 : Int32)) * (3 : Int32))), .val (.int (p1 &&& (7 : Int32))), .val (.int (((p1 &&& (7 : Int32)) + (1 : Int32)) + (p2 &&& (7 : Int32)))), .val (.int zv1), .val (.ref b_1), .val (.int zv5)] [(.ref b_1)])) _
        refine XS.iload X_6.here hx rfl (hb hby at_130) rfl ?_
        exact k
      obtain ⟨cq_7, kq_7, q_7a, q_7b, q_7c⟩ := isOf hZ rfl c8
      obtain ⟨_, _, ⟨T_7, L_7, k_7, n_7⟩, -, X_7, ⟨Lc_7, hQ_7, l_7, y_7, z_7⟩, st_7⟩ := X_6.virtualBack hx (y := (⟨"com/example/mudskipper/mudskipper/index/FieldLengths", "length", "(I)I"⟩ : MethodName)) (z := (⟨"com/example/mudskipper/mudskipper/index/FieldLengths", "length", "(I)I"⟩ : MethodName)) hown (mvT hZ (hw _ (List.mem_of_getElem? (i := 13) rfl))) (mvT hZ (hw _ (List.mem_of_getElem? (i := 14) rfl))) (notFace_of_selects (args := #[]) (mvT hZ (hw _ (List.mem_of_getElem? (i := 16) rfl)))) (mvT hZ (hw _ (List.mem_of_getElem? (i := 16) rfl))) (mvT hZ (hw _ (List.mem_of_getElem? (i := 15) rfl))) (by decide) (backOf (W := 0) (rm3 l Z av0 hw [] b_1 zv1 w_6 kb_6 (own_maxi ((((p1 &&& (7 : Int32)) + (1 : Int32)) + (p2 &&& (7 : Int32))) + (1 : Int32)) ((own_maxi ((p1 &&& (7 : Int32)) + (1 : Int32)) ((0 : Int32) * (2 : Int32))) * (2 : Int32))) (own_put (own_put [] ((p1 &&& (7 : Int32))).toNatClampNeg p3) ((((p1 &&& (7 : Int32)) + (1 : Int32)) + (p2 &&& (7 : Int32)))).toNatClampNeg p4) T_6.heap n0 Z0__6 F_6 V_6 hq) hZ (hw _ (List.mem_of_getElem? (i := 17) rfl)) (hw _ (List.mem_of_getElem? (i := 3) rfl)) (by decide) (by decide)) q_7a q_7c (g := (mkF m 132 #[.val (.int p0), .val (.int p1), .val (.int p2), .val (.int p3), .val (.int p4), .val (.int p5), .val (.int ((p0 &&& (2147483647 : Int32)) - ((p0 &&& (2147483647 : Int32)) / (3 : Int32)) * (3 : Int32))), .val (.int (p1 &&& (7 : Int32))), .val (.int (((p1 &&& (7 : Int32)) + (1 : Int32)) + (p2 &&& (7 : Int32)))), .val (.int zv1), .val (.ref b_1), .val (.int zv5)] [(.int zv1), (.ref b_1)])) rfl (by rw [hml]; rfl) (Steps.refl _) (argsL := [(.int zv1)]) (rest := []) (lenOf pd_3 rfl) rfl (by show 2 * 0 + _ ≤ _; exact Nat.le_of_eq rfl) (hb hby at_132) (fun _ _ => ⟨rfl, rfl, (by decide : 4 + 0 ≤ _), (by decide : 33 + 0 ≤ _)⟩)
      dsimp only [Pt.U, Pt.locs, Pt.cells, Pt.slots] at X_7 l_7 y_7 z_7 st_7 hQ_7
      subst l_7 y_7 z_7
      obtain ⟨rfl, N_7q, e_7⟩ := hQ_7
      have N_7 := Fr.app N_6 N_7q
      refine own_go (B := T_7.setTop (mkF m 135 #[.val (.int p0), .val (.int p1), .val (.int p2), .val (.int p3), .val (.int p4), .val (.int p5), .val (.int ((p0 &&& (2147483647 : Int32)) - ((p0 &&& (2147483647 : Int32)) / (3 : Int32)) * (3 : Int32))), .val (.int (p1 &&& (7 : Int32))), .val (.int (((p1 &&& (7 : Int32)) + (1 : Int32)) + (p2 &&& (7 : Int32)))), .val (.int zv1), .val (.ref b_1), .val (.int zv5)] [(.int (own_len (own_maxi ((((p1 &&& (7 : Int32)) + (1 : Int32)) + (p2 &&& (7 : Int32))) + (1 : Int32)) ((own_maxi ((p1 &&& (7 : Int32)) + (1 : Int32)) ((0 : Int32) * (2 : Int32))) * (2 : Int32))) (own_put (own_put [] ((p1 &&& (7 : Int32))).toNatClampNeg p3) ((((p1 &&& (7 : Int32)) + (1 : Int32)) + (p2 &&& (7 : Int32)))).toNatClampNeg p4) zv1))])) (fun t k => st_7.trans k) ?_
      refine own_go (B := T_7.setTop (mkF m 137 #[.val (.int p0), .val (.int p1), .val (.int p2), .val (.int p3), .val (.int p4), .val (.int p5), .val (.int ((p0 &&& (2147483647 : Int32)) - ((p0 &&& (2147483647 : Int32)) / (3 : Int32)) * (3 : Int32))), .val (.int (p1 &&& (7 : Int32))), .val (.int (((p1 &&& (7 : Int32)) + (1 : Int32)) + (p2 &&& (7 : Int32)))), .val (.int zv1), .val (.ref b_1), .val (.int zv5)] [(.int zv5), (.int (own_len (own_maxi ((((p1 &&& (7 : Int32)) + (1 : Int32)) + (p2 &&& (7 : Int32))) + (1 : Int32)) ((own_maxi ((p1 &&& (7 : Int32)) + (1 : Int32)) ((0 : Int32) * (2 : Int32))) * (2 : Int32))) (own_put (own_put [] ((p1 &&& (7 : Int32))).toNatClampNeg p3) ((((p1 &&& (7 : Int32)) + (1 : Int32)) + (p2 &&& (7 : Int32)))).toNatClampNeg p4) zv1))])) (fun t k => ?_) ?_
      · show Steps p.tables e below (T_7.setTop (mkF m 135 #[.val (.int p0), .val (.int p1), .val (.int p2), .val (.int p3), .val (.int p4), .val (.int p5), .val (.int ((p0 &&& (2147483647 : Int32)) - ((p0 &&& (2147483647 : Int32)) / (3 : Int32)) * (3 : Int32))), .val (.int (p1 &&& (7 : Int32))), .val (.int (((p1 &&& (7 : Int32)) + (1 : Int32)) + (p2 &&& (7 : Int32)))), .val (.int zv1), .val (.ref b_1), .val (.int zv5)] [(.int (own_len (own_maxi ((((p1 &&& (7 : Int32)) + (1 : Int32)) + (p2 &&& (7 : Int32))) + (1 : Int32)) ((own_maxi ((p1 &&& (7 : Int32)) + (1 : Int32)) ((0 : Int32) * (2 : Int32))) * (2 : Int32))) (own_put (own_put [] ((p1 &&& (7 : Int32))).toNatClampNeg p3) ((((p1 &&& (7 : Int32)) + (1 : Int32)) + (p2 &&& (7 : Int32)))).toNatClampNeg p4) zv1))])) _
        refine XS.iload X_7.here hx rfl (hb hby at_135) rfl ?_
        exact k
      obtain ⟨zv6, hzv6⟩ : ∃ z : Int32, z = (if (own_len (own_maxi ((((p1 &&& (7 : Int32)) + (1 : Int32)) + (p2 &&& (7 : Int32))) + (1 : Int32)) ((own_maxi ((p1 &&& (7 : Int32)) + (1 : Int32)) ((0 : Int32) * (2 : Int32))) * (2 : Int32))) (own_put (own_put [] ((p1 &&& (7 : Int32))).toNatClampNeg p3) ((((p1 &&& (7 : Int32)) + (1 : Int32)) + (p2 &&& (7 : Int32)))).toNatClampNeg p4) zv1) = zv5 then (1 : Int32) else (0 : Int32)) := ⟨_, rfl⟩
      refine own_go (B := T_7.setTop (mkF m 145 #[.val (.int p0), .val (.int p1), .val (.int p2), .val (.int p3), .val (.int p4), .val (.int p5), .val (.int ((p0 &&& (2147483647 : Int32)) - ((p0 &&& (2147483647 : Int32)) / (3 : Int32)) * (3 : Int32))), .val (.int (p1 &&& (7 : Int32))), .val (.int (((p1 &&& (7 : Int32)) + (1 : Int32)) + (p2 &&& (7 : Int32)))), .val (.int zv1), .val (.ref b_1), .val (.int zv5)] [(.int zv6)])) (fun t k => ?_) ?_
      · show Steps p.tables e below (T_7.setTop (mkF m 137 #[.val (.int p0), .val (.int p1), .val (.int p2), .val (.int p3), .val (.int p4), .val (.int p5), .val (.int ((p0 &&& (2147483647 : Int32)) - ((p0 &&& (2147483647 : Int32)) / (3 : Int32)) * (3 : Int32))), .val (.int (p1 &&& (7 : Int32))), .val (.int (((p1 &&& (7 : Int32)) + (1 : Int32)) + (p2 &&& (7 : Int32)))), .val (.int zv1), .val (.ref b_1), .val (.int zv5)] [(.int zv5), (.int (own_len (own_maxi ((((p1 &&& (7 : Int32)) + (1 : Int32)) + (p2 &&& (7 : Int32))) + (1 : Int32)) ((own_maxi ((p1 &&& (7 : Int32)) + (1 : Int32)) ((0 : Int32) * (2 : Int32))) * (2 : Int32))) (own_put (own_put [] ((p1 &&& (7 : Int32))).toNatClampNeg p3) ((((p1 &&& (7 : Int32)) + (1 : Int32)) + (p2 &&& (7 : Int32)))).toNatClampNeg p4) zv1))])) _
        by_cases hc137 : (own_len (own_maxi ((((p1 &&& (7 : Int32)) + (1 : Int32)) + (p2 &&& (7 : Int32))) + (1 : Int32)) ((own_maxi ((p1 &&& (7 : Int32)) + (1 : Int32)) ((0 : Int32) * (2 : Int32))) * (2 : Int32))) (own_put (own_put [] ((p1 &&& (7 : Int32))).toNatClampNeg p3) ((((p1 &&& (7 : Int32)) + (1 : Int32)) + (p2 &&& (7 : Int32)))).toNatClampNeg p4) zv1) = zv5
        · refine XS.icmpNo X_7.here hx rfl (hb hby at_137) rfl (teq hc137).2 ?_
          show Steps p.tables e below (T_7.setTop (mkF m 140 #[.val (.int p0), .val (.int p1), .val (.int p2), .val (.int p3), .val (.int p4), .val (.int p5), .val (.int ((p0 &&& (2147483647 : Int32)) - ((p0 &&& (2147483647 : Int32)) / (3 : Int32)) * (3 : Int32))), .val (.int (p1 &&& (7 : Int32))), .val (.int (((p1 &&& (7 : Int32)) + (1 : Int32)) + (p2 &&& (7 : Int32)))), .val (.int zv1), .val (.ref b_1), .val (.int zv5)] [])) _
          refine XS.iconst X_7.here hx rfl (hb hby at_140) ?_
          show Steps p.tables e below (T_7.setTop (mkF m 141 #[.val (.int p0), .val (.int p1), .val (.int p2), .val (.int p3), .val (.int p4), .val (.int p5), .val (.int ((p0 &&& (2147483647 : Int32)) - ((p0 &&& (2147483647 : Int32)) / (3 : Int32)) * (3 : Int32))), .val (.int (p1 &&& (7 : Int32))), .val (.int (((p1 &&& (7 : Int32)) + (1 : Int32)) + (p2 &&& (7 : Int32)))), .val (.int zv1), .val (.ref b_1), .val (.int zv5)] [(.int (1 : Int32))])) _
          refine XS.goto X_7.here hx rfl (pc0 := 141) (pc' := 145) rfl (hb hby at_141) (by decide) (by decide) ?_
          show Steps p.tables e below (T_7.setTop (mkF m 145 #[.val (.int p0), .val (.int p1), .val (.int p2), .val (.int p3), .val (.int p4), .val (.int p5), .val (.int ((p0 &&& (2147483647 : Int32)) - ((p0 &&& (2147483647 : Int32)) / (3 : Int32)) * (3 : Int32))), .val (.int (p1 &&& (7 : Int32))), .val (.int (((p1 &&& (7 : Int32)) + (1 : Int32)) + (p2 &&& (7 : Int32)))), .val (.int zv1), .val (.ref b_1), .val (.int zv5)] [(.int (1 : Int32))])) _
          rw [show zv6 = (1 : Int32) from by simp only [hzv6, if_pos hc137]] at k
          exact k
        · refine XS.icmpYes X_7.here hx rfl (pc0 := 137) (pc' := 144) rfl (hb hby at_137) rfl (feq hc137).2 (by decide) (by decide) ?_
          show Steps p.tables e below (T_7.setTop (mkF m 144 #[.val (.int p0), .val (.int p1), .val (.int p2), .val (.int p3), .val (.int p4), .val (.int p5), .val (.int ((p0 &&& (2147483647 : Int32)) - ((p0 &&& (2147483647 : Int32)) / (3 : Int32)) * (3 : Int32))), .val (.int (p1 &&& (7 : Int32))), .val (.int (((p1 &&& (7 : Int32)) + (1 : Int32)) + (p2 &&& (7 : Int32)))), .val (.int zv1), .val (.ref b_1), .val (.int zv5)] [])) _
          refine XS.iconst X_7.here hx rfl (hb hby at_144) ?_
          show Steps p.tables e below (T_7.setTop (mkF m 145 #[.val (.int p0), .val (.int p1), .val (.int p2), .val (.int p3), .val (.int p4), .val (.int p5), .val (.int ((p0 &&& (2147483647 : Int32)) - ((p0 &&& (2147483647 : Int32)) / (3 : Int32)) * (3 : Int32))), .val (.int (p1 &&& (7 : Int32))), .val (.int (((p1 &&& (7 : Int32)) + (1 : Int32)) + (p2 &&& (7 : Int32)))), .val (.int zv1), .val (.ref b_1), .val (.int zv5)] [(.int (0 : Int32))])) _
          rw [show zv6 = (0 : Int32) from by simp only [hzv6, if_neg hc137]] at k
          exact k
      obtain ⟨fs, hr, hrun, hended, hW, hsame⟩ := X_7.leave (v := some (.int (nar .boolean zv6))) (fun h => by rw [Bd.returns] at h; cases h)
      refine ⟨_, _, ?_, hrun, hended, _, _, rfl, ?_, ⟨_, rfl⟩, hW, hsame.mono (by decide) (by decide)⟩
      · show Steps p.tables e below (T_7.setTop (mkF m 145 #[.val (.int p0), .val (.int p1), .val (.int p2), .val (.int p3), .val (.int p4), .val (.int p5), .val (.int ((p0 &&& (2147483647 : Int32)) - ((p0 &&& (2147483647 : Int32)) / (3 : Int32)) * (3 : Int32))), .val (.int (p1 &&& (7 : Int32))), .val (.int (((p1 &&& (7 : Int32)) + (1 : Int32)) + (p2 &&& (7 : Int32)))), .val (.int zv1), .val (.ref b_1), .val (.int zv5)] [(.int zv6)])) _
        exact retN X_7 hx (t := .boolean) Bd.returns (by simp) (hb hby at_145) hr
      · show Q0 Z p0 p1 p2 p3 p4 p5 h0 n0 _ T_7.heap _
        rw [e_7]
        exact ⟨by rw [show zv6 = (1 : Int32) from by rw [hzv6]; exact if_pos (by rw [own_len_p _ _ _ _ _ hq (by rw [own_i]; omega) (by rw [own_i]; omega), hzv5]; rw [own_last _ 0 _ _ _ hq (by rw [own_i]; omega) (by rw [own_i]; omega)])]; rfl, N_7, trivial⟩
set_option maxRecDepth 65536 in
set_option maxHeartbeats 40000000 in
theorem comes_1 {Post : Tables → Env → Array Value → State → Outcome → State → Prop} (hpost : ∀ tb e args s v u, (limb_1_1.after args s (.returned v) u = true ∧ limb_1_2.after args s (.returned v) u = true ∧ True) → FrameEnd s (.returned v) u (Jvm.fieldLocs frame_1_writes args s ++ Jvm.arrayLocs frame_1_arrays args s ++ Jvm.staticLocs frame_1_statics s) 16 128 → Post tb e args s (.returned v) u) :
    ArmFor flags0 classFile x code maxLocals ret World_1 tables_1 room_1 Calls_1 rest_1 Pre_1 Post := by
  intro l hfl _ _ p e ha hc hk s m args below hf hA hF happ hP
  obtain ⟨hcalls, hrest, hpre⟩ := hP
  obtain ⟨-, -, -, hnamed, -, -, -, hat⟩ := (Spec.applies_iff hf).mp happ
  obtain ⟨hg, hn⟩ := and_e (Cond.before_iff.mp (show (Jvm.Cond.and given_1 narrow_1).before args s = true from hpre))
  obtain ⟨g1, g2⟩ := and_e hg
  obtain ⟨g3, g4⟩ := and_e g2
  obtain ⟨g5, g6⟩ := and_e g4
  obtain ⟨g7, g8⟩ := and_e g6
  obtain ⟨g9, g10⟩ := and_e g8
  obtain ⟨g11, g12⟩ := and_e g10
  obtain ⟨w0, w1, w2, w3, w4, w5, rfl⟩ : ∃ w0 w1 w2 w3 w4 w5 : Value, args = #[w0, w1, w2, w3, w4, w5] := by
    have hs : args.size = 6 := by simpa [Cond.value, given_1] using g1
    obtain ⟨L⟩ := args
    match L, hs with
    | [w0, w1, w2, w3, w4, w5], _ => exact ⟨w0, w1, w2, w3, w4, w5, rfl⟩
  have hw := fun d (hd : d ∈ tables_1) => atoms_spec (ws := Jvm.Cond.code x code maxLocals ret :: tables_1) hat d (List.mem_cons_of_mem _ hd)
  have hfit : Fit s := fun {y c} hc i hi => by
    obtain ⟨ha, rfl⟩ := Array.getElem?_eq_some_iff.mp hc
    have q := List.all_eq_true.mp ((Array.all_eq_true_iff_forall_mem.mp hF) _ (Array.getElem_mem ha)) i (List.mem_range.mpr hi)
    simpa [Array.getElem?_eq_getElem hi] using q
  obtain ⟨i0, ei0⟩ := is_v g3
  obtain rfl : w0 = (.int i0) := Option.some.inj ei0
  obtain ⟨i1, ei1⟩ := is_v g5
  obtain rfl : w1 = (.int i1) := Option.some.inj ei1
  obtain ⟨i2, ei2⟩ := is_v g7
  obtain rfl : w2 = (.int i2) := Option.some.inj ei2
  obtain ⟨i3, ei3⟩ := is_v g9
  obtain rfl : w3 = (.int i3) := Option.some.inj ei3
  obtain ⟨i4, ei4⟩ := is_v g11
  obtain rfl : w4 = (.int i4) := Option.some.inj ei4
  obtain ⟨i5, ei5⟩ := is_v g12
  obtain rfl : w5 = (.int i5) := Option.some.inj ei5
  obtain ⟨n, o, h1, h2, h3, _, L, rfl, ⟨rfl, N, -⟩, hq⟩ := rm0 l s _ hw tables_1 i0 i1 i2 i3 i4 i5 s.heap s.heap.size (Nat.le_refl _) p e ha hc hk s m _ below hf ((Spec.applies_iff_loose hf).mp happ).1 ⟨rfl, State.Warmed39.refl s, rfl⟩ trivial
  refine ⟨n, _, h1, h2, h3, hpost _ _ _ _ _ _ ⟨Cond.after_iff.mpr rfl, Cond.after_iff.mpr (eq_i res_at (Term.int_eval (1)) rfl), trivial⟩ ⟨hq.1, hq.2.1, (hq.2.2.sift fun y hy => Or.inr (N y hy)).mono (by decide) (by decide)⟩⟩
theorem main_1_1 : Claimed_1_1 := comes_1 fun _ _ _ _ _ _ h hF => ⟨h.1, hF⟩
theorem main_1_2 : Claimed_1_2 := comes_1 fun _ _ _ _ _ _ h hF => ⟨h.2.1, hF⟩
end Jvm.Pilot.@@N@@
namespace Jvm.Pilot.@@N@@
open Jvm Jvm.ClassFile Sem Op Lib Jvm.Free Jvm.Stand Jvm.Pilot.@@N@@.Jvm.D
/-! MADE BY PROGRAM (witnessworld.py) out of the Statement's table words and the real class files: 12 classes; the members and pool entries that the words name. The judged class is class 1, her method 1. -/
namespace start1
open Jvm.ClassFile
def u (s : String) : CpInfo := .utf8 (stringToUtf16 s)
/-- a pool by its gaps: so many unusable entries, then the entry; so many at the end -/
def gap : Nat → List CpInfo → List CpInfo
  | 0, r => r
  | n + 1, r => .unusable :: gap n r
def poolList (es : List (Nat × CpInfo)) (last : Nat) : List CpInfo := es.foldr (fun e r => gap e.1 (e.2 :: r)) (gap last [])
def pool (es : List (Nat × CpInfo)) (last : Nat) : Array CpInfo := ⟨poolList es last⟩
def fileOf (pool : Array CpInfo) (this : Nat) (attrs : Array Attribute := #[]) (ms : Array MethodInfo := #[]) (fl : Nat := 33) (sup : Nat := 0) (ifs : Array Nat := #[]) (fds : Array FieldInfo := #[]) : ClassFile where
  minorVersion := 0
  majorVersion := 65
  constantPool := pool
  accessFlags := fl
  thisClass := this
  superClass := sup
  interfaces := ifs
  fields := fds
  methods := ms
  attributes := attrs
def plain (name : String) (sup : Option ClassId) : Class where
  name := name
  kind := .ordinary
  loader := none
  accessFlags := 33
  super := sup
  interfaces := #[]
  cf := none
  fields := #[]
  methods := #[]
  instanceTypes := #[]
  staticTypes := #[]
  resolved := #[]
  callSites := []
  init := .initialized
  statics := none
  mirror := none

def pool0 : Array CpInfo := pool [(5, u "<init>"), (0, u "()V"), (1, .class_ 10), (1, u "java/lang/Object")] 113

def k0c0 : Code := { maxStack := 0, maxLocals := 1, code := object_method_1_code, exceptionTable := #[], attributes := #[] }
def k0m0 : Method := { name := "<init>", desc := "()V", sig := { parameters := [], returnType := none }, accessFlags := 1, code := some k0c0 }
/-- java/lang/Object -/
def k0 : Class := { plain "java/lang/Object" none with
  accessFlags := 33
  interfaces := #[]
  cf := some (fileOf pool0 8 #[] #[{ accessFlags := 1, nameIndex := 5, descriptorIndex := 6, attributes := #[] }] 33 0 #[] #[])
  fields := #[]
  methods := #[k0m0]
  instanceTypes := #[]
  staticTypes := #[]
  resolved := Array.replicate 124 none
  statics := none }

def pool1 : Array CpInfo := pool [(2, .class_ 4), (0, .nameAndType 5 6), (0, u "java/lang/Object"), (0, u "<init>"), (0, u "()V"), (0, .integer 2147483647), (0, .class_ 9), (0, u "com/example/mudskipper/mudskipper/index/FieldLengths"), (0, .methodref 8 3), (0, .methodref 8 12), (0, .nameAndType 13 14), (0, u "add"), (0, u "(II)V"), (0, .methodref 8 16), (0, .nameAndType 17 18), (0, u "length"), (0, u "(I)I"), (0, .class_ 20), (0, u "com/example/mudskipper/mudskipper/index/FieldLengthsLengthPinLaw"), (2, u "law"), (0, u "(IIIIII)Z")] 3

def k1m0 : Method := { name := "<init>", desc := "()V", sig := { parameters := [], returnType := none }, accessFlags := 1, code := none }
def k1c1 : Code := { maxStack := 3, maxLocals := 12, code := code, exceptionTable := #[], attributes := #[] }
def k1m1 : Method := { name := "law", desc := "(IIIIII)Z", sig := { parameters := [.int, .int, .int, .int, .int, .int], returnType := some .boolean }, accessFlags := 9, code := some k1c1 }
/-- com/example/mudskipper/mudskipper/index/FieldLengthsLengthPinLaw -/
def k1 : Class := { plain "com/example/mudskipper/mudskipper/index/FieldLengthsLengthPinLaw" (some 0) with
  accessFlags := 49
  interfaces := #[]
  cf := some (fileOf pool1 19 #[] #[{ accessFlags := 1, nameIndex := 5, descriptorIndex := 6, attributes := #[] }, { accessFlags := 9, nameIndex := 23, descriptorIndex := 24, attributes := #[] }] 49 2 #[] #[])
  fields := #[]
  methods := #[k1m0, k1m1]
  instanceTypes := #[]
  staticTypes := #[]
  resolved := Array.replicate 28 none
  statics := none }

def pool2 : Array CpInfo := pool [(1, .methodref 2 3), (0, .class_ 4), (0, .nameAndType 5 6), (0, u "java/lang/Object"), (0, u "<init>"), (0, u "()V"), (0, .fieldref 8 9), (0, .class_ 10), (0, .nameAndType 11 12), (0, u "com/example/mudskipper/mudskipper/index/FieldLengths"), (0, u "lengths"), (0, u "[I"), (0, .methodref 14 15), (0, .class_ 16), (0, .nameAndType 17 18), (0, u "java/lang/Math"), (0, u "max"), (0, u "(II)I"), (0, .methodref 20 21), (0, .class_ 22), (0, .nameAndType 23 24), (0, u "java/util/Arrays"), (0, u "copyOf"), (0, u "([II)[I"), (2, u "length"), (0, u "(I)I"), (1, u "add"), (0, u "(II)V")] 2

def k2c0 : Code := { maxStack := 2, maxLocals := 1, code := prog_2_method_1_code, exceptionTable := #[], attributes := #[] }
def k2m0 : Method := { name := "<init>", desc := "()V", sig := { parameters := [], returnType := none }, accessFlags := 0, code := some k2c0 }
def k2c1 : Code := { maxStack := 2, maxLocals := 2, code := prog_2_method_2_code, exceptionTable := #[], attributes := #[] }
def k2m1 : Method := { name := "length", desc := "(I)I", sig := { parameters := [.int], returnType := some .int }, accessFlags := 1, code := some k2c1 }
def k2c2 : Code := { maxStack := 5, maxLocals := 3, code := prog_2_method_3_code, exceptionTable := #[], attributes := #[] }
def k2m2 : Method := { name := "add", desc := "(II)V", sig := { parameters := [.int, .int], returnType := none }, accessFlags := 0, code := some k2c2 }
/-- com/example/mudskipper/mudskipper/index/FieldLengths -/
def k2 : Class := { plain "com/example/mudskipper/mudskipper/index/FieldLengths" (some 0) with
  accessFlags := 33
  interfaces := #[]
  cf := some (fileOf pool2 8 #[] #[{ accessFlags := 0, nameIndex := 5, descriptorIndex := 6, attributes := #[] }, { accessFlags := 1, nameIndex := 27, descriptorIndex := 28, attributes := #[] }, { accessFlags := 0, nameIndex := 30, descriptorIndex := 31, attributes := #[] }] 33 2 #[] #[{ accessFlags := 2, nameIndex := 11, descriptorIndex := 12, attributes := #[] }])
  fields := #[{ name := "lengths", type := (.array .int), accessFlags := 2, slot := 0, constantValue := 0 }]
  methods := #[k2m0, k2m1, k2m2]
  instanceTypes := #[(.array .int)]
  staticTypes := #[]
  resolved := Array.replicate 34 none
  statics := none }

def pool3 : Array CpInfo := pool [(1, .class_ 2), (0, u "java/lang/Math"), (1, .class_ 6), (1, u "java/lang/Object"), (0, u "<init>"), (0, u "()V"), (89, .class_ 100), (1, u "java/lang/Math$RandomNumberGeneratorHolder"), (71, u "negativeZeroFloatBits"), (0, u "J"), (2, u "negativeZeroDoubleBits"), (21, u "max"), (2, u "min"), (43, u "$assertionsDisabled"), (0, u "Z"), (88, u "(II)I"), (2, u "twoToTheDoubleScaleDown"), (0, u "D"), (4, u "twoToTheDoubleScaleUp"), (9, u "E"), (3, u "PI"), (2, u "TAU"), (2, u "DEGREES_TO_RADIANS"), (0, u "RADIANS_TO_DEGREES")] 94

def k3m0 : Method := { name := "<init>", desc := "()V", sig := { parameters := [], returnType := none }, accessFlags := 2, code := none }
def k3c1 : Code := { maxStack := 2, maxLocals := 2, code := jdk_29_method_65_code, exceptionTable := #[], attributes := #[] }
def k3m1 : Method := { name := "max", desc := "(II)I", sig := { parameters := [.int, .int], returnType := some .int }, accessFlags := 9, code := some k3c1 }
def k3c2 : Code := { maxStack := 2, maxLocals := 2, code := jdk_29_method_69_code, exceptionTable := #[], attributes := #[] }
def k3m2 : Method := { name := "min", desc := "(II)I", sig := { parameters := [.int, .int], returnType := some .int }, accessFlags := 9, code := some k3c2 }
/-- java/lang/Math -/
def k3 : Class := { plain "java/lang/Math" (some 0) with
  accessFlags := 49
  interfaces := #[]
  cf := some (fileOf pool3 1 #[.nestMembers #[98]] #[{ accessFlags := 2, nameIndex := 7, descriptorIndex := 8, attributes := #[] }, { accessFlags := 9, nameIndex := 198, descriptorIndex := 335, attributes := #[] }, { accessFlags := 9, nameIndex := 201, descriptorIndex := 335, attributes := #[] }] 49 4 #[] #[{ accessFlags := 25, nameIndex := 354, descriptorIndex := 339, attributes := #[] }, { accessFlags := 25, nameIndex := 358, descriptorIndex := 339, attributes := #[] }, { accessFlags := 25, nameIndex := 361, descriptorIndex := 339, attributes := #[] }, { accessFlags := 26, nameIndex := 364, descriptorIndex := 339, attributes := #[] }, { accessFlags := 26, nameIndex := 365, descriptorIndex := 339, attributes := #[] }, { accessFlags := 26, nameIndex := 172, descriptorIndex := 173, attributes := #[] }, { accessFlags := 26, nameIndex := 176, descriptorIndex := 173, attributes := #[] }, { accessFlags := 8, nameIndex := 344, descriptorIndex := 339, attributes := #[] }, { accessFlags := 8, nameIndex := 338, descriptorIndex := 339, attributes := #[] }, { accessFlags := 4120, nameIndex := 245, descriptorIndex := 246, attributes := #[] }])
  fields := #[{ name := "E", type := .double, accessFlags := 25, slot := 0, constantValue := 0 }, { name := "PI", type := .double, accessFlags := 25, slot := 1, constantValue := 0 }, { name := "TAU", type := .double, accessFlags := 25, slot := 2, constantValue := 0 }, { name := "DEGREES_TO_RADIANS", type := .double, accessFlags := 26, slot := 3, constantValue := 0 }, { name := "RADIANS_TO_DEGREES", type := .double, accessFlags := 26, slot := 4, constantValue := 0 }, { name := "negativeZeroFloatBits", type := .long, accessFlags := 26, slot := 5, constantValue := 0 }, { name := "negativeZeroDoubleBits", type := .long, accessFlags := 26, slot := 6, constantValue := 0 }, { name := "twoToTheDoubleScaleUp", type := .double, accessFlags := 8, slot := 7, constantValue := 0 }, { name := "twoToTheDoubleScaleDown", type := .double, accessFlags := 8, slot := 8, constantValue := 0 }, { name := "$assertionsDisabled", type := .boolean, accessFlags := 4120, slot := 9, constantValue := 0 }]
  methods := #[k3m0, k3m1, k3m2]
  instanceTypes := #[]
  staticTypes := #[.double, .double, .double, .double, .double, .long, .long, .double, .double, .boolean]
  resolved := Array.replicate 460 none
  statics := none }

def pool4 : Array CpInfo := pool [(2, .class_ 4), (1, u "java/lang/Object"), (0, u "<init>"), (0, u "()V"), (7, .class_ 16), (1, u "java/util/Arrays"), (57, .class_ 76), (1, u "java/util/Arrays$NaturalOrder"), (36, .class_ 115), (1, u "java/util/Arrays$LegacyMergeSort"), (1, u "Z"), (32, .methodref 151 152), (0, .class_ 153), (0, .nameAndType 154 155), (0, u "java/lang/System"), (0, u "arraycopy"), (0, u "(Ljava/lang/Object;ILjava/lang/Object;II)V"), (146, u "copyOf"), (1, .methodref 305 306), (0, .class_ 307), (0, .nameAndType 308 309), (0, u "java/lang/Math"), (0, u "min"), (0, u "(II)I"), (65, .class_ 376), (0, u "java/util/Arrays$ArrayList"), (68, u "$assertionsDisabled"), (269, u "MIN_ARRAY_SORT_GRAN"), (0, u "I"), (2, u "INSERTIONSORT_THRESHOLD"), (151, u "([II)[I"), (103, .class_ 976), (0, u "java/util/Arrays$ArrayItr")] 52

def k4m0 : Method := { name := "<init>", desc := "()V", sig := { parameters := [], returnType := none }, accessFlags := 2, code := none }
def k4c1 : Code := { maxStack := 6, maxLocals := 3, code := jdk_65_method_123_code, exceptionTable := #[], attributes := #[] }
def k4m1 : Method := { name := "copyOf", desc := "([II)[I", sig := { parameters := [(.array .int), .int], returnType := some (.array .int) }, accessFlags := 9, code := some k4c1 }
/-- java/util/Arrays -/
def k4 : Class := { plain "java/util/Arrays" (some 0) with
  accessFlags := 49
  interfaces := #[]
  cf := some (fileOf pool4 14 #[.nestMembers #[975, 375, 113, 74]] #[{ accessFlags := 2, nameIndex := 5, descriptorIndex := 6, attributes := #[] }, { accessFlags := 9, nameIndex := 302, descriptorIndex := 871, attributes := #[] }] 49 2 #[] #[{ accessFlags := 26, nameIndex := 715, descriptorIndex := 716, attributes := #[] }, { accessFlags := 26, nameIndex := 719, descriptorIndex := 716, attributes := #[] }, { accessFlags := 4120, nameIndex := 445, descriptorIndex := 117, attributes := #[] }])
  fields := #[{ name := "MIN_ARRAY_SORT_GRAN", type := .int, accessFlags := 26, slot := 0, constantValue := 0 }, { name := "INSERTIONSORT_THRESHOLD", type := .int, accessFlags := 26, slot := 1, constantValue := 0 }, { name := "$assertionsDisabled", type := .boolean, accessFlags := 4120, slot := 2, constantValue := 0 }]
  methods := #[k4m0, k4m1]
  instanceTypes := #[]
  staticTypes := #[.int, .int, .boolean]
  resolved := Array.replicate 1029 none
  statics := none }

def pool5 : Array CpInfo := pool [(2, .class_ 4), (1, u "java/lang/Object"), (0, u "<init>"), (0, u "()V"), (1, .class_ 10), (1, u "java/lang/System"), (0, u "allowSecurityManager"), (0, u "I"), (16, u "cons"), (0, u "Ljava/io/Console;"), (77, .class_ 110), (1, u "java/lang/System$CallersHolder"), (43, u "initialErrStream"), (0, u "Ljava/io/PrintStream;"), (19, u "security"), (0, u "Ljava/lang/SecurityManager;"), (31, .class_ 209), (0, u "java/lang/System$1"), (7, u "props"), (0, u "Ljava/util/Properties;"), (2, u "lineSeparator"), (0, u "Ljava/lang/String;"), (96, .class_ 321), (1, u "java/lang/System$LoggerFinder"), (5, .class_ 328), (0, u "java/lang/System$Logger"), (67, u "err"), (2, u "out"), (91, u "notSupportedJnuEncoding"), (15, u "in"), (17, u "initialIn"), (0, u "Ljava/io/InputStream;"), (35, u "bootLayer"), (0, u "Ljava/lang/ModuleLayer;"), (99, .class_ 664), (0, u "java/lang/System$2"), (9, u "NEVER"), (2, u "MAYBE"), (49, u "arraycopy"), (0, u "(Ljava/lang/Object;ILjava/lang/Object;II)V"), (72, .class_ 802), (0, u "java/lang/System$Logger$Level")] 31

def k5m0 : Method := { name := "<init>", desc := "()V", sig := { parameters := [], returnType := none }, accessFlags := 2, code := none }
def k5m1 : Method := { name := "arraycopy", desc := "(Ljava/lang/Object;ILjava/lang/Object;II)V", sig := { parameters := [(.object "java/lang/Object"), .int, (.object "java/lang/Object"), .int, .int], returnType := none }, accessFlags := 265, code := none }
/-- java/lang/System -/
def k5 : Class := { plain "java/lang/System" (some 0) with
  accessFlags := 49
  interfaces := #[]
  cf := some (fileOf pool5 8 #[.nestMembers #[319, 327, 801, 108, 663, 208]] #[{ accessFlags := 2, nameIndex := 5, descriptorIndex := 6, attributes := #[] }, { accessFlags := 265, nameIndex := 727, descriptorIndex := 728, attributes := #[] }] 49 2 #[] #[{ accessFlags := 25, nameIndex := 507, descriptorIndex := 526, attributes := #[] }, { accessFlags := 25, nameIndex := 399, descriptorIndex := 155, attributes := #[] }, { accessFlags := 25, nameIndex := 396, descriptorIndex := 155, attributes := #[] }, { accessFlags := 10, nameIndex := 525, descriptorIndex := 526, attributes := #[] }, { accessFlags := 26, nameIndex := 674, descriptorIndex := 12, attributes := #[] }, { accessFlags := 26, nameIndex := 677, descriptorIndex := 12, attributes := #[] }, { accessFlags := 10, nameIndex := 11, descriptorIndex := 12, attributes := #[] }, { accessFlags := 74, nameIndex := 175, descriptorIndex := 176, attributes := #[] }, { accessFlags := 10, nameIndex := 491, descriptorIndex := 222, attributes := #[] }, { accessFlags := 74, nameIndex := 29, descriptorIndex := 30, attributes := #[] }, { accessFlags := 74, nameIndex := 154, descriptorIndex := 155, attributes := #[] }, { accessFlags := 10, nameIndex := 217, descriptorIndex := 218, attributes := #[] }, { accessFlags := 10, nameIndex := 221, descriptorIndex := 222, attributes := #[] }, { accessFlags := 8, nameIndex := 562, descriptorIndex := 563, attributes := #[] }])
  fields := #[{ name := "in", type := (.object "java/io/InputStream"), accessFlags := 25, slot := 0, constantValue := 0 }, { name := "out", type := (.object "java/io/PrintStream"), accessFlags := 25, slot := 1, constantValue := 0 }, { name := "err", type := (.object "java/io/PrintStream"), accessFlags := 25, slot := 2, constantValue := 0 }, { name := "initialIn", type := (.object "java/io/InputStream"), accessFlags := 10, slot := 3, constantValue := 0 }, { name := "NEVER", type := .int, accessFlags := 26, slot := 4, constantValue := 0 }, { name := "MAYBE", type := .int, accessFlags := 26, slot := 5, constantValue := 0 }, { name := "allowSecurityManager", type := .int, accessFlags := 10, slot := 6, constantValue := 0 }, { name := "security", type := (.object "java/lang/SecurityManager"), accessFlags := 74, slot := 7, constantValue := 0 }, { name := "notSupportedJnuEncoding", type := (.object "java/lang/String"), accessFlags := 10, slot := 8, constantValue := 0 }, { name := "cons", type := (.object "java/io/Console"), accessFlags := 74, slot := 9, constantValue := 0 }, { name := "initialErrStream", type := (.object "java/io/PrintStream"), accessFlags := 74, slot := 10, constantValue := 0 }, { name := "props", type := (.object "java/util/Properties"), accessFlags := 10, slot := 11, constantValue := 0 }, { name := "lineSeparator", type := (.object "java/lang/String"), accessFlags := 10, slot := 12, constantValue := 0 }, { name := "bootLayer", type := (.object "java/lang/ModuleLayer"), accessFlags := 8, slot := 13, constantValue := 0 }]
  methods := #[k5m0, k5m1]
  instanceTypes := #[]
  staticTypes := #[(.object "java/io/InputStream"), (.object "java/io/PrintStream"), (.object "java/io/PrintStream"), (.object "java/io/InputStream"), .int, .int, .int, (.object "java/lang/SecurityManager"), (.object "java/lang/String"), (.object "java/io/Console"), (.object "java/io/PrintStream"), (.object "java/util/Properties"), (.object "java/lang/String"), (.object "java/lang/ModuleLayer")]
  resolved := Array.replicate 834 none
  statics := none }

def pool6 : Array CpInfo := pool [(1, u "java/lang/Cloneable"), (0, .class_ 1), (0, u "java/lang/Object"), (0, .class_ 3)] 3

/-- java/lang/Cloneable -/
def k6 : Class := { plain "java/lang/Cloneable" (some 0) with
  accessFlags := 1537
  interfaces := #[]
  cf := some (fileOf pool6 2 #[] #[] 1537 4 #[] #[])
  fields := #[]
  methods := #[]
  instanceTypes := #[]
  staticTypes := #[]
  resolved := Array.replicate 8 none
  statics := none }

def pool7 : Array CpInfo := pool [(1, u "java/io/Serializable"), (0, .class_ 1), (0, u "java/lang/Object"), (0, .class_ 3)] 3

/-- java/io/Serializable -/
def k7 : Class := { plain "java/io/Serializable" (some 0) with
  accessFlags := 1537
  interfaces := #[]
  cf := some (fileOf pool7 2 #[] #[] 1537 4 #[] #[])
  fields := #[]
  methods := #[]
  instanceTypes := #[]
  staticTypes := #[]
  resolved := Array.replicate 8 none
  statics := none }

/-- the primitive byte -/
def k8 : Class := { plain "byte" none with kind := .primitive 'B', accessFlags := 0x411 }
/-- [B -/
def k9 : Class := { plain "[B" (some 0) with kind := .array 8 .byte, interfaces := #[6, 7], accessFlags := 1041 }

/-- the primitive int -/
def k10 : Class := { plain "int" none with kind := .primitive 'I', accessFlags := 0x411 }
/-- [I -/
def k11 : Class := { plain "[I" (some 0) with kind := .array 10 .int, interfaces := #[6, 7], accessFlags := 1041 }

def heap : Heap := #[]
def classes : Array Class := #[k0, k1, k2, k3, k4, k5, k6, k7, k8, k9, k10, k11]
def interned : List (Array UInt16 × Addr) := []
def slotsUsed : Nat := 0
def theMethod : MethodId := ⟨1, 1⟩
def args0 : Array Value := #[.int 5, .int 3, .int 0, .int 1, .int 2, .int 3]
def aboutOver (below : List Frame) : State where
  vm := { classes := classes, interned := interned.toArray }
  heap := heap
  slotsUsed := slotsUsed
  threads := #[{ frames := .invoking theMethod args0 :: below }]
def below0 : List Frame := [.native { method := ⟨0, 0⟩, args := #[] }]
def about1 : State := aboutOver below0
def p0 : Program := .bare "" "" ""
def e0 : Env := launch0.env 0 0 0
theorem w_frames : about1.frames = Frame.invoking theMethod args0 :: below0 := rfl
set_option maxRecDepth 65536 in
theorem w_args : argsFit about1.vm theMethod args0 = true := by decide +kernel
set_option maxRecDepth 65536 in
theorem w_heap : heapFits about1 = true := by decide +kernel
set_option maxRecDepth 65536 in
theorem w_runnable : about1.curStatus? = some .runnable := by decide +kernel
set_option maxRecDepth 65536 in
theorem w_alone : about1.alone = true := by decide +kernel
set_option maxRecDepth 65536 in
theorem w_named : about1.methodNamed? x = some theMethod := by decide +kernel
set_option maxRecDepth 65536 in
theorem w_hears : about1.hears theMethod below0 = true := by decide +kernel
set_option maxRecDepth 65536 in
theorem w_ripe : about1.ripe theMethod args0 below0 = true := by decide +kernel
theorem w_running : about1.status = .running := rfl
set_option maxRecDepth 65536 in
theorem w_room : about1.hasRoom e0.platform room_1 = true :=
  launch0.hasRoom_least _ room_1 (by decide +kernel) (by decide +kernel) (by decide +kernel) (by decide +kernel) (by decide +kernel) (by decide +kernel)
theorem allAtoms_all (ts : List Jvm.Cond) (a : Array Jvm.Value) (st : Jvm.State) : (allAtoms ts).before a st = ts.all (fun c => c.before a st) := by
  induction ts with
  | nil => rfl
  | cons c t ih =>
    show (Jvm.Cond.and c (allAtoms t)).before a st = _
    rw [Jvm.Cond.before_and, ih, List.all_cons]
def words1 : List Jvm.Cond := Jvm.Cond.code x code maxLocals ret :: tables_1
/-- a 'code' word, met by the world's own term for the bytes: nothing is compared byte by byte -/
theorem code_word {y : MethodName} {bytes : ByteArray} {mx : Nat} {rt : Option FieldType} {a : Array Value} {s : State} {m : MethodId} {meth : Method} {c : Code} (h1 : s.methodNamed? y = some m) (h2 : s.vm.method? m = some meth) (h3 : meth.code = some c) (h4 : c.code = bytes)
    (h5 : (c.maxLocals == mx && c.exceptionTable.isEmpty && decide (c.maxStack ≤ mostOperands) && decide (meth.sig.returnType = rt) && !meth.locks && decide (parseMethodDescriptor y.desc = some meth.sig)) = true) : (Jvm.Cond.code y bytes mx rt).before a s = true := by
  simp only [Bool.and_eq_true, beq_iff_eq, Bool.not_eq_true', decide_eq_true_eq] at h5
  obtain ⟨⟨⟨⟨⟨g1, g2⟩, g3⟩, g4⟩, g5⟩, g6⟩ := h5
  simp [Cond.before, Cond.holds, Cond.value, h1, h2, h3, h4, g1, g2, g3, g4, g5, g6]
def isCode : Jvm.Cond → Bool
  | .code _ _ _ _ => true
  | _ => false
theorem all_split {L : List Jvm.Cond} {P : Jvm.Cond → Bool} (h1 : L.all (fun c => isCode c || P c) = true) (h2 : ∀ c ∈ L.filter isCode, P c = true) : L.all P = true := by
  refine List.all_eq_true.mpr fun c hc => ?_
  have h := List.all_eq_true.mp h1 c hc
  rcases Bool.eq_false_or_eq_true (isCode c) with hi | hi
  · exact h2 c (List.mem_filter.mpr ⟨hc, hi⟩)
  · simpa [hi] using h
set_option maxRecDepth 65536 in
theorem w_c0 : (Jvm.Cond.code x code maxLocals ret).before args0 about1 = true := code_word (m := ⟨1, 1⟩) (meth := k1m1) (c := k1c1) (by decide +kernel) rfl rfl rfl (by decide +kernel)
set_option maxRecDepth 65536 in
theorem w_c1 : (Jvm.Cond.code ({ cls := "com/example/mudskipper/mudskipper/index/FieldLengths", name := "<init>", desc := "()V" } : Jvm.MethodName) prog_2_method_1_code (1 : Nat) (Option.none : Option Jvm.ClassFile.FieldType)).before args0 about1 = true := code_word (m := ⟨2, 0⟩) (meth := k2m0) (c := k2c0) (by decide +kernel) rfl rfl rfl (by decide +kernel)
set_option maxRecDepth 65536 in
theorem w_c2 : (Jvm.Cond.code ({ cls := "java/lang/Object", name := "<init>", desc := "()V" } : Jvm.MethodName) object_method_1_code (1 : Nat) (Option.none : Option Jvm.ClassFile.FieldType)).before args0 about1 = true := code_word (m := ⟨0, 0⟩) (meth := k0m0) (c := k0c0) (by decide +kernel) rfl rfl rfl (by decide +kernel)
set_option maxRecDepth 65536 in
theorem w_c3 : (Jvm.Cond.code ({ cls := "com/example/mudskipper/mudskipper/index/FieldLengths", name := "length", desc := "(I)I" } : Jvm.MethodName) prog_2_method_2_code (2 : Nat) (Option.some Jvm.ClassFile.FieldType.int)).before args0 about1 = true := code_word (m := ⟨2, 1⟩) (meth := k2m1) (c := k2c1) (by decide +kernel) rfl rfl rfl (by decide +kernel)
set_option maxRecDepth 65536 in
theorem w_c4 : (Jvm.Cond.code ({ cls := "com/example/mudskipper/mudskipper/index/FieldLengths", name := "add", desc := "(II)V" } : Jvm.MethodName) prog_2_method_3_code (3 : Nat) (Option.none : Option Jvm.ClassFile.FieldType)).before args0 about1 = true := code_word (m := ⟨2, 2⟩) (meth := k2m2) (c := k2c2) (by decide +kernel) rfl rfl rfl (by decide +kernel)
set_option maxRecDepth 65536 in
theorem w_c5 : (Jvm.Cond.code ({ cls := "java/lang/Math", name := "max", desc := "(II)I" } : Jvm.MethodName) jdk_29_method_65_code (2 : Nat) (Option.some Jvm.ClassFile.FieldType.int)).before args0 about1 = true := code_word (m := ⟨3, 1⟩) (meth := k3m1) (c := k3c1) (by decide +kernel) rfl rfl rfl (by decide +kernel)
set_option maxRecDepth 65536 in
theorem w_c6 : (Jvm.Cond.code ({ cls := "java/util/Arrays", name := "copyOf", desc := "([II)[I" } : Jvm.MethodName) jdk_65_method_123_code (3 : Nat) (Option.some (Jvm.ClassFile.FieldType.array Jvm.ClassFile.FieldType.int))).before args0 about1 = true := code_word (m := ⟨4, 1⟩) (meth := k4m1) (c := k4c1) (by decide +kernel) rfl rfl rfl (by decide +kernel)
set_option maxRecDepth 65536 in
theorem w_c7 : (Jvm.Cond.code ({ cls := "java/lang/Math", name := "min", desc := "(II)I" } : Jvm.MethodName) jdk_29_method_69_code (2 : Nat) (Option.some Jvm.ClassFile.FieldType.int)).before args0 about1 = true := code_word (m := ⟨3, 2⟩) (meth := k3m2) (c := k3c2) (by decide +kernel) rfl rfl rfl (by decide +kernel)
def codes1 : List Jvm.Cond := [Jvm.Cond.code x code maxLocals ret, Jvm.Cond.code ({ cls := "com/example/mudskipper/mudskipper/index/FieldLengths", name := "<init>", desc := "()V" } : Jvm.MethodName) prog_2_method_1_code (1 : Nat) (Option.none : Option Jvm.ClassFile.FieldType), Jvm.Cond.code ({ cls := "java/lang/Object", name := "<init>", desc := "()V" } : Jvm.MethodName) object_method_1_code (1 : Nat) (Option.none : Option Jvm.ClassFile.FieldType), Jvm.Cond.code ({ cls := "com/example/mudskipper/mudskipper/index/FieldLengths", name := "length", desc := "(I)I" } : Jvm.MethodName) prog_2_method_2_code (2 : Nat) (Option.some Jvm.ClassFile.FieldType.int), Jvm.Cond.code ({ cls := "com/example/mudskipper/mudskipper/index/FieldLengths", name := "add", desc := "(II)V" } : Jvm.MethodName) prog_2_method_3_code (3 : Nat) (Option.none : Option Jvm.ClassFile.FieldType), Jvm.Cond.code ({ cls := "java/lang/Math", name := "max", desc := "(II)I" } : Jvm.MethodName) jdk_29_method_65_code (2 : Nat) (Option.some Jvm.ClassFile.FieldType.int), Jvm.Cond.code ({ cls := "java/util/Arrays", name := "copyOf", desc := "([II)[I" } : Jvm.MethodName) jdk_65_method_123_code (3 : Nat) (Option.some (Jvm.ClassFile.FieldType.array Jvm.ClassFile.FieldType.int)), Jvm.Cond.code ({ cls := "java/lang/Math", name := "min", desc := "(II)I" } : Jvm.MethodName) jdk_29_method_69_code (2 : Nat) (Option.some Jvm.ClassFile.FieldType.int)]
set_option maxRecDepth 65536 in
theorem codes_eq : words1.filter isCode = codes1 := rfl
theorem w_codes : ∀ c ∈ words1.filter isCode, c.before args0 about1 = true := by
  rw [codes_eq]
  intro c hc
  simp only [codes1, List.mem_cons, List.not_mem_nil, or_false] at hc
  rcases hc with rfl | rfl | rfl | rfl | rfl | rfl | rfl | rfl
  · exact w_c0
  · exact w_c1
  · exact w_c2
  · exact w_c3
  · exact w_c4
  · exact w_c5
  · exact w_c6
  · exact w_c7
set_option maxRecDepth 65536 in
theorem w_t1 : (words1.take 24).all (fun c => isCode c || c.before args0 about1) = true := by decide +kernel
set_option maxRecDepth 65536 in
theorem w_t2 : (words1.drop 24).all (fun c => isCode c || c.before args0 about1) = true := by decide +kernel
theorem w_tables : (allAtoms (Jvm.Cond.code x code maxLocals ret :: tables_1)).before args0 about1 = true := by
  rw [allAtoms_all]
  show words1.all (fun c => c.before args0 about1) = true
  refine all_split ?_ w_codes
  rw [← List.take_append_drop 24 words1, List.all_append, w_t1, w_t2]
  rfl
set_option maxRecDepth 65536 in
theorem w_case : (Jvm.Cond.and given_1 narrow_1).before args0 about1 = true := by decide +kernel
theorem w_applies : (headSpec (Jvm.Cond.code x code maxLocals ret :: tables_1) room_1).applies x e0.platform about1 = true :=
  (Spec.applies_iff w_frames).mpr ⟨w_running, w_runnable, w_alone, w_named, w_hears, w_ripe, w_room, w_tables⟩
theorem atStart : AtStart classFile x code maxLocals ret World_1 tables_1 room_1 Calls_1 rest_1 Pre_1 launch0 p0 e0 about1 theMethod args0 below0 :=
  ⟨lists_1, trivial, launch0.admits_env _ _ _, launch0.least_env, fairChoices_fair.cas, fairChoices_fair.clock, w_frames, w_args, w_heap, w_applies, trivial, trivial, w_case⟩
end start1
theorem witness_1 : WitnessClaimed_1 := ⟨start1.p0, start1.e0, start1.about1, start1.theMethod, start1.args0, start1.below0, start1.atStart⟩
end Jvm.Pilot.@@N@@
