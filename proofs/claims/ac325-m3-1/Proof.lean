import JvmDerived
import JvmDerived.Pilot.@@N@@Statement
import JvmDerived.Pilot.@@N@@Code
set_option linter.unusedVariables false
set_option linter.unusedSimpArgs false
@@BLOCK:NumsL.lean.txt@@
namespace Jvm.RoadKit
open Sem ClassFile Op Lib Jvm.Stand Jvm.Free Jvm.LawKit
section New
variable {p : Program} {l : Launch} {e : Env} {R : Room} {s : State} {m : MethodId} {args : Array Value} {below : List Frame} {meth : Method} {c : Code} {T : State} {locs : List Loc} {cells slots : Nat}
theorem retI (X : Stand p l e R s m args below meth c T locs cells slots) (hx : p.tables.exec = Jvm.exec) {pc : Nat} {Ls : Array Slot} {z : Int32} {rest : List Value} (hret : meth.sig.returnType = some .int) (hd : decode c.code pc = .ok (.ireturn, 1)) {fs : List Frame}
    (hl : ∀ (f : JFrame) (acts : List Action), f.method = m → f.locked = none → f.entered = [] → (doReturn e (T.setTop f) acts (some (.int z))).1 = T.setFrames fs) : Steps p.tables e below (T.setTop (mkF m pc Ls (.int z :: rest))) (T.setFrames fs) := by
  have hm' : T.vm.method? m = some meth := X.method'
  have hn : narrow .int (.int z) = .int z := rfl
  show Steps p.tables e below (T.setTop { method := m, pc := pc, locals := Ls, stack := _ :: rest, locked := none }) _
  jvm_step X.here [X.here.top, hx, hd, hm', hret, hn]
  first | (intro acts; rw [hl _ acts rfl rfl rfl]) | rw [hl _ _ rfl rfl rfl]
  exact Steps.refl _
end New
end Jvm.RoadKit
namespace Jvm.Pilot.@@N@@
open Jvm Jvm.ClassFile Sem Op Lib Jvm.Free Jvm.Stand Jvm.LawKit Jvm.RoadKit Bundle Jvm.Pilot.@@N@@.Jvm.D
theorem own_go {tb : Tables} {e : Env} {below : List Frame} {A B : State} {P : State → Outcome → Prop} (st : ∀ t, Steps tb e below B t → Steps tb e below A t) (h : ∃ s₂ o, Steps tb e below B s₂ ∧ P s₂ o) : ∃ s₂ o, Steps tb e below A s₂ ∧ P s₂ o := by
  obtain ⟨s₂, o, h1, h2⟩ := h
  exact ⟨s₂, o, st _ h1, h2⟩
theorem own_w {av0 : Array Value} {Z : State} (hw : ∀ d ∈ tables_1, d.before av0 Z = true) (i : Nat) {d : Jvm.Cond} (h : tables_1[i]? = some d) : d.before av0 Z = true := hw d (List.mem_of_getElem? h)
theorem own_gj {tb : Tables} {e : Env} {below : List Frame} {A B : State} {P : State → Heap → List Loc → Prop} {F : State → State} (st : ∀ t, Steps tb e below B t → Steps tb e below A t) (h : ∃ T' h' L', P T' h' L' ∧ ∀ t, Steps tb e below (F T') t → Steps tb e below B t) : ∃ T' h' L', P T' h' L' ∧ ∀ t, Steps tb e below (F T') t → Steps tb e below A t := by
  obtain ⟨T', h', L', h1, h2⟩ := h
  exact ⟨T', h', L', h1, fun t k => st t (h2 t k)⟩
theorem own_stake {Z : State} {h h' : Heap} {C n d D : String} {v : Value} {a : Addr} (F : Sta Z h C n d v) (K : Keep h h' [a]) (E : Exa Z h a D) : Sta Z h' C n d v := by
  obtain ⟨cf, i, k, f, st, cell, h1, h2, h3, h4, h5, h6, h7⟩ := F
  refine ⟨cf, i, k, f, st, cell, h1, h2, h3, h4, K.2.1 _ _ h5 (fun q => ?_), h6, h7⟩
  obtain rfl := List.mem_singleton.mp q
  obtain ⟨c2, k2, e1, -, -, e4, -⟩ := E
  cases e1.symm.trans h5
  rw [e4] at h6; cases h6
theorem own_stak {Z : State} {h h' : Heap} {C n d : String} {v : Value} (F : Sta Z h C n d v) (K : Keep h h' []) : Sta Z h' C n d v := by
  obtain ⟨cf, i, k, f, st, cell, h1, h2, h3, h4, h5, r⟩ := F
  exact ⟨cf, i, k, f, st, cell, h1, h2, h3, h4, K.2.1 _ _ h5 nin0, r⟩
section Fp
def Nk (k x y : Nat) : Prop := x * 4503599627370496 ^ k ≤ y * 4503599627370497 ^ k ∧ y * 4503599627370496 ^ k ≤ x * 4503599627370497 ^ k
theorem own_pp (k : Nat) : 0 < 4503599627370496 ^ k := Nat.pow_pos (by decide)
theorem Nk.refl (k x : Nat) : Nk k x x := by
  have h : (4503599627370496 : Nat) ^ k ≤ 4503599627370497 ^ k := Nat.pow_le_pow_left (by decide) k
  exact ⟨Nat.mul_le_mul_left x h, Nat.mul_le_mul_left x h⟩
theorem Nk.symm {k x y : Nat} (h : Nk k x y) : Nk k y x := ⟨h.2, h.1⟩
theorem own_tr {x y z a b c d : Nat} (h1 : x * a ≤ y * b) (h2 : y * c ≤ z * d) : x * (a * c) ≤ z * (b * d) := by
  calc x * (a * c) = x * a * c := by ac_rfl
    _ ≤ y * b * c := Nat.mul_le_mul_right c h1
    _ = y * c * b := by ac_rfl
    _ ≤ z * d * b := Nat.mul_le_mul_right b h2
    _ = z * (b * d) := by ac_rfl
theorem Nk.trans {j k x y z : Nat} (h : Nk j x y) (g : Nk k y z) : Nk (j + k) x z := by
  unfold Nk
  rw [Nat.pow_add, Nat.pow_add]
  refine ⟨own_tr h.1 g.1, ?_⟩
  have := own_tr g.2 h.2
  rw [Nat.mul_comm (4503599627370496 ^ k), Nat.mul_comm (4503599627370497 ^ k)] at this
  exact this
theorem Nk.mul {j k x y u v : Nat} (h : Nk j x y) (g : Nk k u v) : Nk (j + k) (x * u) (y * v) := by
  unfold Nk
  rw [Nat.pow_add, Nat.pow_add]
  have e : ∀ a b c d : Nat, a * b * (c * d) = a * c * (b * d) := fun a b c d => by ac_rfl
  have h1 := Nat.mul_le_mul h.1 g.1
  have h2 := Nat.mul_le_mul h.2 g.2
  rw [e x, e y] at h1
  rw [e y, e x] at h2
  exact ⟨h1, h2⟩
theorem Nk.mono {j k x y : Nat} (h : Nk j x y) (hjk : j ≤ k) : Nk k x y := by
  have := h.trans (Nk.refl (k - j) y)
  rwa [Nat.add_sub_cancel' hjk] at this
theorem Nk.scale {k x y : Nat} (h : Nk k x y) (c : Nat) : Nk k (x * c) (y * c) := h.mul (Nk.refl 0 c)
theorem Nk.cancel {k x y c : Nat} (hc : 0 < c) (h : Nk k (x * c) (y * c)) : Nk k x y := by
  obtain ⟨h1, h2⟩ := h
  have e : ∀ a b : Nat, a * c * b = a * b * c := fun a b => by ac_rfl
  rw [e, e] at h1 h2
  exact ⟨Nat.le_of_mul_le_mul_right h1 hc, Nat.le_of_mul_le_mul_right h2 hc⟩
theorem Nk.add {k x y u v : Nat} (h : Nk k x y) (g : Nk k u v) : Nk k (x + u) (y + v) := by
  unfold Nk
  rw [Nat.add_mul, Nat.add_mul, Nat.add_mul, Nat.add_mul]
  exact ⟨Nat.add_le_add h.1 g.1, Nat.add_le_add h.2 g.2⟩
theorem Nk.two {x y : Nat} (h : Nk 1 x y) : x ≤ 2 * y ∧ y ≤ 2 * x := by
  obtain ⟨h1, h2⟩ := h
  rw [Nat.pow_one, Nat.pow_one] at h1 h2
  omega
open Jvm.FP Jvm.FP.Core in
theorem own_rd {A B : Nat} {e : Int} (s : Bool) (hA : 0 < A) (hB : 0 < B) (he : -1074 ≤ e) (hlo : B * 2 ^ 627 ≤ A * 2 ^ (e + 1074).toNat) (hhi : A * 2 ^ (e + 1074).toNat ≤ B * 2 ^ 1400) :
    ∃ (c : Nat) (q : Int), roundRatio b64 s A B e = .fin s c q ∧ -500 ≤ q ∧ q ≤ 400 ∧ Nk 1 (c * 2 ^ (q + 1074).toNat * B) (A * 2 ^ (e + 1074).toNat) := by
  have hge := quantum_ge b64 A B e
  have hqm : b64.qmin = -1074 := by decide
  have hqx : b64.qmax = 971 := by decide
  have hbe := (units_below A B e (quantum b64 A B e) 53).mpr (quantum_below (f := b64) hA hB e)
  have hnl := nearest_units_le (f := b64) hA hB e
  have hnb := quantum_not_below (f := b64) hA hB e
  unfold roundRatio
  rw [if_neg (by omega)]
  unfold roundAt
  generalize quantum b64 A B e = q0 at *
  rw [hqm] at hge hnb
  have hlow : 2 ^ 52 * unitsDen B e q0 ≤ unitsNum A e q0 := by
    rcases hnb with h | h
    · subst h
      unfold unitsDen unitsNum
      rw [show (-1074 - e).toNat = 0 by omega, show e - -1074 = e + 1074 by omega]
      refine Nat.le_trans ?_ hlo
      rw [Nat.pow_zero, Nat.mul_one, Nat.mul_comm]
      exact Nat.mul_le_mul_left B (Nat.pow_le_pow_right (by decide) (by decide))
    · exact Nat.le_of_not_lt fun q => h ((units_below A B e q0 52).mp q)
  have hD : 0 < unitsDen B e q0 := unitsDen_pos hB e q0
  obtain ⟨s1, s2, -⟩ := nearest_spec (unitsNum A e q0) (unitsDen B e q0) hD
  generalize nearest (unitsNum A e q0) (unitsDen B e q0) = n at *
  have hnk : Nk 1 (n * unitsDen B e q0) (unitsNum A e q0) := by
    rw [Nat.add_mul, Nat.one_mul, Nat.mul_assoc] at s1
    rw [Nat.mul_assoc] at s2
    rw [show (2 : Nat) ^ 52 = 4503599627370496 from rfl] at hlow
    unfold Nk
    rw [Nat.pow_one, Nat.pow_one]
    generalize n * unitsDen B e q0 = X at *
    generalize unitsNum A e q0 = Y at *
    generalize unitsDen B e q0 = D at *
    omega
  unfold unitsDen unitsNum at *
  obtain ⟨u, hu⟩ : ∃ u : Nat, u = (q0 + 1074).toNat := ⟨_, rfl⟩
  obtain ⟨K, hK⟩ : ∃ K : Nat, K = (e + 1074).toNat := ⟨_, rfl⟩
  rw [← hK] at hlo hhi ⊢
  have huv : (e - q0).toNat + u = K + (q0 - e).toNat := by omega
  generalize (e - q0).toNat = v at *
  generalize (q0 - e).toNat = w at *
  have hw : 0 < 2 ^ w := Nat.two_pow_pos w
  have eA : A * 2 ^ v * 2 ^ u = A * 2 ^ K * 2 ^ w := by rw [Nat.mul_assoc, ← Nat.pow_add, huv, Nat.pow_add, Nat.mul_assoc]
  have hk : Nk 1 (n * 2 ^ u * B) (A * 2 ^ K) := by
    refine Nk.cancel hw ?_
    have h := hnk.scale (2 ^ u)
    rw [eA] at h
    rwa [show n * (B * 2 ^ w) * 2 ^ u = n * 2 ^ u * B * 2 ^ w by ac_rfl] at h
  have hu1 : 627 < 53 + u := by
    have h1 : A * 2 ^ v * 2 ^ u < 2 ^ 53 * (B * 2 ^ w) * 2 ^ u := Nat.mul_lt_mul_of_pos_right hbe (Nat.two_pow_pos u)
    rw [eA, show 2 ^ 53 * (B * 2 ^ w) * 2 ^ u = B * 2 ^ (53 + u) * 2 ^ w by rw [Nat.pow_add]; ac_rfl] at h1
    have h2 := Nat.lt_of_le_of_lt hlo (Nat.lt_of_mul_lt_mul_right h1)
    exact (Nat.pow_lt_pow_iff_right (by decide : 1 < 2)).mp (Nat.lt_of_mul_lt_mul_left h2)
  have hu2 : 52 + u ≤ 1400 := by
    have h1 := Nat.mul_le_mul_right (2 ^ u) hlow
    rw [eA, show 2 ^ 52 * (B * 2 ^ w) * 2 ^ u = B * 2 ^ (52 + u) * 2 ^ w by rw [Nat.pow_add]; ac_rfl] at h1
    have h2 := Nat.le_trans (Nat.le_of_mul_le_mul_right h1 hw) hhi
    exact (Nat.pow_le_pow_iff_right (by decide : 1 < 2)).mp (Nat.le_of_mul_le_mul_left h2 hB)
  have hp : b64.p = 53 := rfl
  unfold settle bound
  rw [hqx, hp]
  by_cases hn : n < 2 ^ 53
  · rw [if_pos hn, if_pos (by omega)]
    exact ⟨n, q0, rfl, by omega, by omega, by rw [← hu]; exact hk⟩
  · have hn' : n = 2 ^ 53 := Nat.le_antisymm hnl (Nat.le_of_not_lt hn)
    rw [if_neg hn, if_pos (by omega)]
    refine ⟨b64.tails, q0 + 1, rfl, by omega, by omega, ?_⟩
    rw [show (q0 + 1 + 1074).toNat = u + 1 by omega, show b64.tails * 2 ^ (u + 1) = n * 2 ^ u by
      rw [hn', show b64.tails = 2 ^ 52 from rfl, ← Nat.pow_add, ← Nat.pow_add]; congr 1; omega]
    exact hk
open Jvm.FP Jvm.FP.Core
def VM (x : UInt64) (s : Bool) (m : Nat) : Prop := ∃ (c : Nat) (q : Int), val64 x = .fin s c q ∧ -500 ≤ q ∧ q ≤ 400 ∧ c * 2 ^ (q + 1074).toNat = m
def VW (x : UInt64) (s : Bool) (m : Nat) : Prop := ∃ (c : Nat) (q : Int), val64 x = .fin s c q ∧ -1074 ≤ q ∧ c * 2 ^ (q + 1074).toNat = m
theorem VM.w {x : UInt64} {s : Bool} {m : Nat} (h : VM x s m) : VW x s m := by obtain ⟨c, q, h1, h2, -, h4⟩ := h; exact ⟨c, q, h1, by omega, h4⟩
theorem own_mul {x y : UInt64} {s t : Bool} {mx my : Nat} (hx : VM x s mx) (hy : VM y t my) (hlo : 2 ^ 1701 ≤ mx * my) (hhi : mx * my ≤ 2 ^ 2474) : ∃ m, VM (FP.dmul x y) (s != t) m ∧ Nk 1 (m * 2 ^ 1074) (mx * my) := by
  obtain ⟨c, q, v1, q1, q2, rfl⟩ := hx
  obtain ⟨d, r, v2, r1, r2, rfl⟩ := hy
  have eW : c * 2 ^ (q + 1074).toNat * (d * 2 ^ (r + 1074).toNat) = c * d * 2 ^ (q + r + 1074).toNat * 2 ^ 1074 := by
    rw [Nat.mul_assoc (c * d), ← Nat.pow_add, show (q + r + 1074).toNat + 1074 = (q + 1074).toNat + (r + 1074).toNat by omega, Nat.pow_add]; ac_rfl
  rw [eW] at hlo hhi ⊢
  have hO : 0 < 2 ^ 1074 := Nat.two_pow_pos _
  rw [show 2 ^ 1701 = 2 ^ 627 * 2 ^ 1074 from (Nat.pow_add 2 627 1074)] at hlo
  rw [show 2 ^ 2474 = 2 ^ 1400 * 2 ^ 1074 from (Nat.pow_add 2 1400 1074)] at hhi
  have l1 := Nat.le_of_mul_le_mul_right hlo hO
  have l2 := Nat.le_of_mul_le_mul_right hhi hO
  have hpos : 0 < c * d := by
    rcases Nat.eq_zero_or_pos (c * d) with h | h
    · rw [h, Nat.zero_mul] at l1; exact absurd l1 (Nat.not_le_of_gt (Nat.two_pow_pos 627))
    · exact h
  obtain ⟨c', q', h1, h2, h3, h4⟩ := own_rd (A := c * d) (B := 1) (e := q + r) (s != t) hpos (by decide) (by omega) (by rw [Nat.one_mul]; exact l1) (by rw [Nat.one_mul]; exact l2)
  refine ⟨_, ⟨c', q', ?_, h2, h3, rfl⟩, ?_⟩
  · show val64 (Core.dmul x y) = _
    rw [val64_dmul, v1, v2]
    exact h1
  · rw [Nat.mul_one] at h4
    exact h4.scale (2 ^ 1074)
theorem own_div {x y : UInt64} {s t : Bool} {mx my : Nat} (hx : VM x s mx) (hy : VM y t my) (h0 : 0 < my) (hlo : my * 2 ^ 627 ≤ mx * 2 ^ 1074) (hhi : mx * 2 ^ 1074 ≤ my * 2 ^ 1400) : ∃ m, VM (FP.ddiv x y) (s != t) m ∧ Nk 1 (m * my) (mx * 2 ^ 1074) := by
  obtain ⟨c, q, v1, q1, q2, rfl⟩ := hx
  obtain ⟨d, r, v2, r1, r2, rfl⟩ := hy
  have hR : 0 < 2 ^ (r + 1074).toNat := Nat.two_pow_pos _
  have hd : 0 < d := Nat.pos_of_mul_pos_right h0
  have eW : c * 2 ^ (q + 1074).toNat * 2 ^ 1074 = c * 2 ^ (q - r + 1074).toNat * 2 ^ (r + 1074).toNat := by
    rw [Nat.mul_assoc, Nat.mul_assoc, ← Nat.pow_add, ← Nat.pow_add]; congr 2; omega
  rw [eW] at hlo hhi ⊢
  have ed : ∀ z : Nat, d * 2 ^ (r + 1074).toNat * z = d * z * 2 ^ (r + 1074).toNat := fun z => by ac_rfl
  rw [ed] at hlo hhi
  have l1 := Nat.le_of_mul_le_mul_right hlo hR
  have l2 := Nat.le_of_mul_le_mul_right hhi hR
  have hpos : 0 < c := by
    rcases Nat.eq_zero_or_pos c with h | h
    · rw [h, Nat.zero_mul] at l1; exact absurd l1 (Nat.not_le_of_gt (Nat.mul_pos hd (Nat.two_pow_pos 627)))
    · exact h
  obtain ⟨c', q', h1, h2, h3, h4⟩ := own_rd (A := c) (B := d) (e := q - r) (s != t) hpos hd (by omega) l1 l2
  refine ⟨_, ⟨c', q', ?_, h2, h3, rfl⟩, ?_⟩
  · show val64 (Core.ddiv x y) = _
    rw [val64_ddiv, v1, v2]
    show (if d = 0 then _ else _) = _
    rw [if_neg (by omega)]
    exact h1
  · have := h4.scale (2 ^ (r + 1074).toNat)
    rwa [Nat.mul_assoc] at this
theorem own_add {x y : UInt64} {mx my : Nat} (hx : VW x false mx) (hy : VW y false my) (hlo : 2 ^ 627 ≤ mx + my) (hhi : mx + my ≤ 2 ^ 1400) : ∃ m, VM (FP.dadd x y) false m ∧ Nk 1 m (mx + my) := by
  obtain ⟨c, q, v1, q1, rfl⟩ := hx
  obtain ⟨d, r, v2, r1, rfl⟩ := hy
  have eU : sumUnits false c q false d r (min q r) = ((c * 2 ^ (q - min q r).toNat + d * 2 ^ (r - min q r).toNat : Nat) : Int) := by
    simp [sumUnits, signed, inUnits]
  have eW : (c * 2 ^ (q - min q r).toNat + d * 2 ^ (r - min q r).toNat) * 2 ^ (min q r + 1074).toNat = c * 2 ^ (q + 1074).toNat + d * 2 ^ (r + 1074).toNat := by
    rw [Nat.add_mul, Nat.mul_assoc, Nat.mul_assoc, ← Nat.pow_add, ← Nat.pow_add, show (q - min q r).toNat + (min q r + 1074).toNat = (q + 1074).toNat by omega, show (r - min q r).toNat + (min q r + 1074).toNat = (r + 1074).toNat by omega]
  rw [← eW] at hlo hhi ⊢
  generalize hA : c * 2 ^ (q - min q r).toNat + d * 2 ^ (r - min q r).toNat = A at *
  have hpos : 0 < A := by
    rcases Nat.eq_zero_or_pos A with h | h
    · rw [h, Nat.zero_mul] at hlo; exact absurd hlo (Nat.not_le_of_gt (Nat.two_pow_pos 627))
    · exact h
  obtain ⟨c', q', h1, h2, h3, h4⟩ := own_rd (A := A) (B := 1) (e := min q r) false hpos (by decide) (by omega) (by rw [Nat.one_mul]; exact hlo) (by rw [Nat.one_mul]; exact hhi)
  refine ⟨_, ⟨c', q', ?_, h2, h3, rfl⟩, by rw [Nat.mul_one] at h4; exact h4⟩
  show val64 (Core.dadd x y) = _
  rw [val64_dadd, v1, v2]
  show round b64 (.fin (sumSign false false (sumUnits false c q false d r (min q r))) (sumUnits false c q false d r (min q r)).natAbs (min q r)) = _
  rw [eU]
  have e1 : sumSign false false ((A : Nat) : Int) = false := by
    unfold sumSign
    rw [if_neg (by omega)]
    exact decide_eq_false (by omega)
  rw [e1, Int.natAbs_natCast]
  exact h1
theorem own_rI (i : Int) (h0 : i ≠ 0) (h1 : i.natAbs ≤ 2 ^ 63) : ∃ (c : Nat) (q : Int), round b64 (ofInt i) = .fin (decide (i < 0)) c q ∧ -500 ≤ q ∧ q ≤ 400 ∧ Nk 1 (c * 2 ^ (q + 1074).toNat) (i.natAbs * 2 ^ 1074) := by
  have hp : 0 < i.natAbs := by omega
  obtain ⟨c', q', a1, a2, a3, a4⟩ := own_rd (A := i.natAbs) (B := 1) (e := 0) (decide (i < 0)) hp (by decide) (by omega)
    (by rw [Nat.one_mul]; exact Nat.le_trans (Nat.pow_le_pow_right (by decide) (by decide)) (Nat.le_mul_of_pos_left _ hp))
    (by rw [Nat.one_mul]; exact Nat.le_trans (Nat.mul_le_mul_right _ h1) (by rw [show (0 + 1074 : Int).toNat = 1074 from rfl, ← Nat.pow_add]; exact Nat.pow_le_pow_right (by decide) (by decide)))
  exact ⟨c', q', a1, a2, a3, by rw [Nat.mul_one] at a4; exact a4⟩
theorem own_i2d (a : Int32) (h : a.toInt ≠ 0) : ∃ m, VM (FP.i2d a) (decide (a.toInt < 0)) m ∧ Nk 1 m (a.toInt.natAbs * 2 ^ 1074) := by
  have b1 := a.toInt_lt
  have b2 := a.le_toInt
  obtain ⟨c, q, h1, h2, h3, h4⟩ := own_rI a.toInt h (by omega)
  exact ⟨_, ⟨c, q, by show val64 (Core.i2d a) = _; rw [val64_i2d]; exact h1, h2, h3, rfl⟩, h4⟩
theorem own_l2d (a : Int64) (h : a.toInt ≠ 0) : ∃ m, VM (FP.l2d a) (decide (a.toInt < 0)) m ∧ Nk 1 m (a.toInt.natAbs * 2 ^ 1074) := by
  have b1 := a.toInt_lt
  have b2 := a.le_toInt
  obtain ⟨c, q, h1, h2, h3, h4⟩ := own_rI a.toInt h (by omega)
  exact ⟨_, ⟨c, q, by show val64 (Core.l2d a) = _; rw [val64_l2d]; exact h1, h2, h3, rfl⟩, h4⟩
def Ap (x : UInt64) (s : Bool) (a b k D Y : Nat) : Prop := ∃ m, VM x s m ∧ 2 ^ a ≤ m ∧ m ≤ 2 ^ b ∧ Nk k (m * D) Y
theorem own_ps (n m : Nat) (h : m = n + 1) : 2 ^ m = 2 * 2 ^ n := by rw [h, Nat.pow_succ, Nat.mul_comm]
theorem own_ac1 (z o d e : Nat) : z * o * (d * e) = z * (d * e * o) := by ac_rfl
theorem own_ac2 (m d d' o : Nat) : m * d * (d' * o) = m * o * (d * d') := by ac_rfl
theorem own_p2 (a b : Nat) (h : a ≤ b) : 2 ^ a ≤ 2 ^ b := Nat.pow_le_pow_right (by decide) h
theorem Ap.mul {x y : UInt64} {s t : Bool} {a b k D Y a' b' k' D' Y' : Nat} (hx : Ap x s a b k D Y) (hy : Ap y t a' b' k' D' Y') (h1 : 1701 ≤ a + a') (h2 : b + b' ≤ 2474) : Ap (FP.dmul x y) (s != t) (a + a' - 1075) (b + b' - 1073) (k + k' + 1) (D * D' * 2 ^ 1074) (Y * Y') := by
  obtain ⟨m, v, l, u, n⟩ := hx
  obtain ⟨m', v', l', u', n'⟩ := hy
  have hl : 2 ^ (a + a') ≤ m * m' := by rw [Nat.pow_add]; exact Nat.mul_le_mul l l'
  have hu : m * m' ≤ 2 ^ (b + b') := by rw [Nat.pow_add]; exact Nat.mul_le_mul u u'
  obtain ⟨z, vz, nz⟩ := own_mul v v' (Nat.le_trans (own_p2 _ _ h1) hl) (Nat.le_trans hu (own_p2 _ _ h2))
  have hO : 0 < 2 ^ 1074 := Nat.two_pow_pos _
  have hbb : 1073 ≤ b + b' := by
    have : 2 ^ (a + a') ≤ 2 ^ (b + b') := Nat.le_trans hl hu
    have := (Nat.pow_le_pow_iff_right (by decide : 1 < 2)).mp this
    omega
  obtain ⟨t1, t2⟩ := nz.two
  refine ⟨z, vz, ?_, ?_, ?_⟩
  · refine Nat.le_of_mul_le_mul_right ?_ hO
    rw [← Nat.pow_add]
    have e1 : 2 ^ (a + a') = 2 * 2 ^ (a + a' - 1075 + 1074) := own_ps _ _ (by omega)
    rw [e1] at hl
    generalize 2 ^ (a + a' - 1075 + 1074) = X at *
    generalize m * m' = W at *
    omega
  · refine Nat.le_of_mul_le_mul_right ?_ hO
    rw [← Nat.pow_add]
    have e1 : 2 ^ (b + b' - 1073 + 1074) = 2 * 2 ^ (b + b') := own_ps _ _ (by omega)
    rw [e1]
    generalize 2 ^ (b + b') = X at *
    generalize m * m' = W at *
    omega
  · have h3 := (nz.scale (D * D')).trans (show Nk (k + k') (m * m' * (D * D')) (Y * Y') from by
      have := n.mul n'
      rwa [show m * D * (m' * D') = m * m' * (D * D') by ac_rfl] at this)
    rw [own_ac1 z (2 ^ 1074), Nat.add_comm 1] at h3
    exact h3
theorem Ap.div {x y : UInt64} {s t : Bool} {a b k D Y a' b' k' D' Y' : Nat} (hx : Ap x s a b k D Y) (hy : Ap y t a' b' k' D' Y') (h1 : b' + 627 ≤ a + 1074) (h2 : b + 1074 ≤ a' + 1400) (h3 : a' ≤ b + 1075) : Ap (FP.ddiv x y) (s != t) (a + 1073 - b') (b + 1075 - a') (k + k' + 1) (D * Y') (Y * (D' * 2 ^ 1074)) := by
  obtain ⟨m, v, l, u, n⟩ := hx
  obtain ⟨m', v', l', u', n'⟩ := hy
  have hO : 0 < 2 ^ 1074 := Nat.two_pow_pos _
  have hm' : 0 < m' := Nat.lt_of_lt_of_le (Nat.two_pow_pos a') l'
  have hlo : m' * 2 ^ 627 ≤ m * 2 ^ 1074 := by
    refine Nat.le_trans (Nat.mul_le_mul_right _ u') (Nat.le_trans ?_ (Nat.mul_le_mul_right _ l))
    rw [← Nat.pow_add, ← Nat.pow_add]; exact own_p2 _ _ h1
  have hhi : m * 2 ^ 1074 ≤ m' * 2 ^ 1400 := by
    refine Nat.le_trans (Nat.mul_le_mul_right _ u) (Nat.le_trans ?_ (Nat.mul_le_mul_right _ l'))
    rw [← Nat.pow_add, ← Nat.pow_add]; exact own_p2 _ _ h2
  obtain ⟨z, vz, nz⟩ := own_div v v' hm' hlo hhi
  obtain ⟨t1, t2⟩ := nz.two
  refine ⟨z, vz, ?_, ?_, ?_⟩
  · refine Nat.le_of_mul_le_mul_right (c := 2 ^ b') ?_ (Nat.two_pow_pos b')
    rw [← Nat.pow_add]
    have e1 : 2 ^ a * 2 ^ 1074 = 2 * 2 ^ (a + 1073 - b' + b') := by rw [← Nat.pow_add]; exact own_ps _ _ (by omega)
    have q1 := Nat.mul_le_mul_right (2 ^ 1074) l
    rw [e1] at q1
    have q2 := Nat.mul_le_mul_left z u'
    generalize 2 ^ (a + 1073 - b' + b') = X at *
    generalize m * 2 ^ 1074 = W at *
    generalize z * m' = U at *
    omega
  · refine Nat.le_of_mul_le_mul_right (c := 2 ^ a') ?_ (Nat.two_pow_pos a')
    rw [← Nat.pow_add]
    have e1 : 2 ^ (b + 1075 - a' + a') = 2 * (2 ^ b * 2 ^ 1074) := by rw [← Nat.pow_add]; exact own_ps _ _ (by omega)
    have q1 := Nat.mul_le_mul_right (2 ^ 1074) u
    rw [e1]
    have q2 := Nat.mul_le_mul_left z l'
    generalize 2 ^ b * 2 ^ 1074 = X at *
    generalize m * 2 ^ 1074 = W at *
    generalize z * m' = U at *
    omega
  · have q1 : Nk k' (z * (D * Y')) (z * m' * (D * D')) := by
      have := (n'.symm.mul (Nk.refl 0 (z * D)))
      rwa [show Y' * (z * D) = z * (D * Y') by ac_rfl, show m' * D' * (z * D) = z * m' * (D * D') by ac_rfl] at this
    have q2 := nz.scale (D * D')
    have q3 : Nk k (m * 2 ^ 1074 * (D * D')) (Y * (D' * 2 ^ 1074)) := by
      have := n.scale (D' * 2 ^ 1074)
      rwa [own_ac2 m D D' (2 ^ 1074)] at this
    have := (q1.trans q2).trans q3
    rwa [show k' + 1 + k = k + k' + 1 by omega] at this
theorem Ap.add {x y : UInt64} {a b k D Y a' b' k' Y' : Nat} (hx : Ap x false a b k D Y) (hy : Ap y false a' b' k' D Y') (h1 : 627 ≤ a) (h2 : b ≤ 1398) (h3 : b' ≤ 1398) : Ap (FP.dadd x y) false (a - 1) (max b b' + 2) (max k k' + 1) D (Y + Y') := by
  obtain ⟨m, v, l, u, n⟩ := hx
  obtain ⟨m', v', l', u', n'⟩ := hy
  have u1 : m ≤ 2 ^ max b b' := Nat.le_trans u (own_p2 _ _ (by omega))
  have u2 : m' ≤ 2 ^ max b b' := Nat.le_trans u' (own_p2 _ _ (by omega))
  have es : 2 ^ (max b b' + 2) = 4 * 2 ^ max b b' := by rw [Nat.pow_add, Nat.mul_comm]
  have hhi : m + m' ≤ 2 ^ 1400 := Nat.le_trans (by omega) (Nat.le_trans (Nat.le_of_eq es.symm) (own_p2 _ _ (by omega : max b b' + 2 ≤ 1400)))
  obtain ⟨z, vz, nz⟩ := own_add v.w v'.w (Nat.le_trans (own_p2 _ _ h1) (Nat.le_trans l (Nat.le_add_right _ _))) hhi
  obtain ⟨t1, t2⟩ := nz.two
  refine ⟨z, vz, ?_, ?_, ?_⟩
  · have e1 : 2 ^ a = 2 * 2 ^ (a - 1) := own_ps _ _ (by omega)
    rw [e1] at l
    omega
  · rw [es]; omega
  · have q := (nz.scale D).trans (show Nk (max k k') ((m + m') * D) (Y + Y') from by
      rw [Nat.add_mul]; exact (n.mono (by omega)).add (n'.mono (by omega)))
    rwa [Nat.add_comm 1] at q
theorem Ap.scale {x : UInt64} {s : Bool} {a b k D Y : Nat} (h : Ap x s a b k D Y) (c : Nat) : Ap x s a b k (D * c) (Y * c) := by
  obtain ⟨m, v, l, u, n⟩ := h
  exact ⟨m, v, l, u, by have := n.scale c; rwa [Nat.mul_assoc] at this⟩
theorem Ap.ofN {x : UInt64} {s : Bool} {m i B : Nat} (v : VM x s m) (n : Nk 1 m (i * 2 ^ 1074)) (h0 : 0 < i) (hB : i ≤ 2 ^ B) : Ap x s 1073 (B + 1075) 1 1 (i * 2 ^ 1074) := by
  obtain ⟨t1, t2⟩ := n.two
  refine ⟨m, v, ?_, ?_, by rw [Nat.mul_one]; exact n⟩
  · have e1 : 2 ^ 1074 = 2 * 2 ^ 1073 := own_ps 1073 1074 (by omega)
    have q : 2 ^ 1074 ≤ i * 2 ^ 1074 := Nat.le_mul_of_pos_left _ h0
    rw [e1] at q t1 t2
    generalize 2 ^ 1073 = X at *
    generalize i * (2 * X) = W at *
    omega
  · have q : i * 2 ^ 1074 ≤ 2 ^ B * 2 ^ 1074 := Nat.mul_le_mul_right _ hB
    have e1 : 2 ^ (B + 1075) = 2 * (2 ^ B * 2 ^ 1074) := by rw [← Nat.pow_add]; exact own_ps _ _ (by omega)
    rw [e1]
    generalize 2 ^ B * 2 ^ 1074 = X at *
    generalize i * 2 ^ 1074 = W at *
    omega
theorem Ap.ofC {x : UInt64} {c : Nat} {q : Int} {a b k D Y : Nat} (h : val64 x = .fin false c q) (h1 : -500 ≤ q) (h2 : q ≤ 400) (e : Nat) (he : (q + 1074).toNat = e) (hc : 2 ^ a ≤ c * 2 ^ e) (hd : c * 2 ^ e ≤ 2 ^ b) (hn : Nk k (c * 2 ^ e * D) Y) : Ap x false a b k D Y := ⟨_, ⟨c, q, h, h1, h2, by rw [he]⟩, hc, hd, hn⟩
def own_lf (l : Int32) : UInt64 := FP.ddiv (FP.i2d l) 4616189618054758400
def own_P (a t : Int32) : UInt64 := FP.dmul (FP.i2d a) (FP.i2d t)
def own_M (l : Int32) : UInt64 := FP.dmul 4608083138725491507 (own_lf l)
def own_S (t l : Int32) : UInt64 := FP.dadd (FP.i2d t) (own_M l)
def own_Q (a t l : Int32) : UInt64 := FP.ddiv (own_P a t) (own_S t l)
def own_L (a t l : Int32) (n : Int64) : UInt64 := FP.dmul (own_Q a t l) (FP.l2d n)
def own_R0 (a : Int32) : UInt64 := FP.dmul 4621819117588971520 (FP.i2d a)
def own_R (a t : Int32) : UInt64 := FP.dmul (own_R0 a) (FP.i2d t)
def own_df (a t l : Int32) (n : Int64) : UInt64 := FP.dsub (own_L a t l n) (own_R a t)
def own_mag (r : UInt64) : UInt64 := if cmpValue (FP.dcmp r 0) .g < (0 : Int32) then FP.dneg r else r
def own_tol (a t : Int32) : UInt64 := FP.dmul 4427486594234968593 (own_mag (own_R a t))
theorem own_c4 : Ap 4616189618054758400 false 1076 1076 0 1 (4 * 2 ^ 1074) := Ap.ofC (c := 4503599627370496) (q := -50) (by decide +kernel) (by decide) (by decide) 1024 (by decide) (by decide +kernel) (by decide +kernel) (by unfold Nk; decide +kernel)
theorem own_c12 : Ap 4608083138725491507 false 1074 1075 1 5 (6 * 2 ^ 1074) := Ap.ofC (c := 5404319552844595) (q := -52) (by decide +kernel) (by decide) (by decide) 1022 (by decide) (by decide +kernel) (by decide +kernel) (by unfold Nk; decide +kernel)
theorem own_c10 : Ap 4621819117588971520 false 1077 1078 0 1 (10 * 2 ^ 1074) := Ap.ofC (c := 5629499534213120) (q := -49) (by decide +kernel) (by decide) (by decide) 1025 (by decide) (by decide +kernel) (by decide +kernel) (by unfold Nk; decide +kernel)
theorem own_ct : VM 4427486594234968593 false (4951760157141521 * 2 ^ 982) := ⟨4951760157141521, -92, by decide +kernel, by decide, by decide, by rw [show (-92 + 1074 : Int).toNat = 982 from rfl]⟩
theorem VM.zval {x : UInt64} {s : Bool} {m : Nat} (h : VM x s m) : zval b64 (val64 x) = signed s m := by
  obtain ⟨c, q, v, h1, h2, rfl⟩ := h
  rw [v]
  show signed s (inUnits c q b64.qmin) = _
  rw [show b64.qmin = -1074 from by decide]
  unfold inUnits
  rw [show q - -1074 = q + 1074 by omega]
theorem VM.nn {x : UInt64} {s : Bool} {m : Nat} (h : VM x s m) : val64 x ≠ .nan := by
  obtain ⟨c, q, v, -⟩ := h
  rw [v]; exact Datum.noConfusion
theorem own_sub {x y z : UInt64} {s : Bool} {mx my mz : Nat} (hx : VM x s mx) (hy : VM y s my) (hz : VM z false mz) (h1 : mx ≤ my + mz) (h2 : my ≤ mx + mz) : zval b64 (val64 (FP.dsub x y)) ≤ mz ∧ -(mz : Int) ≤ zval b64 (val64 (FP.dsub x y)) ∧ val64 (FP.dsub x y) ≠ .nan := by
  have zz := hz.zval
  have zn := hz.nn
  obtain ⟨c, q, v1, q1, q2, rfl⟩ := hx
  obtain ⟨d, r, v2, r1, r2, rfl⟩ := hy
  have hqm : b64.qmin = -1074 := by decide
  have eD : val64 (FP.dsub x y) = round b64 (.fin (sumSign s (!s) (sumUnits s c q (!s) d r (min q r))) (sumUnits s c q (!s) d r (min q r)).natAbs (min q r)) := by
    show val64 (Core.dsub x y) = _
    rw [val64_dsub, v1, v2]
    rfl
  obtain ⟨W, hW⟩ : ∃ W : Int, W = sumUnits s c q (!s) d r (min q r) := ⟨_, rfl⟩
  rw [← hW] at eD
  have hs : signed (sumSign s (!s) W) W.natAbs = W := by
    unfold sumSign signed
    by_cases h0 : W = 0
    · subst h0; simp
    · rw [if_neg h0]
      by_cases h3 : W < 0
      · simp [h3]; omega
      · simp [h3]; omega
  have hV : signed (sumSign s (!s) W) (inUnits W.natAbs (min q r) b64.qmin) = signed s (c * 2 ^ (q + 1074).toNat) + signed (!s) (d * 2 ^ (r + 1074).toNat) := by
    unfold inUnits
    rw [signed_mul, hs, hW, hqm]
    unfold sumUnits inUnits
    rw [Int.add_mul, ← signed_mul, ← signed_mul, Nat.mul_assoc, Nat.mul_assoc, ← Nat.pow_add, ← Nat.pow_add, show (q - min q r).toNat + (min q r - -1074).toNat = (q + 1074).toNat by omega, show (r - min q r).toNat + (min q r - -1074).toNat = (r + 1074).toNat by omega]
  generalize c * 2 ^ (q + 1074).toNat = mx at *
  generalize d * 2 ^ (r + 1074).toNat = my at *
  have h00 : ((2 ^ (b64.qmin - b64.qmin).toNat : Nat) : Int) = 1 := by rw [Int.sub_self]; rfl
  refine ⟨?_, ?_, ?_⟩
  · have := zval_round_le good_b64 (s := sumSign s (!s) W) (c := W.natAbs) (q := min q r) (V := val64 z) (val64_fits z) zn (Int.le_refl b64.qmin) (by rw [hqm]; omega) (by
      rw [hV, h00, zz]
      cases s <;> simp [signed] <;> omega)
    rw [eD]
    rw [zz] at this
    simpa [signed] using this
  · have := zval_round_ge good_b64 (s := sumSign s (!s) W) (c := W.natAbs) (q := min q r) (V := negate (val64 z)) (negate_fits (val64_fits z)) (negate_ne_nan zn) (Int.le_refl b64.qmin) (by rw [hqm]; omega) (by
      rw [hV, h00, zval_negate, zz]
      cases s <;> simp [signed] <;> omega)
    rw [eD]
    rw [zval_negate, zz] at this
    simpa [signed] using this
  · rw [eD]; exact roundRatio_ne_nan _ _ _ _ _
theorem own_cmp {x y : UInt64} (hx : val64 x ≠ .nan) (hy : val64 y ≠ .nan) (h : zval b64 (val64 x) ≤ zval b64 (val64 y)) : ¬ ((0 : Int32) < cmpValue (FP.dcmp x y) .g) := by
  show ¬ ((0 : Int32) < cmpValue (Core.dcmp x y) .g)
  rw [dcmp_zval hx hy, compare_ite]
  by_cases h1 : zval b64 (val64 x) < zval b64 (val64 y)
  · rw [if_pos h1]; decide
  · rw [if_neg h1, if_pos (by omega)]; decide
theorem own_magV {r : UInt64} {s : Bool} {m : Nat} (h : VM r s m) (h0 : 0 < m) : VM (own_mag r) false m := by
  have hc : FP.dcmp r 0 = some (compare (signed s m) 0) := by
    show Core.dcmp r 0 = _
    rw [dcmp_zval h.nn (by decide +kernel), h.zval, zval64_zero]
  unfold own_mag
  rw [hc, compare_ite]
  cases s with
  | false =>
    have e1 : ¬ signed false m < 0 := by simp [signed]
    have e2 : ¬ signed false m = 0 := by simp [signed]; omega
    rw [if_neg e1, if_neg e2, if_neg (by decide)]
    exact h
  | true =>
    have e1 : signed true m < 0 := by simp [signed]; omega
    rw [if_pos e1, if_pos (by decide)]
    obtain ⟨c, q, v, h1, h2, h3⟩ := h
    exact ⟨c, q, by rw [FP.val64_dneg, v]; rfl, h1, h2, h3⟩
def Zr (x : UInt64) : Prop := ∃ (s : Bool) (q : Int), val64 x = .fin s 0 q
def Fn (x : UInt64) : Prop := ∃ (s : Bool) (c : Nat) (q : Int), val64 x = .fin s c q
theorem VM.fn {x : UInt64} {s : Bool} {m : Nat} (h : VM x s m) : Fn x := by obtain ⟨c, q, v, -⟩ := h; exact ⟨s, c, q, v⟩
theorem Zr.fn {x : UInt64} (h : Zr x) : Fn x := by obtain ⟨s, q, v⟩ := h; exact ⟨s, 0, q, v⟩
theorem Fn.nn {x : UInt64} (h : Fn x) : val64 x ≠ .nan := by obtain ⟨s, c, q, v⟩ := h; rw [v]; exact Datum.noConfusion
theorem Zr.zval {x : UInt64} (h : Zr x) : zval b64 (val64 x) = 0 := by
  obtain ⟨s, q, v⟩ := h
  rw [v]
  show signed s (inUnits 0 q b64.qmin) = 0
  unfold inUnits
  rw [Nat.zero_mul, signed_zero]
theorem Zr.mulL {x y : UInt64} (h : Zr x) (g : Fn y) : Zr (FP.dmul x y) := by
  obtain ⟨s, q, v⟩ := h
  obtain ⟨t, d, r, w⟩ := g
  refine ⟨s != t, b64.qmin, ?_⟩
  show val64 (Core.dmul x y) = _
  rw [val64_dmul, v, w]
  show roundRatio b64 (s != t) (0 * d) 1 (q + r) = _
  unfold roundRatio
  rw [Nat.zero_mul, if_pos rfl]
theorem Zr.mulR {x y : UInt64} (g : Fn x) (h : Zr y) : Zr (FP.dmul x y) := by
  obtain ⟨s, q, v⟩ := h
  obtain ⟨t, d, r, w⟩ := g
  refine ⟨t != s, b64.qmin, ?_⟩
  show val64 (Core.dmul x y) = _
  rw [val64_dmul, v, w]
  show roundRatio b64 (t != s) (d * 0) 1 (r + q) = _
  unfold roundRatio
  rw [Nat.mul_zero, if_pos rfl]
theorem Zr.div {x y : UInt64} {t : Bool} {m : Nat} (h : Zr x) (g : VM y t m) (h0 : 0 < m) : Zr (FP.ddiv x y) := by
  obtain ⟨s, q, v⟩ := h
  obtain ⟨d, r, w, -, -, rfl⟩ := g
  have hd : 0 < d := Nat.pos_of_mul_pos_right h0
  refine ⟨s != t, b64.qmin, ?_⟩
  show val64 (Core.ddiv x y) = _
  rw [val64_ddiv, v, w]
  show (if d = 0 then _ else roundRatio b64 (s != t) 0 d (q - r)) = _
  rw [if_neg (by omega)]
  unfold roundRatio
  rw [if_pos rfl]
theorem Zr.sub {x y : UInt64} (h : Zr x) (g : Zr y) : Zr (FP.dsub x y) := by
  obtain ⟨s, q, v⟩ := h
  obtain ⟨t, r, w⟩ := g
  have e : sumUnits s 0 q (!t) 0 r (min q r) = 0 := by
    unfold sumUnits inUnits
    rw [Nat.zero_mul, Nat.zero_mul, signed_zero, signed_zero]; rfl
  refine ⟨sumSign s (!t) 0, b64.qmin, ?_⟩
  show val64 (Core.dsub x y) = _
  rw [val64_dsub, v, w]
  show round b64 (.fin (sumSign s (!t) (sumUnits s 0 q (!t) 0 r (min q r))) (sumUnits s 0 q (!t) 0 r (min q r)).natAbs (min q r)) = _
  rw [e]
  rfl
theorem Zr.neg {x : UInt64} (h : Zr x) : Zr (FP.dneg x) := by
  obtain ⟨s, q, v⟩ := h
  exact ⟨!s, q, by rw [FP.val64_dneg, v]; rfl⟩
theorem Zr.mag {x : UInt64} (h : Zr x) : Zr (own_mag x) := by
  unfold own_mag
  split
  · exact h.neg
  · exact h
theorem own_i0 (a : Int32) (h : a.toInt = 0) : Zr (FP.i2d a) := by
  refine ⟨false, b64.qmin, ?_⟩
  show val64 (Core.i2d a) = _
  rw [val64_i2d, h]
  rfl
theorem own_iF (a : Int32) : Fn (FP.i2d a) := by
  by_cases h : a.toInt = 0
  · exact (own_i0 a h).fn
  · obtain ⟨m, v, -⟩ := own_i2d a h; exact v.fn
theorem own_lF (a : Int64) (h : a.toInt ≠ 0) : Fn (FP.l2d a) := by obtain ⟨m, v, -⟩ := own_l2d a h; exact v.fn
theorem own_fin {x y : Nat} (h : Nk 15 x y) : x * 35184372088832 ≤ y * 35184372088833 := by
  have hp : (4503599627370497 : Nat) ^ 15 * 35184372088832 ≤ 35184372088833 * 4503599627370496 ^ 15 := by decide +kernel
  refine Nat.le_of_mul_le_mul_right (c := 4503599627370496 ^ 15) ?_ (own_pp 15)
  calc x * 35184372088832 * 4503599627370496 ^ 15 = x * 4503599627370496 ^ 15 * 35184372088832 := Nat.mul_right_comm _ _ _
    _ ≤ y * 4503599627370497 ^ 15 * 35184372088832 := Nat.mul_le_mul_right _ h.1
    _ = y * (4503599627370497 ^ 15 * 35184372088832) := Nat.mul_assoc _ _ _
    _ ≤ y * (35184372088833 * 4503599627370496 ^ 15) := Nat.mul_le_mul_left _ hp
    _ = y * 35184372088833 * 4503599627370496 ^ 15 := (Nat.mul_assoc _ _ _).symm
theorem Ap.cast {x : UInt64} {s : Bool} {a b k D Y a' b' k' : Nat} (h : Ap x s a b k D Y) (ha : a = a') (hb : b = b') (hk : k = k') : Ap x s a' b' k' D Y := by
  subst ha hb hk
  exact h
theorem own_ii (a : Int32) (h : a.toInt ≠ 0) : Ap (FP.i2d a) (decide (a.toInt < 0)) 1073 1106 1 1 (a.toInt.natAbs * 2 ^ 1074) := by
  obtain ⟨m, v, n⟩ := own_i2d a h
  have b1 := a.toInt_lt
  have b2 := a.le_toInt
  exact Ap.ofN (B := 31) v n (by omega) (by omega)
theorem own_ip (a : Int32) (h : 0 < a.toInt) : Ap (FP.i2d a) false 1073 1106 1 1 (a.toInt.natAbs * 2 ^ 1074) := by
  have := own_ii a (by omega)
  rwa [decide_eq_false (by omega)] at this
theorem own_lfA (l : Int32) (h : 0 < l.toInt) : Ap (own_lf l) false 1070 1105 2 (1 * (4 * 2 ^ 1074)) (l.toInt.natAbs * 2 ^ 1074 * (1 * 2 ^ 1074)) := (own_ip l h).div own_c4 (by decide) (by decide) (by decide)
theorem own_MA (l : Int32) (h : 0 < l.toInt) : Ap (own_M l) false 1069 1107 4 (5 * (1 * (4 * 2 ^ 1074)) * 2 ^ 1074) (6 * 2 ^ 1074 * (l.toInt.natAbs * 2 ^ 1074 * (1 * 2 ^ 1074))) := own_c12.mul (own_lfA l h) (by decide) (by decide)
theorem own_SA (t l : Int32) (ht : 0 < t.toInt) (h : 0 < l.toInt) : Ap (own_S t l) false 1072 1109 5 (5 * (1 * (4 * 2 ^ 1074)) * 2 ^ 1074) (t.toInt.natAbs * 2 ^ 1074 * (5 * (1 * (4 * 2 ^ 1074)) * 2 ^ 1074) + 6 * 2 ^ 1074 * (l.toInt.natAbs * 2 ^ 1074 * (1 * 2 ^ 1074))) := by
  have hM := own_MA l h
  have hT := own_ip t ht
  generalize 5 * (1 * (4 * 2 ^ 1074)) * 2 ^ 1074 = W at *
  have hT' := hT.scale W
  rw [Nat.one_mul W] at hT'
  have h3 := hT'.add hM (by decide) (by decide) (by decide)
  rw [show max 1106 1107 + 2 = 1109 from by decide, show max 1 4 + 1 = 5 from by decide, show 1073 - 1 = 1072 from by decide] at h3
  exact h3
theorem own_SV (t l : Int32) (ht : 0 ≤ t.toInt) (h : 0 < l.toInt) : ∃ m, VM (own_S t l) false m ∧ 0 < m := by
  by_cases h0 : t.toInt = 0
  · obtain ⟨m, v, lo, hi, -⟩ := own_MA l h
    have w0 : VW (FP.i2d t) false 0 := ⟨0, -1074, by show val64 (Core.i2d t) = _; rw [val64_i2d, h0]; rfl, by decide, Nat.zero_mul _⟩
    obtain ⟨z, vz, nz⟩ := own_add w0 v.w (Nat.le_trans (own_p2 627 1069 (by decide)) (by rw [Nat.zero_add]; exact lo)) (by rw [Nat.zero_add]; exact Nat.le_trans hi (own_p2 1107 1400 (by decide)))
    refine ⟨z, vz, ?_⟩
    have := nz.two
    have := Nat.two_pow_pos 1069
    omega
  · obtain ⟨m, v, lo, -⟩ := own_SA t l (by omega) h
    exact ⟨m, v, Nat.lt_of_lt_of_le (Nat.two_pow_pos _) lo⟩
theorem own_eqn (O A T L : Nat) : A * O * (T * O) * (5 * (1 * (4 * O)) * O * O) * ((10 * T + 3 * L) * O) * (1 * 1 * O * 1 * O) = 10 * O * (A * O) * (T * O) * (1 * 1 * O * (T * O * (5 * (1 * (4 * O)) * O) + 6 * O * (L * O * (1 * O))) * 1 * O) := by grind
theorem own_PA (a t : Int32) (ha : a.toInt ≠ 0) (ht : 0 < t.toInt) : Ap (own_P a t) (decide (a.toInt < 0) != false) 1071 1139 3 (1 * 1 * 2 ^ 1074) (a.toInt.natAbs * 2 ^ 1074 * (t.toInt.natAbs * 2 ^ 1074)) := Ap.cast ((own_ii a ha).mul (own_ip t ht) (by decide) (by decide)) (by decide) (by decide) (by decide)
theorem own_R0A (a : Int32) (ha : a.toInt ≠ 0) : Ap (own_R0 a) (false != decide (a.toInt < 0)) 1075 1111 2 (1 * 1 * 2 ^ 1074) (10 * 2 ^ 1074 * (a.toInt.natAbs * 2 ^ 1074)) := Ap.cast (own_c10.mul (own_ii a ha) (by decide) (by decide)) (by decide) (by decide) (by decide)
theorem own_RA (a t : Int32) (ha : a.toInt ≠ 0) (ht : 0 < t.toInt) : Ap (own_R a t) ((false != decide (a.toInt < 0)) != false) 1073 1144 4 (1 * 1 * 2 ^ 1074 * 1 * 2 ^ 1074) (10 * 2 ^ 1074 * (a.toInt.natAbs * 2 ^ 1074) * (t.toInt.natAbs * 2 ^ 1074)) := Ap.cast ((own_R0A a ha).mul (own_ip t ht) (by decide) (by decide)) (by decide) (by decide) (by decide)
theorem own_QA (a t l : Int32) (ha : a.toInt ≠ 0) (ht : 0 < t.toInt) (h : 0 < l.toInt) {DS YS : Nat} (hS : Ap (own_S t l) false 1072 1109 5 DS YS) : Ap (own_Q a t l) ((decide (a.toInt < 0) != false) != false) 1035 1142 9 (1 * 1 * 2 ^ 1074 * YS) (a.toInt.natAbs * 2 ^ 1074 * (t.toInt.natAbs * 2 ^ 1074) * (DS * 2 ^ 1074)) := Ap.cast ((own_PA a t ha ht).div hS (by decide) (by decide) (by decide)) (by decide) (by decide) (by decide)
theorem own_LA (a t l : Int32) (n : Int64) (ha : a.toInt ≠ 0) (ht : 0 < t.toInt) (h : 0 < l.toInt) (hn : 0 < n.toInt) (hn2 : n.toInt.natAbs ≤ 2 ^ 36) {DS YS : Nat} (hS : Ap (own_S t l) false 1072 1109 5 DS YS) : Ap (own_L a t l n) (((decide (a.toInt < 0) != false) != false) != false) 1033 1180 11 (1 * 1 * 2 ^ 1074 * YS * 1 * 2 ^ 1074) (a.toInt.natAbs * 2 ^ 1074 * (t.toInt.natAbs * 2 ^ 1074) * (DS * 2 ^ 1074) * (n.toInt.natAbs * 2 ^ 1074)) := by
  obtain ⟨m, v, q⟩ := own_l2d n (by omega)
  rw [decide_eq_false (by omega)] at v
  have hN := Ap.ofN (B := 36) v q (by omega) hn2
  exact Ap.cast ((own_QA a t l ha ht h hS).mul hN (by decide) (by decide)) (by decide) (by decide) (by decide)
theorem own_ac3 (m d e : Nat) : m * d * e = m * (d * e) := Nat.mul_assoc _ _ _
theorem own_ac4 (m d e : Nat) : m * e * d = m * (d * e) := by ac_rfl
theorem own_rel (a t l : Int32) (n : Int64) (ha : a.toInt ≠ 0) (ht : 0 < t.toInt) (h : 0 < l.toInt) (hl2 : l.toInt ≤ 1073741824) (hd : n.toInt = 10 * t.toInt + 3 * l.toInt) : ∃ mL mR, VM (own_L a t l n) (decide (a.toInt < 0)) mL ∧ VM (own_R a t) (decide (a.toInt < 0)) mR ∧ 2 ^ 1073 ≤ mR ∧ mR ≤ 2 ^ 1144 ∧ Nk 15 mL mR := by
  have b1 := t.toInt_lt
  have hn2 : n.toInt.natAbs = 10 * t.toInt.natAbs + 3 * l.toInt.natAbs := by omega
  obtain ⟨mL, vL, -, -, nL⟩ := own_LA a t l n ha ht h (by omega) (by omega) (own_SA t l ht h)
  obtain ⟨mR, vR, lR, uR, nR⟩ := own_RA a t ha ht
  have e1 : (((decide (a.toInt < 0) != false) != false) != false) = decide (a.toInt < 0) := by cases decide (a.toInt < 0) <;> rfl
  have e2 : ((false != decide (a.toInt < 0)) != false) = decide (a.toInt < 0) := by cases decide (a.toInt < 0) <;> rfl
  rw [e1] at vL
  rw [e2] at vR
  refine ⟨mL, mR, vL, vR, lR, uR, ?_⟩
  rw [hn2] at nL
  have hO : 0 < 2 ^ 1074 := Nat.two_pow_pos _
  have hT : 0 < t.toInt.natAbs := by omega
  clear vL vR lR uR
  generalize 2 ^ 1074 = O at *
  generalize t.toInt.natAbs = T at *
  generalize l.toInt.natAbs = L at *
  generalize a.toInt.natAbs = A at *
  have eq := own_eqn O A T L
  have hDR : 0 < 1 * 1 * O * 1 * O := Nat.mul_pos (by omega) hO
  have hDL : 0 < 1 * 1 * O * (T * O * (5 * (1 * (4 * O)) * O) + 6 * O * (L * O * (1 * O))) * 1 * O := by
    have h1 : 0 < T * O * (5 * (1 * (4 * O)) * O) := Nat.mul_pos (Nat.mul_pos hT hO) (Nat.mul_pos (by omega) hO)
    exact Nat.mul_pos (Nat.mul_pos (Nat.mul_pos (by omega) (Nat.lt_of_lt_of_le h1 (Nat.le_add_right _ _))) (by decide)) hO
  generalize 1 * 1 * O * 1 * O = DR at *
  generalize 1 * 1 * O * (T * O * (5 * (1 * (4 * O)) * O) + 6 * O * (L * O * (1 * O))) * 1 * O = DL at *
  generalize A * O * (T * O) * (5 * (1 * (4 * O)) * O * O) * ((10 * T + 3 * L) * O) = YL at *
  generalize 10 * O * (A * O) * (T * O) = YR at *
  have q1 := nL.scale DR
  have q2 := nR.scale DL
  rw [eq] at q1
  have q3 := q1.trans q2.symm
  rw [own_ac3 mL, own_ac4 mR DL DR] at q3
  exact Nk.cancel (Nat.mul_pos hDL hDR) q3
theorem own_tolv (mR mt : Nat) (n : Nk 1 (mt * 2 ^ 1074) (4951760157141521 * 2 ^ 982 * mR)) : 4951760157141521 * mR * 4503599627370496 ≤ mt * 4951760157141521099596496896 * 4503599627370497 := by
  have h := n.2
  rw [Nat.pow_one, Nat.pow_one] at h
  have e : 2 ^ 1074 = 2 ^ 982 * 4951760157141521099596496896 := by decide +kernel
  rw [e] at h
  have hp : 0 < 2 ^ 982 := Nat.two_pow_pos _
  generalize 2 ^ 982 = X at *
  refine Nat.le_of_mul_le_mul_right (c := X) ?_ hp
  calc 4951760157141521 * mR * 4503599627370496 * X = 4951760157141521 * X * mR * 4503599627370496 := by ac_rfl
    _ ≤ mt * (X * 4951760157141521099596496896) * 4503599627370497 := h
    _ = mt * 4951760157141521099596496896 * 4503599627370497 * X := by ac_rfl
theorem own_nz (a t l : Int32) (n : Int64) (ha : a.toInt ≠ 0) (ht : 0 < t.toInt) (h : 0 < l.toInt) (hl2 : l.toInt ≤ 1073741824) (hd : n.toInt = 10 * t.toInt + 3 * l.toInt) : val64 (own_df a t l n) ≠ .nan ∧ Fn (own_tol a t) ∧ ¬ ((0 : Int32) < cmpValue (FP.dcmp (own_df a t l n) (own_tol a t)) .g) ∧ ¬ ((0 : Int32) < cmpValue (FP.dcmp (FP.dneg (own_df a t l n)) (own_tol a t)) .g) := by
  obtain ⟨mL, mR, vL, vR, lR, uR, nk⟩ := own_rel a t l n ha ht h hl2 hd
  have hR : 0 < mR := Nat.lt_of_lt_of_le (Nat.two_pow_pos _) lR
  have vm := own_magV vR hR
  have cb : 2 ^ 1034 ≤ 4951760157141521 * 2 ^ 982 ∧ 4951760157141521 * 2 ^ 982 ≤ 2 ^ 1035 := by decide +kernel
  obtain ⟨mt, vt, nt⟩ := own_mul own_ct vm (Nat.le_trans (by rw [← Nat.pow_add]; exact own_p2 1701 (1034 + 1073) (by decide)) (Nat.mul_le_mul cb.1 lR)) (Nat.le_trans (Nat.mul_le_mul cb.2 uR) (by rw [← Nat.pow_add]; exact own_p2 (1035 + 1144) 2474 (by decide)))
  have vt' : VM (own_tol a t) false mt := vt
  have h1 := own_fin nk
  have h2 := own_fin nk.symm
  have h3 := own_tolv mR mt nt
  obtain ⟨d1, d2, d3⟩ := own_sub vL vR vt' (by omega) (by omega)
  have d1' : zval b64 (val64 (own_df a t l n)) ≤ mt := d1
  have d2' : -(mt : Int) ≤ zval b64 (val64 (own_df a t l n)) := d2
  have d3' : val64 (own_df a t l n) ≠ .nan := d3
  have zt : zval b64 (val64 (own_tol a t)) = mt := by rw [vt'.zval]; rfl
  refine ⟨d3', vt'.fn, own_cmp d3' vt'.nn (by rw [zt]; exact d1'), own_cmp ?_ vt'.nn ?_⟩
  · rw [FP.val64_dneg]; exact negate_ne_nan d3'
  · rw [FP.val64_dneg, zval_negate, zt]; omega
theorem own_all (a t l : Int32) (n : Int64) (ht : 0 ≤ t.toInt) (h : 0 < l.toInt) (hl2 : l.toInt ≤ 1073741824) (hd : n.toInt = 10 * t.toInt + 3 * l.toInt) :
    (Fn (own_lf l) ∧ Fn (own_P a t) ∧ Fn (own_M l) ∧ Fn (own_S t l) ∧ Fn (own_Q a t l) ∧ Fn (own_L a t l n) ∧ Fn (own_R0 a) ∧ Fn (own_R a t)) ∧ val64 (own_df a t l n) ≠ .nan ∧ Fn (own_tol a t) ∧ ¬ ((0 : Int32) < cmpValue (FP.dcmp (own_df a t l n) (own_tol a t)) .g) ∧ ¬ ((0 : Int32) < cmpValue (FP.dcmp (FP.dneg (own_df a t l n)) (own_tol a t)) .g) := by
  obtain ⟨_, vlf, -⟩ := own_lfA l h
  obtain ⟨_, vM, -⟩ := own_MA l h
  obtain ⟨mS, vS, pS⟩ := own_SV t l ht h
  have f10 : Fn 4621819117588971520 := by obtain ⟨_, v, -⟩ := own_c10; exact v.fn
  have fn0 := own_lF n (by omega)
  by_cases hz : a.toInt ≠ 0 ∧ 0 < t.toInt
  · obtain ⟨mL, mR, vL, vR, -⟩ := own_rel a t l n hz.1 hz.2 h hl2 hd
    obtain ⟨_, vP, -⟩ := own_PA a t hz.1 hz.2
    obtain ⟨_, vQ, -⟩ := own_QA a t l hz.1 hz.2 h (own_SA t l hz.2 h)
    obtain ⟨_, vR0, -⟩ := own_R0A a hz.1
    exact ⟨⟨vlf.fn, vP.fn, vM.fn, vS.fn, vQ.fn, vL.fn, vR0.fn, vR.fn⟩, own_nz a t l n hz.1 hz.2 h hl2 hd⟩
  · have hR0 : Fn (own_R0 a) := by
      by_cases h0 : a.toInt = 0
      · exact (Zr.mulR f10 (own_i0 a h0)).fn
      · obtain ⟨_, v, -⟩ := own_R0A a h0; exact v.fn
    have hP : Zr (own_P a t) := by
      by_cases h0 : a.toInt = 0
      · exact Zr.mulL (own_i0 a h0) (own_iF t)
      · exact Zr.mulR (own_iF a) (own_i0 t (by omega))
    have hR : Zr (own_R a t) := by
      by_cases h0 : a.toInt = 0
      · exact Zr.mulL (Zr.mulR f10 (own_i0 a h0)) (own_iF t)
      · exact Zr.mulR hR0 (own_i0 t (by omega))
    have hQ : Zr (own_Q a t l) := Zr.div hP vS pS
    have hL : Zr (own_L a t l n) := Zr.mulL hQ fn0
    have hD : Zr (own_df a t l n) := Zr.sub hL hR
    have hT : Zr (own_tol a t) := Zr.mulR own_ct.fn hR.mag
    exact ⟨⟨vlf.fn, hP.fn, vM.fn, vS.fn, hQ.fn, hL.fn, hR0, hR.fn⟩, hD.fn.nn, hT.fn, own_cmp hD.fn.nn hT.fn.nn (by rw [hD.zval, hT.zval]; exact Int.le_refl 0), own_cmp hD.neg.fn.nn hT.fn.nn (by rw [hD.neg.zval, hT.zval]; exact Int.le_refl 0)⟩
end Fp
theorem d1_0 : decode prog_11_method_4_code 0 = .ok (.dload_n 0, 1) := by decide +kernel
theorem d1_1 : decode prog_11_method_4_code 1 = .ok (.iload_n 2, 1) := by decide +kernel
theorem d1_2 : decode prog_11_method_4_code 2 = .ok (.i2d, 1) := by decide +kernel
theorem d1_3 : decode prog_11_method_4_code 3 = .ok (.dmul, 1) := by decide +kernel
theorem d1_4 : decode prog_11_method_4_code 4 = .ok (.iload_n 2, 1) := by decide +kernel
theorem d1_5 : decode prog_11_method_4_code 5 = .ok (.i2d, 1) := by decide +kernel
theorem d1_6 : decode prog_11_method_4_code 6 = .ok (.ldc2_w 21, 3) := by decide +kernel
theorem d1_9 : decode prog_11_method_4_code 9 = .ok (.dload_n 3, 1) := by decide +kernel
theorem d1_10 : decode prog_11_method_4_code 10 = .ok (.dmul, 1) := by decide +kernel
theorem d1_11 : decode prog_11_method_4_code 11 = .ok (.dadd, 1) := by decide +kernel
theorem d1_12 : decode prog_11_method_4_code 12 = .ok (.ddiv, 1) := by decide +kernel
theorem d1_13 : decode prog_11_method_4_code 13 = .ok (.dreturn, 1) := by decide +kernel
theorem pn_1 : plainName "com/example/mudskipper/mudskipper/search/Bm25" = true := by first | (simp [plainName, overriddenIn]; done) | decide +kernel
theorem ef_1 (m : MethodId) (x0 : UInt64) (p1 : Int32) (x2 : UInt64) : entryFrame m #[(.double x0), (.int p1), (.double x2)] 5 = mkF m 0 #[.val (.double x0), .second, .val (.int p1), .val (.double x2), .second] [] := by first | (simp [entryFrame, mkF, argsToLocals, Value.category]; done) | rfl
def Q1 (Z : State) (x0 : UInt64) (p1 : Int32) (x2 : UInt64) (h0 : Heap) (n0 : Nat) (v : Option Value) (h : Heap) (L : List Loc) : Prop := v = some (.double (FP.ddiv (FP.dmul x0 (FP.i2d p1)) (FP.dadd (FP.i2d p1) (FP.dmul 4608083138725491507 x2)))) ∧ Fr n0 L ∧ h = h0
set_option maxRecDepth 65536 in
set_option maxHeartbeats 40000000 in
theorem rm1 (l : Launch) (Z : State) (av0 : Array Value) (hw : ∀ d ∈ tables_1, d.before av0 Z = true) (ws : List Jvm.Cond) (x0 : UInt64) (p1 : Int32) (x2 : UInt64) (h0 : Heap) (n0 : Nat) (Z0 : n0 ≤ h0.size) (hnP : Jvm.Free.Fl.NoNaN64 (FP.dmul x0 (FP.i2d p1))) (hnM : Jvm.Free.Fl.NoNaN64 (FP.dmul 4608083138725491507 x2)) (hnS : Jvm.Free.Fl.NoNaN64 (FP.dadd (FP.i2d p1) (FP.dmul 4608083138725491507 x2))) (hnQ : Jvm.Free.Fl.NoNaN64 (FP.ddiv (FP.dmul x0 (FP.i2d p1)) (FP.dadd (FP.i2d p1) (FP.dmul 4608083138725491507 x2)))) :
    MetFree l (⟨"com/example/mudskipper/mudskipper/search/Bm25", "score", "(DID)D"⟩ : MethodName) (head1 (Jvm.Cond.code (⟨"com/example/mudskipper/mudskipper/search/Bm25", "score", "(DID)D"⟩ : MethodName) prog_11_method_4_code 5 (some .double) :: ws) ({ frames := 0, cells := 0, slots := 0, locals := 0 } : Room)) (fun a U => a = #[(.double x0), (.int p1), (.double x2)] ∧ Z.Warmed39 U.vm ∧ U.heap = h0) (fun _ _ _ _ _ => True) (fun _ U o U' => ∃ v L, o = .returned v ∧ Q1 Z x0 p1 x2 h0 n0 v U'.heap L ∧ FrameEnd U o U' L ({ frames := 0, cells := 0, slots := 0, locals := 0 } : Room).cells ({ frames := 0, cells := 0, slots := 0, locals := 0 } : Room).slots) := by
  refine MetFree.of_bodySF (plainFor_of_name pn_1) hisR ?_
  intro p e s m args below meth c s₁ Bd hml0 hP hK
  obtain ⟨rfl, hZ, hh⟩ := hP
  have hx := Bd.exec
  have hby := Bd.bytes
  have hml : c.maxLocals = 5 := hml0
  have hown : s.vm.findClass "com/example/mudskipper/mudskipper/search/Bm25" = some m.cls := findClass_of_methodNamed Bd.named
  have hnm := (name_of_methodNamed Bd.named Bd.method).1
  have X0 : Stand p l e ({ frames := 0, cells := 0, slots := 0, locals := 0 } : Room) s m #[(.double x0), (.int p1), (.double x2)] below meth c s₁ [] 0 0 := Stand.of_body Bd
  have e0 : s₁.heap = h0 := by rw [← hh, Bd.state]; rfl
  have N0 := Fr.nil n0
  have K0 : Keep h0 h0 [] := Keep.refl h0 []
  refine own_go (B := s₁.setTop (mkF m 0 #[.val (.double x0), .second, .val (.int p1), .val (.double x2), .second] [])) (fun t k => castTop (ef_1 m x0 p1 x2) k) ?_
  refine own_go (B := s₁.setTop (mkF m 13 #[.val (.double x0), .second, .val (.int p1), .val (.double x2), .second] [(.double (FP.ddiv (FP.dmul x0 (FP.i2d p1)) (FP.dadd (FP.i2d p1) (FP.dmul 4608083138725491507 x2))))])) (fun t k => ?_) ?_
  · show Steps p.tables e below (s₁.setTop (mkF m 0 #[.val (.double x0), .second, .val (.int p1), .val (.double x2), .second] [])) _
    refine XS.dloadN X0.here hx rfl (hb hby d1_0) rfl ?_
    show Steps p.tables e below (s₁.setTop (mkF m 1 #[.val (.double x0), .second, .val (.int p1), .val (.double x2), .second] [(.double x0)])) _
    refine XS.iloadN X0.here hx rfl (hb hby d1_1) rfl ?_
    show Steps p.tables e below (s₁.setTop (mkF m 2 #[.val (.double x0), .second, .val (.int p1), .val (.double x2), .second] [(.int p1), (.double x0)])) _
    refine XS.i2dS X0.here hx rfl (hb hby d1_2) rfl rfl ?_
    show Steps p.tables e below (s₁.setTop (mkF m 3 #[.val (.double x0), .second, .val (.int p1), .val (.double x2), .second] [(.double (FP.i2d p1)), (.double x0)])) _
    refine XS.dmulS X0.here hx rfl (hb hby d1_3) rfl hnP rfl ?_
    show Steps p.tables e below (s₁.setTop (mkF m 4 #[.val (.double x0), .second, .val (.int p1), .val (.double x2), .second] [(.double (FP.dmul x0 (FP.i2d p1)))])) _
    refine XS.iloadN X0.here hx rfl (hb hby d1_4) rfl ?_
    show Steps p.tables e below (s₁.setTop (mkF m 5 #[.val (.double x0), .second, .val (.int p1), .val (.double x2), .second] [(.int p1), (.double (FP.dmul x0 (FP.i2d p1)))])) _
    refine XS.i2dS X0.here hx rfl (hb hby d1_5) rfl rfl ?_
    show Steps p.tables e below (s₁.setTop (mkF m 6 #[.val (.double x0), .second, .val (.int p1), .val (.double x2), .second] [(.double (FP.i2d p1)), (.double (FP.dmul x0 (FP.i2d p1)))])) _
    refine X0.ldc2DoubleC hx hown (mvT hZ (hw _ (List.mem_of_getElem? (i := 7) rfl))) (g := (mkF m 6 #[.val (.double x0), .second, .val (.int p1), .val (.double x2), .second] [(.double (FP.i2d p1)), (.double (FP.dmul x0 (FP.i2d p1)))])) rfl (hb hby d1_6) _ ?_
    show Steps p.tables e below (s₁.setTop (mkF m 9 #[.val (.double x0), .second, .val (.int p1), .val (.double x2), .second] [(.double 4608083138725491507), (.double (FP.i2d p1)), (.double (FP.dmul x0 (FP.i2d p1)))])) _
    refine XS.dloadN X0.here hx rfl (hb hby d1_9) rfl ?_
    show Steps p.tables e below (s₁.setTop (mkF m 10 #[.val (.double x0), .second, .val (.int p1), .val (.double x2), .second] [(.double x2), (.double 4608083138725491507), (.double (FP.i2d p1)), (.double (FP.dmul x0 (FP.i2d p1)))])) _
    refine XS.dmulS X0.here hx rfl (hb hby d1_10) rfl hnM rfl ?_
    show Steps p.tables e below (s₁.setTop (mkF m 11 #[.val (.double x0), .second, .val (.int p1), .val (.double x2), .second] [(.double (FP.dmul 4608083138725491507 x2)), (.double (FP.i2d p1)), (.double (FP.dmul x0 (FP.i2d p1)))])) _
    refine XS.daddS X0.here hx rfl (hb hby d1_11) rfl hnS rfl ?_
    show Steps p.tables e below (s₁.setTop (mkF m 12 #[.val (.double x0), .second, .val (.int p1), .val (.double x2), .second] [(.double (FP.dadd (FP.i2d p1) (FP.dmul 4608083138725491507 x2))), (.double (FP.dmul x0 (FP.i2d p1)))])) _
    refine XS.ddivS X0.here hx rfl (hb hby d1_12) rfl hnQ rfl ?_
    exact k
  obtain ⟨fs, hr, hrun, hended, hW, hsame⟩ := X0.leave (v := some (.double (FP.ddiv (FP.dmul x0 (FP.i2d p1)) (FP.dadd (FP.i2d p1) (FP.dmul 4608083138725491507 x2))))) (fun h => by rw [Bd.returns] at h; cases h)
  refine ⟨_, _, ?_, hrun, hended, _, _, rfl, ?_, ⟨_, rfl⟩, hW, hsame.mono (by decide) (by decide)⟩
  · show Steps p.tables e below (s₁.setTop (mkF m 13 #[.val (.double x0), .second, .val (.int p1), .val (.double x2), .second] [(.double (FP.ddiv (FP.dmul x0 (FP.i2d p1)) (FP.dadd (FP.i2d p1) (FP.dmul 4608083138725491507 x2))))])) _
    jvm_step X0.here [X0.here.top, hx, (hb hby d1_13), X0.method', Bd.returns, narrow]
    first | (intro acts; rw [hr _ acts rfl rfl rfl]) | rw [hr _ _ rfl rfl rfl]
    exact Steps.refl _
  · show Q1 Z x0 p1 x2 h0 n0 _ s₁.heap _
    rw [e0]
    exact ⟨rfl, N0, rfl⟩
theorem own_ints (p1 p2 : Int32) : 0 ≤ (p1 &&& (2147483647 : Int32)).toInt ∧ 0 < ((1 : Int32) + (p2 &&& (1073741823 : Int32))).toInt ∧ ((1 : Int32) + (p2 &&& (1073741823 : Int32))).toInt ≤ 1073741824 ∧ (((10 : Int64) * ((p1 &&& (2147483647 : Int32)).toInt64)) + ((3 : Int64) * (((1 : Int32) + (p2 &&& (1073741823 : Int32))).toInt64))).toInt = 10 * (p1 &&& (2147483647 : Int32)).toInt + 3 * ((1 : Int32) + (p2 &&& (1073741823 : Int32))).toInt := by
  have h1 := Jvm.Kit.i32_mask p1 2147483647 (k := 31) (by decide) (by decide)
  have h2 := Jvm.Kit.i32_mask p2 1073741823 (k := 30) (by decide) (by decide)
  have c1 : (1 : Int32).toInt = 1 := rfl
  have c10 : (10 : Int64).toInt = 10 := rfl
  have c3 : (3 : Int64).toInt = 3 := rfl
  have hL : ((1 : Int32) + (p2 &&& (1073741823 : Int32))).toInt = 1 + (p2 &&& (1073741823 : Int32)).toInt := by rw [Jvm.Kit.i32_add (by omega) (by omega), c1]
  have t1 : (p1 &&& (2147483647 : Int32)).toInt64.toInt = (p1 &&& (2147483647 : Int32)).toInt := Jvm.Kit.i64_of_i32 _
  have l1 : ((1 : Int32) + (p2 &&& (1073741823 : Int32))).toInt64.toInt = ((1 : Int32) + (p2 &&& (1073741823 : Int32))).toInt := Jvm.Kit.i64_of_i32 _
  have bt := (p1 &&& (2147483647 : Int32)).toInt_lt
  refine ⟨by omega, by omega, by omega, ?_⟩
  have m1 : ((10 : Int64) * (p1 &&& (2147483647 : Int32)).toInt64).toInt = 10 * (p1 &&& (2147483647 : Int32)).toInt := by rw [Jvm.Kit.i64_mul (by rw [c10, t1]; omega) (by rw [c10, t1]; omega), c10, t1]
  have m2 : ((3 : Int64) * ((1 : Int32) + (p2 &&& (1073741823 : Int32))).toInt64).toInt = 3 * ((1 : Int32) + (p2 &&& (1073741823 : Int32))).toInt := by rw [Jvm.Kit.i64_mul (by rw [c3, l1]; omega) (by rw [c3, l1]; omega), c3, l1]
  rw [Jvm.Kit.i64_add (by rw [m1, m2]; omega) (by rw [m1, m2]; omega), m1, m2]
theorem pn_0 : plainName "com/example/mudskipper/mudskipper/search/Bm25ScorePinLaw" = true := by first | (simp [plainName, overriddenIn]; done) | decide +kernel
theorem ef_0 (m : MethodId) (p0 : Int32) (p1 : Int32) (p2 : Int32) : entryFrame m #[(.int p0), (.int p1), (.int p2)] maxLocals = mkF m 0 #[.val (.int p0), .val (.int p1), .val (.int p2), .unset, .unset, .unset, .unset, .unset, .unset, .unset, .unset, .unset, .unset, .unset, .unset, .unset, .unset, .unset, .unset, .unset, .unset, .unset, .unset] [] := by first | (simp [entryFrame, mkF, argsToLocals, Value.category, maxLocals]; done) | rfl
theorem pd_0 : parseMethodDescriptor "(DID)D" = some ⟨[.double, .int, .double], some .double⟩ := by decide +kernel
def Q0 (Z : State) (p0 : Int32) (p1 : Int32) (p2 : Int32) (h0 : Heap) (n0 : Nat) (v : Option Value) (h : Heap) (L : List Loc) : Prop := v = some (.int 1) ∧ Fr n0 L ∧ True
set_option maxRecDepth 65536 in
set_option maxHeartbeats 40000000 in
theorem rm0 (l : Launch) (Z : State) (av0 : Array Value) (hw : ∀ d ∈ tables_1, d.before av0 Z = true) (ws : List Jvm.Cond) (p0 : Int32) (p1 : Int32) (p2 : Int32) (h0 : Heap) (n0 : Nat) (Z0 : n0 ≤ h0.size) :
    MetFree l x (head1 (Jvm.Cond.code x code maxLocals ret :: ws) room_1) (fun a U => a = #[(.int p0), (.int p1), (.int p2)] ∧ Z.Warmed39 U.vm ∧ U.heap = h0) (fun _ _ _ _ _ => True) (fun _ U o U' => ∃ v L, o = .returned v ∧ Q0 Z p0 p1 p2 h0 n0 v U'.heap L ∧ FrameEnd U o U' L room_1.cells room_1.slots) := by
  refine MetFree.of_bodySF (plainFor_of_name pn_0) hisR ?_
  intro p e s m args below meth c s₁ Bd hml0 hP hK
  obtain ⟨rfl, hZ, hh⟩ := hP
  have hx := Bd.exec
  have hby := Bd.bytes
  have hml : c.maxLocals = 23 := hml0
  have hown : s.vm.findClass "com/example/mudskipper/mudskipper/search/Bm25ScorePinLaw" = some m.cls := findClass_of_methodNamed Bd.named
  have hnm := (name_of_methodNamed Bd.named Bd.method).1
  have X0 : Stand p l e room_1 s m #[(.int p0), (.int p1), (.int p2)] below meth c s₁ [] 0 0 := Stand.of_body Bd
  have e0 : s₁.heap = h0 := by rw [← hh, Bd.state]; rfl
  have N0 := Fr.nil n0
  obtain ⟨w1, w2, w3, w4⟩ := own_ints p1 p2
  obtain ⟨⟨flf, fP, fM, fS, fQ, fL, fR0, fR⟩, nD, fT, g1, g2⟩ := own_all p0 (p1 &&& (2147483647 : Int32)) ((1 : Int32) + (p2 &&& (1073741823 : Int32))) (((10 : Int64) * ((p1 &&& (2147483647 : Int32)).toInt64)) + ((3 : Int64) * (((1 : Int32) + (p2 &&& (1073741823 : Int32))).toInt64))) w1 w2 w3 w4
  have K0 : Keep h0 h0 [] := Keep.refl h0 []
  refine own_go (B := s₁.setTop (mkF m 0 #[.val (.int p0), .val (.int p1), .val (.int p2), .unset, .unset, .unset, .unset, .unset, .unset, .unset, .unset, .unset, .unset, .unset, .unset, .unset, .unset, .unset, .unset, .unset, .unset, .unset, .unset] [])) (fun t k => castTop (ef_0 m p0 p1 p2) k) ?_
  refine own_go (B := s₁.setTop (mkF m 31 #[.val (.int p0), .val (.int p1), .val (.int p2), .val (.int (p1 &&& (2147483647 : Int32))), .val (.int ((1 : Int32) + (p2 &&& (1073741823 : Int32)))), .val (.double (FP.i2d p0)), .second, .val (.double (own_lf ((1 : Int32) + (p2 &&& (1073741823 : Int32))))), .second, .unset, .unset, .unset, .unset, .unset, .unset, .unset, .unset, .unset, .unset, .unset, .unset, .unset, .unset] [(.double (own_lf ((1 : Int32) + (p2 &&& (1073741823 : Int32))))), (.int (p1 &&& (2147483647 : Int32))), (.double (FP.i2d p0))])) (fun t k => ?_) ?_
  · show Steps p.tables e below (s₁.setTop (mkF m 0 #[.val (.int p0), .val (.int p1), .val (.int p2), .unset, .unset, .unset, .unset, .unset, .unset, .unset, .unset, .unset, .unset, .unset, .unset, .unset, .unset, .unset, .unset, .unset, .unset, .unset, .unset] [])) _
    refine XS.iloadN X0.here hx rfl (hb hby at_0) rfl ?_
    show Steps p.tables e below (s₁.setTop (mkF m 1 #[.val (.int p0), .val (.int p1), .val (.int p2), .unset, .unset, .unset, .unset, .unset, .unset, .unset, .unset, .unset, .unset, .unset, .unset, .unset, .unset, .unset, .unset, .unset, .unset, .unset, .unset] [(.int p1)])) _
    refine X0.ldcInt hx hown (mvT hZ (hw _ (List.mem_of_getElem? (i := 0) rfl))) (g := (mkF m 1 #[.val (.int p0), .val (.int p1), .val (.int p2), .unset, .unset, .unset, .unset, .unset, .unset, .unset, .unset, .unset, .unset, .unset, .unset, .unset, .unset, .unset, .unset, .unset, .unset, .unset, .unset] [(.int p1)])) rfl (hb hby at_1) _ ?_
    show Steps p.tables e below (s₁.setTop (mkF m 3 #[.val (.int p0), .val (.int p1), .val (.int p2), .unset, .unset, .unset, .unset, .unset, .unset, .unset, .unset, .unset, .unset, .unset, .unset, .unset, .unset, .unset, .unset, .unset, .unset, .unset, .unset] [(.int (2147483647 : Int32)), (.int p1)])) _
    refine XS.iand X0.here hx rfl (hb hby at_3) rfl ?_
    show Steps p.tables e below (s₁.setTop (mkF m 4 #[.val (.int p0), .val (.int p1), .val (.int p2), .unset, .unset, .unset, .unset, .unset, .unset, .unset, .unset, .unset, .unset, .unset, .unset, .unset, .unset, .unset, .unset, .unset, .unset, .unset, .unset] [(.int (p1 &&& (2147483647 : Int32)))])) _
    refine XS.istoreN X0.here hx rfl (hb hby at_4) rfl (l' := #[.val (.int p0), .val (.int p1), .val (.int p2), .val (.int (p1 &&& (2147483647 : Int32))), .unset, .unset, .unset, .unset, .unset, .unset, .unset, .unset, .unset, .unset, .unset, .unset, .unset, .unset, .unset, .unset, .unset, .unset, .unset]) rfl ?_
    show Steps p.tables e below (s₁.setTop (mkF m 5 #[.val (.int p0), .val (.int p1), .val (.int p2), .val (.int (p1 &&& (2147483647 : Int32))), .unset, .unset, .unset, .unset, .unset, .unset, .unset, .unset, .unset, .unset, .unset, .unset, .unset, .unset, .unset, .unset, .unset, .unset, .unset] [])) _
    refine XS.iconst X0.here hx rfl (hb hby at_5) ?_
    show Steps p.tables e below (s₁.setTop (mkF m 6 #[.val (.int p0), .val (.int p1), .val (.int p2), .val (.int (p1 &&& (2147483647 : Int32))), .unset, .unset, .unset, .unset, .unset, .unset, .unset, .unset, .unset, .unset, .unset, .unset, .unset, .unset, .unset, .unset, .unset, .unset, .unset] [(.int (1 : Int32))])) _
    refine XS.iloadN X0.here hx rfl (hb hby at_6) rfl ?_
    show Steps p.tables e below (s₁.setTop (mkF m 7 #[.val (.int p0), .val (.int p1), .val (.int p2), .val (.int (p1 &&& (2147483647 : Int32))), .unset, .unset, .unset, .unset, .unset, .unset, .unset, .unset, .unset, .unset, .unset, .unset, .unset, .unset, .unset, .unset, .unset, .unset, .unset] [(.int p2), (.int (1 : Int32))])) _
    refine X0.ldcInt hx hown (mvT hZ (hw _ (List.mem_of_getElem? (i := 1) rfl))) (g := (mkF m 7 #[.val (.int p0), .val (.int p1), .val (.int p2), .val (.int (p1 &&& (2147483647 : Int32))), .unset, .unset, .unset, .unset, .unset, .unset, .unset, .unset, .unset, .unset, .unset, .unset, .unset, .unset, .unset, .unset, .unset, .unset, .unset] [(.int p2), (.int (1 : Int32))])) rfl (hb hby at_7) _ ?_
    show Steps p.tables e below (s₁.setTop (mkF m 9 #[.val (.int p0), .val (.int p1), .val (.int p2), .val (.int (p1 &&& (2147483647 : Int32))), .unset, .unset, .unset, .unset, .unset, .unset, .unset, .unset, .unset, .unset, .unset, .unset, .unset, .unset, .unset, .unset, .unset, .unset, .unset] [(.int (1073741823 : Int32)), (.int p2), (.int (1 : Int32))])) _
    refine XS.iand X0.here hx rfl (hb hby at_9) rfl ?_
    show Steps p.tables e below (s₁.setTop (mkF m 10 #[.val (.int p0), .val (.int p1), .val (.int p2), .val (.int (p1 &&& (2147483647 : Int32))), .unset, .unset, .unset, .unset, .unset, .unset, .unset, .unset, .unset, .unset, .unset, .unset, .unset, .unset, .unset, .unset, .unset, .unset, .unset] [(.int (p2 &&& (1073741823 : Int32))), (.int (1 : Int32))])) _
    refine XS.iadd X0.here hx rfl (hb hby at_10) rfl ?_
    show Steps p.tables e below (s₁.setTop (mkF m 11 #[.val (.int p0), .val (.int p1), .val (.int p2), .val (.int (p1 &&& (2147483647 : Int32))), .unset, .unset, .unset, .unset, .unset, .unset, .unset, .unset, .unset, .unset, .unset, .unset, .unset, .unset, .unset, .unset, .unset, .unset, .unset] [(.int ((1 : Int32) + (p2 &&& (1073741823 : Int32))))])) _
    refine XS.istore X0.here hx rfl (hb hby at_11) rfl (l' := #[.val (.int p0), .val (.int p1), .val (.int p2), .val (.int (p1 &&& (2147483647 : Int32))), .val (.int ((1 : Int32) + (p2 &&& (1073741823 : Int32)))), .unset, .unset, .unset, .unset, .unset, .unset, .unset, .unset, .unset, .unset, .unset, .unset, .unset, .unset, .unset, .unset, .unset, .unset]) rfl ?_
    show Steps p.tables e below (s₁.setTop (mkF m 13 #[.val (.int p0), .val (.int p1), .val (.int p2), .val (.int (p1 &&& (2147483647 : Int32))), .val (.int ((1 : Int32) + (p2 &&& (1073741823 : Int32)))), .unset, .unset, .unset, .unset, .unset, .unset, .unset, .unset, .unset, .unset, .unset, .unset, .unset, .unset, .unset, .unset, .unset, .unset] [])) _
    refine XS.iloadN X0.here hx rfl (hb hby at_13) rfl ?_
    show Steps p.tables e below (s₁.setTop (mkF m 14 #[.val (.int p0), .val (.int p1), .val (.int p2), .val (.int (p1 &&& (2147483647 : Int32))), .val (.int ((1 : Int32) + (p2 &&& (1073741823 : Int32)))), .unset, .unset, .unset, .unset, .unset, .unset, .unset, .unset, .unset, .unset, .unset, .unset, .unset, .unset, .unset, .unset, .unset, .unset] [(.int p0)])) _
    refine XS.i2dS X0.here hx rfl (hb hby at_14) rfl rfl ?_
    show Steps p.tables e below (s₁.setTop (mkF m 15 #[.val (.int p0), .val (.int p1), .val (.int p2), .val (.int (p1 &&& (2147483647 : Int32))), .val (.int ((1 : Int32) + (p2 &&& (1073741823 : Int32)))), .unset, .unset, .unset, .unset, .unset, .unset, .unset, .unset, .unset, .unset, .unset, .unset, .unset, .unset, .unset, .unset, .unset, .unset] [(.double (FP.i2d p0))])) _
    refine XS.dstore X0.here hx rfl (hb hby at_15) rfl (l' := #[.val (.int p0), .val (.int p1), .val (.int p2), .val (.int (p1 &&& (2147483647 : Int32))), .val (.int ((1 : Int32) + (p2 &&& (1073741823 : Int32)))), .val (.double (FP.i2d p0)), .second, .unset, .unset, .unset, .unset, .unset, .unset, .unset, .unset, .unset, .unset, .unset, .unset, .unset, .unset, .unset, .unset]) rfl ?_
    show Steps p.tables e below (s₁.setTop (mkF m 17 #[.val (.int p0), .val (.int p1), .val (.int p2), .val (.int (p1 &&& (2147483647 : Int32))), .val (.int ((1 : Int32) + (p2 &&& (1073741823 : Int32)))), .val (.double (FP.i2d p0)), .second, .unset, .unset, .unset, .unset, .unset, .unset, .unset, .unset, .unset, .unset, .unset, .unset, .unset, .unset, .unset, .unset] [])) _
    refine XS.iload X0.here hx rfl (hb hby at_17) rfl ?_
    show Steps p.tables e below (s₁.setTop (mkF m 19 #[.val (.int p0), .val (.int p1), .val (.int p2), .val (.int (p1 &&& (2147483647 : Int32))), .val (.int ((1 : Int32) + (p2 &&& (1073741823 : Int32)))), .val (.double (FP.i2d p0)), .second, .unset, .unset, .unset, .unset, .unset, .unset, .unset, .unset, .unset, .unset, .unset, .unset, .unset, .unset, .unset, .unset] [(.int ((1 : Int32) + (p2 &&& (1073741823 : Int32))))])) _
    refine XS.i2dS X0.here hx rfl (hb hby at_19) rfl rfl ?_
    show Steps p.tables e below (s₁.setTop (mkF m 20 #[.val (.int p0), .val (.int p1), .val (.int p2), .val (.int (p1 &&& (2147483647 : Int32))), .val (.int ((1 : Int32) + (p2 &&& (1073741823 : Int32)))), .val (.double (FP.i2d p0)), .second, .unset, .unset, .unset, .unset, .unset, .unset, .unset, .unset, .unset, .unset, .unset, .unset, .unset, .unset, .unset, .unset] [(.double (FP.i2d ((1 : Int32) + (p2 &&& (1073741823 : Int32)))))])) _
    refine X0.ldc2DoubleC hx hown (mvT hZ (hw _ (List.mem_of_getElem? (i := 2) rfl))) (g := (mkF m 20 #[.val (.int p0), .val (.int p1), .val (.int p2), .val (.int (p1 &&& (2147483647 : Int32))), .val (.int ((1 : Int32) + (p2 &&& (1073741823 : Int32)))), .val (.double (FP.i2d p0)), .second, .unset, .unset, .unset, .unset, .unset, .unset, .unset, .unset, .unset, .unset, .unset, .unset, .unset, .unset, .unset, .unset] [(.double (FP.i2d ((1 : Int32) + (p2 &&& (1073741823 : Int32)))))])) rfl (hb hby at_20) _ ?_
    show Steps p.tables e below (s₁.setTop (mkF m 23 #[.val (.int p0), .val (.int p1), .val (.int p2), .val (.int (p1 &&& (2147483647 : Int32))), .val (.int ((1 : Int32) + (p2 &&& (1073741823 : Int32)))), .val (.double (FP.i2d p0)), .second, .unset, .unset, .unset, .unset, .unset, .unset, .unset, .unset, .unset, .unset, .unset, .unset, .unset, .unset, .unset, .unset] [(.double 4616189618054758400), (.double (FP.i2d ((1 : Int32) + (p2 &&& (1073741823 : Int32)))))])) _
    refine XS.ddivS X0.here hx rfl (hb hby at_23) rfl (Jvm.Free.Fl.val64_no.mpr (flf).nn) rfl ?_
    show Steps p.tables e below (s₁.setTop (mkF m 24 #[.val (.int p0), .val (.int p1), .val (.int p2), .val (.int (p1 &&& (2147483647 : Int32))), .val (.int ((1 : Int32) + (p2 &&& (1073741823 : Int32)))), .val (.double (FP.i2d p0)), .second, .unset, .unset, .unset, .unset, .unset, .unset, .unset, .unset, .unset, .unset, .unset, .unset, .unset, .unset, .unset, .unset] [(.double (own_lf ((1 : Int32) + (p2 &&& (1073741823 : Int32)))))])) _
    refine XS.dstore X0.here hx rfl (hb hby at_24) rfl (l' := #[.val (.int p0), .val (.int p1), .val (.int p2), .val (.int (p1 &&& (2147483647 : Int32))), .val (.int ((1 : Int32) + (p2 &&& (1073741823 : Int32)))), .val (.double (FP.i2d p0)), .second, .val (.double (own_lf ((1 : Int32) + (p2 &&& (1073741823 : Int32))))), .second, .unset, .unset, .unset, .unset, .unset, .unset, .unset, .unset, .unset, .unset, .unset, .unset, .unset, .unset]) rfl ?_
    show Steps p.tables e below (s₁.setTop (mkF m 26 #[.val (.int p0), .val (.int p1), .val (.int p2), .val (.int (p1 &&& (2147483647 : Int32))), .val (.int ((1 : Int32) + (p2 &&& (1073741823 : Int32)))), .val (.double (FP.i2d p0)), .second, .val (.double (own_lf ((1 : Int32) + (p2 &&& (1073741823 : Int32))))), .second, .unset, .unset, .unset, .unset, .unset, .unset, .unset, .unset, .unset, .unset, .unset, .unset, .unset, .unset] [])) _
    refine XS.dload X0.here hx rfl (hb hby at_26) rfl ?_
    show Steps p.tables e below (s₁.setTop (mkF m 28 #[.val (.int p0), .val (.int p1), .val (.int p2), .val (.int (p1 &&& (2147483647 : Int32))), .val (.int ((1 : Int32) + (p2 &&& (1073741823 : Int32)))), .val (.double (FP.i2d p0)), .second, .val (.double (own_lf ((1 : Int32) + (p2 &&& (1073741823 : Int32))))), .second, .unset, .unset, .unset, .unset, .unset, .unset, .unset, .unset, .unset, .unset, .unset, .unset, .unset, .unset] [(.double (FP.i2d p0))])) _
    refine XS.iloadN X0.here hx rfl (hb hby at_28) rfl ?_
    show Steps p.tables e below (s₁.setTop (mkF m 29 #[.val (.int p0), .val (.int p1), .val (.int p2), .val (.int (p1 &&& (2147483647 : Int32))), .val (.int ((1 : Int32) + (p2 &&& (1073741823 : Int32)))), .val (.double (FP.i2d p0)), .second, .val (.double (own_lf ((1 : Int32) + (p2 &&& (1073741823 : Int32))))), .second, .unset, .unset, .unset, .unset, .unset, .unset, .unset, .unset, .unset, .unset, .unset, .unset, .unset, .unset] [(.int (p1 &&& (2147483647 : Int32))), (.double (FP.i2d p0))])) _
    refine XS.dload X0.here hx rfl (hb hby at_29) rfl ?_
    exact k
  obtain ⟨_, _, ⟨T_1, L_1, k_1, n_1⟩, -, X_1, ⟨Lc_1, hQ_1, l_1, y_1, z_1⟩, st_1⟩ := Jvm.LawKit.callS X0 hx (y := (⟨"com/example/mudskipper/mudskipper/search/Bm25", "score", "(DID)D"⟩ : MethodName)) hown (mvT hZ (hw _ (List.mem_of_getElem? (i := 3) rfl))) (mvT hZ (hw _ (List.mem_of_getElem? (i := 4) rfl))) (mvT hZ (hw _ (List.mem_of_getElem? (i := 5) rfl))) (mvT hZ (hw _ (List.mem_of_getElem? (i := 6) rfl))) (by decide) (backOf (W := 0) (rm1 l Z av0 hw [] (FP.i2d p0) (p1 &&& (2147483647 : Int32)) (own_lf ((1 : Int32) + (p2 &&& (1073741823 : Int32))))  h0 n0 Z0 (Jvm.Free.Fl.val64_no.mpr (fP).nn) (Jvm.Free.Fl.val64_no.mpr (fM).nn) (Jvm.Free.Fl.val64_no.mpr (fS).nn) (Jvm.Free.Fl.val64_no.mpr (fQ).nn)) hZ (hw _ (List.mem_of_getElem? (i := 6) rfl)) (hw _ (List.mem_of_getElem? (i := 5) rfl)) (by decide) (by decide)) (g := (mkF m 31 #[.val (.int p0), .val (.int p1), .val (.int p2), .val (.int (p1 &&& (2147483647 : Int32))), .val (.int ((1 : Int32) + (p2 &&& (1073741823 : Int32)))), .val (.double (FP.i2d p0)), .second, .val (.double (own_lf ((1 : Int32) + (p2 &&& (1073741823 : Int32))))), .second, .unset, .unset, .unset, .unset, .unset, .unset, .unset, .unset, .unset, .unset, .unset, .unset, .unset, .unset] [(.double (own_lf ((1 : Int32) + (p2 &&& (1073741823 : Int32))))), (.int (p1 &&& (2147483647 : Int32))), (.double (FP.i2d p0))])) rfl (by rw [hml]; rfl) (argsL := [(.double (FP.i2d p0)), (.int (p1 &&& (2147483647 : Int32))), (.double (own_lf ((1 : Int32) + (p2 &&& (1073741823 : Int32)))))]) (rest := []) (lenOf pd_0 rfl) rfl (by show 2 * 0 + _ ≤ _; exact Nat.le_of_eq rfl) (hb hby at_31) (fun _ _ => ⟨rfl, e0, (by decide : 0 + 0 ≤ _), (by decide : 0 + 0 ≤ _)⟩)
  dsimp only [Pt.U, Pt.locs, Pt.cells, Pt.slots] at X_1 l_1 y_1 z_1 st_1 hQ_1
  subst l_1 y_1 z_1
  obtain ⟨rfl, N_1q, e_1⟩ := hQ_1
  have N_1 := Fr.app N0 N_1q
  refine own_go (B := T_1.setTop (mkF m 34 #[.val (.int p0), .val (.int p1), .val (.int p2), .val (.int (p1 &&& (2147483647 : Int32))), .val (.int ((1 : Int32) + (p2 &&& (1073741823 : Int32)))), .val (.double (FP.i2d p0)), .second, .val (.double (own_lf ((1 : Int32) + (p2 &&& (1073741823 : Int32))))), .second, .unset, .unset, .unset, .unset, .unset, .unset, .unset, .unset, .unset, .unset, .unset, .unset, .unset, .unset] [(.double (own_Q p0 (p1 &&& (2147483647 : Int32)) ((1 : Int32) + (p2 &&& (1073741823 : Int32)))))])) (fun t k => st_1 t k) ?_
  refine own_go (B := T_1.setTop (mkF m 82 #[.val (.int p0), .val (.int p1), .val (.int p2), .val (.int (p1 &&& (2147483647 : Int32))), .val (.int ((1 : Int32) + (p2 &&& (1073741823 : Int32)))), .val (.double (FP.i2d p0)), .second, .val (.double (own_lf ((1 : Int32) + (p2 &&& (1073741823 : Int32))))), .second, .val (.double (own_Q p0 (p1 &&& (2147483647 : Int32)) ((1 : Int32) + (p2 &&& (1073741823 : Int32))))), .second, .val (.long (((10 : Int64) * ((p1 &&& (2147483647 : Int32)).toInt64)) + ((3 : Int64) * (((1 : Int32) + (p2 &&& (1073741823 : Int32))).toInt64)))), .second, .val (.double (own_L p0 (p1 &&& (2147483647 : Int32)) ((1 : Int32) + (p2 &&& (1073741823 : Int32))) (((10 : Int64) * ((p1 &&& (2147483647 : Int32)).toInt64)) + ((3 : Int64) * (((1 : Int32) + (p2 &&& (1073741823 : Int32))).toInt64))))), .second, .val (.double (own_R p0 (p1 &&& (2147483647 : Int32)))), .second, .val (.double (own_df p0 (p1 &&& (2147483647 : Int32)) ((1 : Int32) + (p2 &&& (1073741823 : Int32))) (((10 : Int64) * ((p1 &&& (2147483647 : Int32)).toInt64)) + ((3 : Int64) * (((1 : Int32) + (p2 &&& (1073741823 : Int32))).toInt64))))), .second, .unset, .unset, .unset, .unset] [(.int (cmpValue (FP.dcmp (own_R p0 (p1 &&& (2147483647 : Int32))) 0) .g))])) (fun t k => ?_) ?_
  · show Steps p.tables e below (T_1.setTop (mkF m 34 #[.val (.int p0), .val (.int p1), .val (.int p2), .val (.int (p1 &&& (2147483647 : Int32))), .val (.int ((1 : Int32) + (p2 &&& (1073741823 : Int32)))), .val (.double (FP.i2d p0)), .second, .val (.double (own_lf ((1 : Int32) + (p2 &&& (1073741823 : Int32))))), .second, .unset, .unset, .unset, .unset, .unset, .unset, .unset, .unset, .unset, .unset, .unset, .unset, .unset, .unset] [(.double (own_Q p0 (p1 &&& (2147483647 : Int32)) ((1 : Int32) + (p2 &&& (1073741823 : Int32)))))])) _
    refine XS.dstore X_1.here hx rfl (hb hby at_34) rfl (l' := #[.val (.int p0), .val (.int p1), .val (.int p2), .val (.int (p1 &&& (2147483647 : Int32))), .val (.int ((1 : Int32) + (p2 &&& (1073741823 : Int32)))), .val (.double (FP.i2d p0)), .second, .val (.double (own_lf ((1 : Int32) + (p2 &&& (1073741823 : Int32))))), .second, .val (.double (own_Q p0 (p1 &&& (2147483647 : Int32)) ((1 : Int32) + (p2 &&& (1073741823 : Int32))))), .second, .unset, .unset, .unset, .unset, .unset, .unset, .unset, .unset, .unset, .unset, .unset, .unset]) rfl ?_
    show Steps p.tables e below (T_1.setTop (mkF m 36 #[.val (.int p0), .val (.int p1), .val (.int p2), .val (.int (p1 &&& (2147483647 : Int32))), .val (.int ((1 : Int32) + (p2 &&& (1073741823 : Int32)))), .val (.double (FP.i2d p0)), .second, .val (.double (own_lf ((1 : Int32) + (p2 &&& (1073741823 : Int32))))), .second, .val (.double (own_Q p0 (p1 &&& (2147483647 : Int32)) ((1 : Int32) + (p2 &&& (1073741823 : Int32))))), .second, .unset, .unset, .unset, .unset, .unset, .unset, .unset, .unset, .unset, .unset, .unset, .unset] [])) _
    refine X_1.ldc2Long hx hown (mvT hZ (hw _ (List.mem_of_getElem? (i := 8) rfl))) (g := (mkF m 36 #[.val (.int p0), .val (.int p1), .val (.int p2), .val (.int (p1 &&& (2147483647 : Int32))), .val (.int ((1 : Int32) + (p2 &&& (1073741823 : Int32)))), .val (.double (FP.i2d p0)), .second, .val (.double (own_lf ((1 : Int32) + (p2 &&& (1073741823 : Int32))))), .second, .val (.double (own_Q p0 (p1 &&& (2147483647 : Int32)) ((1 : Int32) + (p2 &&& (1073741823 : Int32))))), .second, .unset, .unset, .unset, .unset, .unset, .unset, .unset, .unset, .unset, .unset, .unset, .unset] [])) rfl (hb hby at_36) _ ?_
    show Steps p.tables e below (T_1.setTop (mkF m 39 #[.val (.int p0), .val (.int p1), .val (.int p2), .val (.int (p1 &&& (2147483647 : Int32))), .val (.int ((1 : Int32) + (p2 &&& (1073741823 : Int32)))), .val (.double (FP.i2d p0)), .second, .val (.double (own_lf ((1 : Int32) + (p2 &&& (1073741823 : Int32))))), .second, .val (.double (own_Q p0 (p1 &&& (2147483647 : Int32)) ((1 : Int32) + (p2 &&& (1073741823 : Int32))))), .second, .unset, .unset, .unset, .unset, .unset, .unset, .unset, .unset, .unset, .unset, .unset, .unset] [(.long (10 : Int64))])) _
    refine XS.iloadN X_1.here hx rfl (hb hby at_39) rfl ?_
    show Steps p.tables e below (T_1.setTop (mkF m 40 #[.val (.int p0), .val (.int p1), .val (.int p2), .val (.int (p1 &&& (2147483647 : Int32))), .val (.int ((1 : Int32) + (p2 &&& (1073741823 : Int32)))), .val (.double (FP.i2d p0)), .second, .val (.double (own_lf ((1 : Int32) + (p2 &&& (1073741823 : Int32))))), .second, .val (.double (own_Q p0 (p1 &&& (2147483647 : Int32)) ((1 : Int32) + (p2 &&& (1073741823 : Int32))))), .second, .unset, .unset, .unset, .unset, .unset, .unset, .unset, .unset, .unset, .unset, .unset, .unset] [(.int (p1 &&& (2147483647 : Int32))), (.long (10 : Int64))])) _
    refine XS.i2l X_1.here hx rfl (hb hby at_40) rfl ?_
    show Steps p.tables e below (T_1.setTop (mkF m 41 #[.val (.int p0), .val (.int p1), .val (.int p2), .val (.int (p1 &&& (2147483647 : Int32))), .val (.int ((1 : Int32) + (p2 &&& (1073741823 : Int32)))), .val (.double (FP.i2d p0)), .second, .val (.double (own_lf ((1 : Int32) + (p2 &&& (1073741823 : Int32))))), .second, .val (.double (own_Q p0 (p1 &&& (2147483647 : Int32)) ((1 : Int32) + (p2 &&& (1073741823 : Int32))))), .second, .unset, .unset, .unset, .unset, .unset, .unset, .unset, .unset, .unset, .unset, .unset, .unset] [(.long ((p1 &&& (2147483647 : Int32)).toInt64)), (.long (10 : Int64))])) _
    refine XS.lmul X_1.here hx rfl (hb hby at_41) rfl ?_
    show Steps p.tables e below (T_1.setTop (mkF m 42 #[.val (.int p0), .val (.int p1), .val (.int p2), .val (.int (p1 &&& (2147483647 : Int32))), .val (.int ((1 : Int32) + (p2 &&& (1073741823 : Int32)))), .val (.double (FP.i2d p0)), .second, .val (.double (own_lf ((1 : Int32) + (p2 &&& (1073741823 : Int32))))), .second, .val (.double (own_Q p0 (p1 &&& (2147483647 : Int32)) ((1 : Int32) + (p2 &&& (1073741823 : Int32))))), .second, .unset, .unset, .unset, .unset, .unset, .unset, .unset, .unset, .unset, .unset, .unset, .unset] [(.long ((10 : Int64) * ((p1 &&& (2147483647 : Int32)).toInt64)))])) _
    refine X_1.ldc2Long hx hown (mvT hZ (hw _ (List.mem_of_getElem? (i := 9) rfl))) (g := (mkF m 42 #[.val (.int p0), .val (.int p1), .val (.int p2), .val (.int (p1 &&& (2147483647 : Int32))), .val (.int ((1 : Int32) + (p2 &&& (1073741823 : Int32)))), .val (.double (FP.i2d p0)), .second, .val (.double (own_lf ((1 : Int32) + (p2 &&& (1073741823 : Int32))))), .second, .val (.double (own_Q p0 (p1 &&& (2147483647 : Int32)) ((1 : Int32) + (p2 &&& (1073741823 : Int32))))), .second, .unset, .unset, .unset, .unset, .unset, .unset, .unset, .unset, .unset, .unset, .unset, .unset] [(.long ((10 : Int64) * ((p1 &&& (2147483647 : Int32)).toInt64)))])) rfl (hb hby at_42) _ ?_
    show Steps p.tables e below (T_1.setTop (mkF m 45 #[.val (.int p0), .val (.int p1), .val (.int p2), .val (.int (p1 &&& (2147483647 : Int32))), .val (.int ((1 : Int32) + (p2 &&& (1073741823 : Int32)))), .val (.double (FP.i2d p0)), .second, .val (.double (own_lf ((1 : Int32) + (p2 &&& (1073741823 : Int32))))), .second, .val (.double (own_Q p0 (p1 &&& (2147483647 : Int32)) ((1 : Int32) + (p2 &&& (1073741823 : Int32))))), .second, .unset, .unset, .unset, .unset, .unset, .unset, .unset, .unset, .unset, .unset, .unset, .unset] [(.long (3 : Int64)), (.long ((10 : Int64) * ((p1 &&& (2147483647 : Int32)).toInt64)))])) _
    refine XS.iload X_1.here hx rfl (hb hby at_45) rfl ?_
    show Steps p.tables e below (T_1.setTop (mkF m 47 #[.val (.int p0), .val (.int p1), .val (.int p2), .val (.int (p1 &&& (2147483647 : Int32))), .val (.int ((1 : Int32) + (p2 &&& (1073741823 : Int32)))), .val (.double (FP.i2d p0)), .second, .val (.double (own_lf ((1 : Int32) + (p2 &&& (1073741823 : Int32))))), .second, .val (.double (own_Q p0 (p1 &&& (2147483647 : Int32)) ((1 : Int32) + (p2 &&& (1073741823 : Int32))))), .second, .unset, .unset, .unset, .unset, .unset, .unset, .unset, .unset, .unset, .unset, .unset, .unset] [(.int ((1 : Int32) + (p2 &&& (1073741823 : Int32)))), (.long (3 : Int64)), (.long ((10 : Int64) * ((p1 &&& (2147483647 : Int32)).toInt64)))])) _
    refine XS.i2l X_1.here hx rfl (hb hby at_47) rfl ?_
    show Steps p.tables e below (T_1.setTop (mkF m 48 #[.val (.int p0), .val (.int p1), .val (.int p2), .val (.int (p1 &&& (2147483647 : Int32))), .val (.int ((1 : Int32) + (p2 &&& (1073741823 : Int32)))), .val (.double (FP.i2d p0)), .second, .val (.double (own_lf ((1 : Int32) + (p2 &&& (1073741823 : Int32))))), .second, .val (.double (own_Q p0 (p1 &&& (2147483647 : Int32)) ((1 : Int32) + (p2 &&& (1073741823 : Int32))))), .second, .unset, .unset, .unset, .unset, .unset, .unset, .unset, .unset, .unset, .unset, .unset, .unset] [(.long (((1 : Int32) + (p2 &&& (1073741823 : Int32))).toInt64)), (.long (3 : Int64)), (.long ((10 : Int64) * ((p1 &&& (2147483647 : Int32)).toInt64)))])) _
    refine XS.lmul X_1.here hx rfl (hb hby at_48) rfl ?_
    show Steps p.tables e below (T_1.setTop (mkF m 49 #[.val (.int p0), .val (.int p1), .val (.int p2), .val (.int (p1 &&& (2147483647 : Int32))), .val (.int ((1 : Int32) + (p2 &&& (1073741823 : Int32)))), .val (.double (FP.i2d p0)), .second, .val (.double (own_lf ((1 : Int32) + (p2 &&& (1073741823 : Int32))))), .second, .val (.double (own_Q p0 (p1 &&& (2147483647 : Int32)) ((1 : Int32) + (p2 &&& (1073741823 : Int32))))), .second, .unset, .unset, .unset, .unset, .unset, .unset, .unset, .unset, .unset, .unset, .unset, .unset] [(.long ((3 : Int64) * (((1 : Int32) + (p2 &&& (1073741823 : Int32))).toInt64))), (.long ((10 : Int64) * ((p1 &&& (2147483647 : Int32)).toInt64)))])) _
    refine XS.ladd X_1.here hx rfl (hb hby at_49) rfl ?_
    show Steps p.tables e below (T_1.setTop (mkF m 50 #[.val (.int p0), .val (.int p1), .val (.int p2), .val (.int (p1 &&& (2147483647 : Int32))), .val (.int ((1 : Int32) + (p2 &&& (1073741823 : Int32)))), .val (.double (FP.i2d p0)), .second, .val (.double (own_lf ((1 : Int32) + (p2 &&& (1073741823 : Int32))))), .second, .val (.double (own_Q p0 (p1 &&& (2147483647 : Int32)) ((1 : Int32) + (p2 &&& (1073741823 : Int32))))), .second, .unset, .unset, .unset, .unset, .unset, .unset, .unset, .unset, .unset, .unset, .unset, .unset] [(.long (((10 : Int64) * ((p1 &&& (2147483647 : Int32)).toInt64)) + ((3 : Int64) * (((1 : Int32) + (p2 &&& (1073741823 : Int32))).toInt64))))])) _
    refine XS.lstore X_1.here hx rfl (hb hby at_50) rfl (l' := #[.val (.int p0), .val (.int p1), .val (.int p2), .val (.int (p1 &&& (2147483647 : Int32))), .val (.int ((1 : Int32) + (p2 &&& (1073741823 : Int32)))), .val (.double (FP.i2d p0)), .second, .val (.double (own_lf ((1 : Int32) + (p2 &&& (1073741823 : Int32))))), .second, .val (.double (own_Q p0 (p1 &&& (2147483647 : Int32)) ((1 : Int32) + (p2 &&& (1073741823 : Int32))))), .second, .val (.long (((10 : Int64) * ((p1 &&& (2147483647 : Int32)).toInt64)) + ((3 : Int64) * (((1 : Int32) + (p2 &&& (1073741823 : Int32))).toInt64)))), .second, .unset, .unset, .unset, .unset, .unset, .unset, .unset, .unset, .unset, .unset]) rfl ?_
    show Steps p.tables e below (T_1.setTop (mkF m 52 #[.val (.int p0), .val (.int p1), .val (.int p2), .val (.int (p1 &&& (2147483647 : Int32))), .val (.int ((1 : Int32) + (p2 &&& (1073741823 : Int32)))), .val (.double (FP.i2d p0)), .second, .val (.double (own_lf ((1 : Int32) + (p2 &&& (1073741823 : Int32))))), .second, .val (.double (own_Q p0 (p1 &&& (2147483647 : Int32)) ((1 : Int32) + (p2 &&& (1073741823 : Int32))))), .second, .val (.long (((10 : Int64) * ((p1 &&& (2147483647 : Int32)).toInt64)) + ((3 : Int64) * (((1 : Int32) + (p2 &&& (1073741823 : Int32))).toInt64)))), .second, .unset, .unset, .unset, .unset, .unset, .unset, .unset, .unset, .unset, .unset] [])) _
    refine XS.dload X_1.here hx rfl (hb hby at_52) rfl ?_
    show Steps p.tables e below (T_1.setTop (mkF m 54 #[.val (.int p0), .val (.int p1), .val (.int p2), .val (.int (p1 &&& (2147483647 : Int32))), .val (.int ((1 : Int32) + (p2 &&& (1073741823 : Int32)))), .val (.double (FP.i2d p0)), .second, .val (.double (own_lf ((1 : Int32) + (p2 &&& (1073741823 : Int32))))), .second, .val (.double (own_Q p0 (p1 &&& (2147483647 : Int32)) ((1 : Int32) + (p2 &&& (1073741823 : Int32))))), .second, .val (.long (((10 : Int64) * ((p1 &&& (2147483647 : Int32)).toInt64)) + ((3 : Int64) * (((1 : Int32) + (p2 &&& (1073741823 : Int32))).toInt64)))), .second, .unset, .unset, .unset, .unset, .unset, .unset, .unset, .unset, .unset, .unset] [(.double (own_Q p0 (p1 &&& (2147483647 : Int32)) ((1 : Int32) + (p2 &&& (1073741823 : Int32)))))])) _
    refine XS.lload X_1.here hx rfl (hb hby at_54) rfl ?_
    show Steps p.tables e below (T_1.setTop (mkF m 56 #[.val (.int p0), .val (.int p1), .val (.int p2), .val (.int (p1 &&& (2147483647 : Int32))), .val (.int ((1 : Int32) + (p2 &&& (1073741823 : Int32)))), .val (.double (FP.i2d p0)), .second, .val (.double (own_lf ((1 : Int32) + (p2 &&& (1073741823 : Int32))))), .second, .val (.double (own_Q p0 (p1 &&& (2147483647 : Int32)) ((1 : Int32) + (p2 &&& (1073741823 : Int32))))), .second, .val (.long (((10 : Int64) * ((p1 &&& (2147483647 : Int32)).toInt64)) + ((3 : Int64) * (((1 : Int32) + (p2 &&& (1073741823 : Int32))).toInt64)))), .second, .unset, .unset, .unset, .unset, .unset, .unset, .unset, .unset, .unset, .unset] [(.long (((10 : Int64) * ((p1 &&& (2147483647 : Int32)).toInt64)) + ((3 : Int64) * (((1 : Int32) + (p2 &&& (1073741823 : Int32))).toInt64)))), (.double (own_Q p0 (p1 &&& (2147483647 : Int32)) ((1 : Int32) + (p2 &&& (1073741823 : Int32)))))])) _
    refine XS.l2dS X_1.here hx rfl (hb hby at_56) rfl rfl ?_
    show Steps p.tables e below (T_1.setTop (mkF m 57 #[.val (.int p0), .val (.int p1), .val (.int p2), .val (.int (p1 &&& (2147483647 : Int32))), .val (.int ((1 : Int32) + (p2 &&& (1073741823 : Int32)))), .val (.double (FP.i2d p0)), .second, .val (.double (own_lf ((1 : Int32) + (p2 &&& (1073741823 : Int32))))), .second, .val (.double (own_Q p0 (p1 &&& (2147483647 : Int32)) ((1 : Int32) + (p2 &&& (1073741823 : Int32))))), .second, .val (.long (((10 : Int64) * ((p1 &&& (2147483647 : Int32)).toInt64)) + ((3 : Int64) * (((1 : Int32) + (p2 &&& (1073741823 : Int32))).toInt64)))), .second, .unset, .unset, .unset, .unset, .unset, .unset, .unset, .unset, .unset, .unset] [(.double (FP.l2d (((10 : Int64) * ((p1 &&& (2147483647 : Int32)).toInt64)) + ((3 : Int64) * (((1 : Int32) + (p2 &&& (1073741823 : Int32))).toInt64))))), (.double (own_Q p0 (p1 &&& (2147483647 : Int32)) ((1 : Int32) + (p2 &&& (1073741823 : Int32)))))])) _
    refine XS.dmulS X_1.here hx rfl (hb hby at_57) rfl (Jvm.Free.Fl.val64_no.mpr (fL).nn) rfl ?_
    show Steps p.tables e below (T_1.setTop (mkF m 58 #[.val (.int p0), .val (.int p1), .val (.int p2), .val (.int (p1 &&& (2147483647 : Int32))), .val (.int ((1 : Int32) + (p2 &&& (1073741823 : Int32)))), .val (.double (FP.i2d p0)), .second, .val (.double (own_lf ((1 : Int32) + (p2 &&& (1073741823 : Int32))))), .second, .val (.double (own_Q p0 (p1 &&& (2147483647 : Int32)) ((1 : Int32) + (p2 &&& (1073741823 : Int32))))), .second, .val (.long (((10 : Int64) * ((p1 &&& (2147483647 : Int32)).toInt64)) + ((3 : Int64) * (((1 : Int32) + (p2 &&& (1073741823 : Int32))).toInt64)))), .second, .unset, .unset, .unset, .unset, .unset, .unset, .unset, .unset, .unset, .unset] [(.double (own_L p0 (p1 &&& (2147483647 : Int32)) ((1 : Int32) + (p2 &&& (1073741823 : Int32))) (((10 : Int64) * ((p1 &&& (2147483647 : Int32)).toInt64)) + ((3 : Int64) * (((1 : Int32) + (p2 &&& (1073741823 : Int32))).toInt64)))))])) _
    refine XS.dstore X_1.here hx rfl (hb hby at_58) rfl (l' := #[.val (.int p0), .val (.int p1), .val (.int p2), .val (.int (p1 &&& (2147483647 : Int32))), .val (.int ((1 : Int32) + (p2 &&& (1073741823 : Int32)))), .val (.double (FP.i2d p0)), .second, .val (.double (own_lf ((1 : Int32) + (p2 &&& (1073741823 : Int32))))), .second, .val (.double (own_Q p0 (p1 &&& (2147483647 : Int32)) ((1 : Int32) + (p2 &&& (1073741823 : Int32))))), .second, .val (.long (((10 : Int64) * ((p1 &&& (2147483647 : Int32)).toInt64)) + ((3 : Int64) * (((1 : Int32) + (p2 &&& (1073741823 : Int32))).toInt64)))), .second, .val (.double (own_L p0 (p1 &&& (2147483647 : Int32)) ((1 : Int32) + (p2 &&& (1073741823 : Int32))) (((10 : Int64) * ((p1 &&& (2147483647 : Int32)).toInt64)) + ((3 : Int64) * (((1 : Int32) + (p2 &&& (1073741823 : Int32))).toInt64))))), .second, .unset, .unset, .unset, .unset, .unset, .unset, .unset, .unset]) rfl ?_
    show Steps p.tables e below (T_1.setTop (mkF m 60 #[.val (.int p0), .val (.int p1), .val (.int p2), .val (.int (p1 &&& (2147483647 : Int32))), .val (.int ((1 : Int32) + (p2 &&& (1073741823 : Int32)))), .val (.double (FP.i2d p0)), .second, .val (.double (own_lf ((1 : Int32) + (p2 &&& (1073741823 : Int32))))), .second, .val (.double (own_Q p0 (p1 &&& (2147483647 : Int32)) ((1 : Int32) + (p2 &&& (1073741823 : Int32))))), .second, .val (.long (((10 : Int64) * ((p1 &&& (2147483647 : Int32)).toInt64)) + ((3 : Int64) * (((1 : Int32) + (p2 &&& (1073741823 : Int32))).toInt64)))), .second, .val (.double (own_L p0 (p1 &&& (2147483647 : Int32)) ((1 : Int32) + (p2 &&& (1073741823 : Int32))) (((10 : Int64) * ((p1 &&& (2147483647 : Int32)).toInt64)) + ((3 : Int64) * (((1 : Int32) + (p2 &&& (1073741823 : Int32))).toInt64))))), .second, .unset, .unset, .unset, .unset, .unset, .unset, .unset, .unset] [])) _
    refine X_1.ldc2DoubleC hx hown (mvT hZ (hw _ (List.mem_of_getElem? (i := 10) rfl))) (g := (mkF m 60 #[.val (.int p0), .val (.int p1), .val (.int p2), .val (.int (p1 &&& (2147483647 : Int32))), .val (.int ((1 : Int32) + (p2 &&& (1073741823 : Int32)))), .val (.double (FP.i2d p0)), .second, .val (.double (own_lf ((1 : Int32) + (p2 &&& (1073741823 : Int32))))), .second, .val (.double (own_Q p0 (p1 &&& (2147483647 : Int32)) ((1 : Int32) + (p2 &&& (1073741823 : Int32))))), .second, .val (.long (((10 : Int64) * ((p1 &&& (2147483647 : Int32)).toInt64)) + ((3 : Int64) * (((1 : Int32) + (p2 &&& (1073741823 : Int32))).toInt64)))), .second, .val (.double (own_L p0 (p1 &&& (2147483647 : Int32)) ((1 : Int32) + (p2 &&& (1073741823 : Int32))) (((10 : Int64) * ((p1 &&& (2147483647 : Int32)).toInt64)) + ((3 : Int64) * (((1 : Int32) + (p2 &&& (1073741823 : Int32))).toInt64))))), .second, .unset, .unset, .unset, .unset, .unset, .unset, .unset, .unset] [])) rfl (hb hby at_60) _ ?_
    show Steps p.tables e below (T_1.setTop (mkF m 63 #[.val (.int p0), .val (.int p1), .val (.int p2), .val (.int (p1 &&& (2147483647 : Int32))), .val (.int ((1 : Int32) + (p2 &&& (1073741823 : Int32)))), .val (.double (FP.i2d p0)), .second, .val (.double (own_lf ((1 : Int32) + (p2 &&& (1073741823 : Int32))))), .second, .val (.double (own_Q p0 (p1 &&& (2147483647 : Int32)) ((1 : Int32) + (p2 &&& (1073741823 : Int32))))), .second, .val (.long (((10 : Int64) * ((p1 &&& (2147483647 : Int32)).toInt64)) + ((3 : Int64) * (((1 : Int32) + (p2 &&& (1073741823 : Int32))).toInt64)))), .second, .val (.double (own_L p0 (p1 &&& (2147483647 : Int32)) ((1 : Int32) + (p2 &&& (1073741823 : Int32))) (((10 : Int64) * ((p1 &&& (2147483647 : Int32)).toInt64)) + ((3 : Int64) * (((1 : Int32) + (p2 &&& (1073741823 : Int32))).toInt64))))), .second, .unset, .unset, .unset, .unset, .unset, .unset, .unset, .unset] [(.double 4621819117588971520)])) _
    refine XS.dload X_1.here hx rfl (hb hby at_63) rfl ?_
    show Steps p.tables e below (T_1.setTop (mkF m 65 #[.val (.int p0), .val (.int p1), .val (.int p2), .val (.int (p1 &&& (2147483647 : Int32))), .val (.int ((1 : Int32) + (p2 &&& (1073741823 : Int32)))), .val (.double (FP.i2d p0)), .second, .val (.double (own_lf ((1 : Int32) + (p2 &&& (1073741823 : Int32))))), .second, .val (.double (own_Q p0 (p1 &&& (2147483647 : Int32)) ((1 : Int32) + (p2 &&& (1073741823 : Int32))))), .second, .val (.long (((10 : Int64) * ((p1 &&& (2147483647 : Int32)).toInt64)) + ((3 : Int64) * (((1 : Int32) + (p2 &&& (1073741823 : Int32))).toInt64)))), .second, .val (.double (own_L p0 (p1 &&& (2147483647 : Int32)) ((1 : Int32) + (p2 &&& (1073741823 : Int32))) (((10 : Int64) * ((p1 &&& (2147483647 : Int32)).toInt64)) + ((3 : Int64) * (((1 : Int32) + (p2 &&& (1073741823 : Int32))).toInt64))))), .second, .unset, .unset, .unset, .unset, .unset, .unset, .unset, .unset] [(.double (FP.i2d p0)), (.double 4621819117588971520)])) _
    refine XS.dmulS X_1.here hx rfl (hb hby at_65) rfl (Jvm.Free.Fl.val64_no.mpr (fR0).nn) rfl ?_
    show Steps p.tables e below (T_1.setTop (mkF m 66 #[.val (.int p0), .val (.int p1), .val (.int p2), .val (.int (p1 &&& (2147483647 : Int32))), .val (.int ((1 : Int32) + (p2 &&& (1073741823 : Int32)))), .val (.double (FP.i2d p0)), .second, .val (.double (own_lf ((1 : Int32) + (p2 &&& (1073741823 : Int32))))), .second, .val (.double (own_Q p0 (p1 &&& (2147483647 : Int32)) ((1 : Int32) + (p2 &&& (1073741823 : Int32))))), .second, .val (.long (((10 : Int64) * ((p1 &&& (2147483647 : Int32)).toInt64)) + ((3 : Int64) * (((1 : Int32) + (p2 &&& (1073741823 : Int32))).toInt64)))), .second, .val (.double (own_L p0 (p1 &&& (2147483647 : Int32)) ((1 : Int32) + (p2 &&& (1073741823 : Int32))) (((10 : Int64) * ((p1 &&& (2147483647 : Int32)).toInt64)) + ((3 : Int64) * (((1 : Int32) + (p2 &&& (1073741823 : Int32))).toInt64))))), .second, .unset, .unset, .unset, .unset, .unset, .unset, .unset, .unset] [(.double (own_R0 p0))])) _
    refine XS.iloadN X_1.here hx rfl (hb hby at_66) rfl ?_
    show Steps p.tables e below (T_1.setTop (mkF m 67 #[.val (.int p0), .val (.int p1), .val (.int p2), .val (.int (p1 &&& (2147483647 : Int32))), .val (.int ((1 : Int32) + (p2 &&& (1073741823 : Int32)))), .val (.double (FP.i2d p0)), .second, .val (.double (own_lf ((1 : Int32) + (p2 &&& (1073741823 : Int32))))), .second, .val (.double (own_Q p0 (p1 &&& (2147483647 : Int32)) ((1 : Int32) + (p2 &&& (1073741823 : Int32))))), .second, .val (.long (((10 : Int64) * ((p1 &&& (2147483647 : Int32)).toInt64)) + ((3 : Int64) * (((1 : Int32) + (p2 &&& (1073741823 : Int32))).toInt64)))), .second, .val (.double (own_L p0 (p1 &&& (2147483647 : Int32)) ((1 : Int32) + (p2 &&& (1073741823 : Int32))) (((10 : Int64) * ((p1 &&& (2147483647 : Int32)).toInt64)) + ((3 : Int64) * (((1 : Int32) + (p2 &&& (1073741823 : Int32))).toInt64))))), .second, .unset, .unset, .unset, .unset, .unset, .unset, .unset, .unset] [(.int (p1 &&& (2147483647 : Int32))), (.double (own_R0 p0))])) _
    refine XS.i2dS X_1.here hx rfl (hb hby at_67) rfl rfl ?_
    show Steps p.tables e below (T_1.setTop (mkF m 68 #[.val (.int p0), .val (.int p1), .val (.int p2), .val (.int (p1 &&& (2147483647 : Int32))), .val (.int ((1 : Int32) + (p2 &&& (1073741823 : Int32)))), .val (.double (FP.i2d p0)), .second, .val (.double (own_lf ((1 : Int32) + (p2 &&& (1073741823 : Int32))))), .second, .val (.double (own_Q p0 (p1 &&& (2147483647 : Int32)) ((1 : Int32) + (p2 &&& (1073741823 : Int32))))), .second, .val (.long (((10 : Int64) * ((p1 &&& (2147483647 : Int32)).toInt64)) + ((3 : Int64) * (((1 : Int32) + (p2 &&& (1073741823 : Int32))).toInt64)))), .second, .val (.double (own_L p0 (p1 &&& (2147483647 : Int32)) ((1 : Int32) + (p2 &&& (1073741823 : Int32))) (((10 : Int64) * ((p1 &&& (2147483647 : Int32)).toInt64)) + ((3 : Int64) * (((1 : Int32) + (p2 &&& (1073741823 : Int32))).toInt64))))), .second, .unset, .unset, .unset, .unset, .unset, .unset, .unset, .unset] [(.double (FP.i2d (p1 &&& (2147483647 : Int32)))), (.double (own_R0 p0))])) _
    refine XS.dmulS X_1.here hx rfl (hb hby at_68) rfl (Jvm.Free.Fl.val64_no.mpr (fR).nn) rfl ?_
    show Steps p.tables e below (T_1.setTop (mkF m 69 #[.val (.int p0), .val (.int p1), .val (.int p2), .val (.int (p1 &&& (2147483647 : Int32))), .val (.int ((1 : Int32) + (p2 &&& (1073741823 : Int32)))), .val (.double (FP.i2d p0)), .second, .val (.double (own_lf ((1 : Int32) + (p2 &&& (1073741823 : Int32))))), .second, .val (.double (own_Q p0 (p1 &&& (2147483647 : Int32)) ((1 : Int32) + (p2 &&& (1073741823 : Int32))))), .second, .val (.long (((10 : Int64) * ((p1 &&& (2147483647 : Int32)).toInt64)) + ((3 : Int64) * (((1 : Int32) + (p2 &&& (1073741823 : Int32))).toInt64)))), .second, .val (.double (own_L p0 (p1 &&& (2147483647 : Int32)) ((1 : Int32) + (p2 &&& (1073741823 : Int32))) (((10 : Int64) * ((p1 &&& (2147483647 : Int32)).toInt64)) + ((3 : Int64) * (((1 : Int32) + (p2 &&& (1073741823 : Int32))).toInt64))))), .second, .unset, .unset, .unset, .unset, .unset, .unset, .unset, .unset] [(.double (own_R p0 (p1 &&& (2147483647 : Int32))))])) _
    refine XS.dstore X_1.here hx rfl (hb hby at_69) rfl (l' := #[.val (.int p0), .val (.int p1), .val (.int p2), .val (.int (p1 &&& (2147483647 : Int32))), .val (.int ((1 : Int32) + (p2 &&& (1073741823 : Int32)))), .val (.double (FP.i2d p0)), .second, .val (.double (own_lf ((1 : Int32) + (p2 &&& (1073741823 : Int32))))), .second, .val (.double (own_Q p0 (p1 &&& (2147483647 : Int32)) ((1 : Int32) + (p2 &&& (1073741823 : Int32))))), .second, .val (.long (((10 : Int64) * ((p1 &&& (2147483647 : Int32)).toInt64)) + ((3 : Int64) * (((1 : Int32) + (p2 &&& (1073741823 : Int32))).toInt64)))), .second, .val (.double (own_L p0 (p1 &&& (2147483647 : Int32)) ((1 : Int32) + (p2 &&& (1073741823 : Int32))) (((10 : Int64) * ((p1 &&& (2147483647 : Int32)).toInt64)) + ((3 : Int64) * (((1 : Int32) + (p2 &&& (1073741823 : Int32))).toInt64))))), .second, .val (.double (own_R p0 (p1 &&& (2147483647 : Int32)))), .second, .unset, .unset, .unset, .unset, .unset, .unset]) rfl ?_
    show Steps p.tables e below (T_1.setTop (mkF m 71 #[.val (.int p0), .val (.int p1), .val (.int p2), .val (.int (p1 &&& (2147483647 : Int32))), .val (.int ((1 : Int32) + (p2 &&& (1073741823 : Int32)))), .val (.double (FP.i2d p0)), .second, .val (.double (own_lf ((1 : Int32) + (p2 &&& (1073741823 : Int32))))), .second, .val (.double (own_Q p0 (p1 &&& (2147483647 : Int32)) ((1 : Int32) + (p2 &&& (1073741823 : Int32))))), .second, .val (.long (((10 : Int64) * ((p1 &&& (2147483647 : Int32)).toInt64)) + ((3 : Int64) * (((1 : Int32) + (p2 &&& (1073741823 : Int32))).toInt64)))), .second, .val (.double (own_L p0 (p1 &&& (2147483647 : Int32)) ((1 : Int32) + (p2 &&& (1073741823 : Int32))) (((10 : Int64) * ((p1 &&& (2147483647 : Int32)).toInt64)) + ((3 : Int64) * (((1 : Int32) + (p2 &&& (1073741823 : Int32))).toInt64))))), .second, .val (.double (own_R p0 (p1 &&& (2147483647 : Int32)))), .second, .unset, .unset, .unset, .unset, .unset, .unset] [])) _
    refine XS.dload X_1.here hx rfl (hb hby at_71) rfl ?_
    show Steps p.tables e below (T_1.setTop (mkF m 73 #[.val (.int p0), .val (.int p1), .val (.int p2), .val (.int (p1 &&& (2147483647 : Int32))), .val (.int ((1 : Int32) + (p2 &&& (1073741823 : Int32)))), .val (.double (FP.i2d p0)), .second, .val (.double (own_lf ((1 : Int32) + (p2 &&& (1073741823 : Int32))))), .second, .val (.double (own_Q p0 (p1 &&& (2147483647 : Int32)) ((1 : Int32) + (p2 &&& (1073741823 : Int32))))), .second, .val (.long (((10 : Int64) * ((p1 &&& (2147483647 : Int32)).toInt64)) + ((3 : Int64) * (((1 : Int32) + (p2 &&& (1073741823 : Int32))).toInt64)))), .second, .val (.double (own_L p0 (p1 &&& (2147483647 : Int32)) ((1 : Int32) + (p2 &&& (1073741823 : Int32))) (((10 : Int64) * ((p1 &&& (2147483647 : Int32)).toInt64)) + ((3 : Int64) * (((1 : Int32) + (p2 &&& (1073741823 : Int32))).toInt64))))), .second, .val (.double (own_R p0 (p1 &&& (2147483647 : Int32)))), .second, .unset, .unset, .unset, .unset, .unset, .unset] [(.double (own_L p0 (p1 &&& (2147483647 : Int32)) ((1 : Int32) + (p2 &&& (1073741823 : Int32))) (((10 : Int64) * ((p1 &&& (2147483647 : Int32)).toInt64)) + ((3 : Int64) * (((1 : Int32) + (p2 &&& (1073741823 : Int32))).toInt64)))))])) _
    refine XS.dload X_1.here hx rfl (hb hby at_73) rfl ?_
    show Steps p.tables e below (T_1.setTop (mkF m 75 #[.val (.int p0), .val (.int p1), .val (.int p2), .val (.int (p1 &&& (2147483647 : Int32))), .val (.int ((1 : Int32) + (p2 &&& (1073741823 : Int32)))), .val (.double (FP.i2d p0)), .second, .val (.double (own_lf ((1 : Int32) + (p2 &&& (1073741823 : Int32))))), .second, .val (.double (own_Q p0 (p1 &&& (2147483647 : Int32)) ((1 : Int32) + (p2 &&& (1073741823 : Int32))))), .second, .val (.long (((10 : Int64) * ((p1 &&& (2147483647 : Int32)).toInt64)) + ((3 : Int64) * (((1 : Int32) + (p2 &&& (1073741823 : Int32))).toInt64)))), .second, .val (.double (own_L p0 (p1 &&& (2147483647 : Int32)) ((1 : Int32) + (p2 &&& (1073741823 : Int32))) (((10 : Int64) * ((p1 &&& (2147483647 : Int32)).toInt64)) + ((3 : Int64) * (((1 : Int32) + (p2 &&& (1073741823 : Int32))).toInt64))))), .second, .val (.double (own_R p0 (p1 &&& (2147483647 : Int32)))), .second, .unset, .unset, .unset, .unset, .unset, .unset] [(.double (own_R p0 (p1 &&& (2147483647 : Int32)))), (.double (own_L p0 (p1 &&& (2147483647 : Int32)) ((1 : Int32) + (p2 &&& (1073741823 : Int32))) (((10 : Int64) * ((p1 &&& (2147483647 : Int32)).toInt64)) + ((3 : Int64) * (((1 : Int32) + (p2 &&& (1073741823 : Int32))).toInt64)))))])) _
    refine XS.dsubS X_1.here hx rfl (hb hby at_75) rfl (Jvm.Free.Fl.val64_no.mpr nD) rfl ?_
    show Steps p.tables e below (T_1.setTop (mkF m 76 #[.val (.int p0), .val (.int p1), .val (.int p2), .val (.int (p1 &&& (2147483647 : Int32))), .val (.int ((1 : Int32) + (p2 &&& (1073741823 : Int32)))), .val (.double (FP.i2d p0)), .second, .val (.double (own_lf ((1 : Int32) + (p2 &&& (1073741823 : Int32))))), .second, .val (.double (own_Q p0 (p1 &&& (2147483647 : Int32)) ((1 : Int32) + (p2 &&& (1073741823 : Int32))))), .second, .val (.long (((10 : Int64) * ((p1 &&& (2147483647 : Int32)).toInt64)) + ((3 : Int64) * (((1 : Int32) + (p2 &&& (1073741823 : Int32))).toInt64)))), .second, .val (.double (own_L p0 (p1 &&& (2147483647 : Int32)) ((1 : Int32) + (p2 &&& (1073741823 : Int32))) (((10 : Int64) * ((p1 &&& (2147483647 : Int32)).toInt64)) + ((3 : Int64) * (((1 : Int32) + (p2 &&& (1073741823 : Int32))).toInt64))))), .second, .val (.double (own_R p0 (p1 &&& (2147483647 : Int32)))), .second, .unset, .unset, .unset, .unset, .unset, .unset] [(.double (own_df p0 (p1 &&& (2147483647 : Int32)) ((1 : Int32) + (p2 &&& (1073741823 : Int32))) (((10 : Int64) * ((p1 &&& (2147483647 : Int32)).toInt64)) + ((3 : Int64) * (((1 : Int32) + (p2 &&& (1073741823 : Int32))).toInt64)))))])) _
    refine XS.dstore X_1.here hx rfl (hb hby at_76) rfl (l' := #[.val (.int p0), .val (.int p1), .val (.int p2), .val (.int (p1 &&& (2147483647 : Int32))), .val (.int ((1 : Int32) + (p2 &&& (1073741823 : Int32)))), .val (.double (FP.i2d p0)), .second, .val (.double (own_lf ((1 : Int32) + (p2 &&& (1073741823 : Int32))))), .second, .val (.double (own_Q p0 (p1 &&& (2147483647 : Int32)) ((1 : Int32) + (p2 &&& (1073741823 : Int32))))), .second, .val (.long (((10 : Int64) * ((p1 &&& (2147483647 : Int32)).toInt64)) + ((3 : Int64) * (((1 : Int32) + (p2 &&& (1073741823 : Int32))).toInt64)))), .second, .val (.double (own_L p0 (p1 &&& (2147483647 : Int32)) ((1 : Int32) + (p2 &&& (1073741823 : Int32))) (((10 : Int64) * ((p1 &&& (2147483647 : Int32)).toInt64)) + ((3 : Int64) * (((1 : Int32) + (p2 &&& (1073741823 : Int32))).toInt64))))), .second, .val (.double (own_R p0 (p1 &&& (2147483647 : Int32)))), .second, .val (.double (own_df p0 (p1 &&& (2147483647 : Int32)) ((1 : Int32) + (p2 &&& (1073741823 : Int32))) (((10 : Int64) * ((p1 &&& (2147483647 : Int32)).toInt64)) + ((3 : Int64) * (((1 : Int32) + (p2 &&& (1073741823 : Int32))).toInt64))))), .second, .unset, .unset, .unset, .unset]) rfl ?_
    show Steps p.tables e below (T_1.setTop (mkF m 78 #[.val (.int p0), .val (.int p1), .val (.int p2), .val (.int (p1 &&& (2147483647 : Int32))), .val (.int ((1 : Int32) + (p2 &&& (1073741823 : Int32)))), .val (.double (FP.i2d p0)), .second, .val (.double (own_lf ((1 : Int32) + (p2 &&& (1073741823 : Int32))))), .second, .val (.double (own_Q p0 (p1 &&& (2147483647 : Int32)) ((1 : Int32) + (p2 &&& (1073741823 : Int32))))), .second, .val (.long (((10 : Int64) * ((p1 &&& (2147483647 : Int32)).toInt64)) + ((3 : Int64) * (((1 : Int32) + (p2 &&& (1073741823 : Int32))).toInt64)))), .second, .val (.double (own_L p0 (p1 &&& (2147483647 : Int32)) ((1 : Int32) + (p2 &&& (1073741823 : Int32))) (((10 : Int64) * ((p1 &&& (2147483647 : Int32)).toInt64)) + ((3 : Int64) * (((1 : Int32) + (p2 &&& (1073741823 : Int32))).toInt64))))), .second, .val (.double (own_R p0 (p1 &&& (2147483647 : Int32)))), .second, .val (.double (own_df p0 (p1 &&& (2147483647 : Int32)) ((1 : Int32) + (p2 &&& (1073741823 : Int32))) (((10 : Int64) * ((p1 &&& (2147483647 : Int32)).toInt64)) + ((3 : Int64) * (((1 : Int32) + (p2 &&& (1073741823 : Int32))).toInt64))))), .second, .unset, .unset, .unset, .unset] [])) _
    refine XS.dload X_1.here hx rfl (hb hby at_78) rfl ?_
    show Steps p.tables e below (T_1.setTop (mkF m 80 #[.val (.int p0), .val (.int p1), .val (.int p2), .val (.int (p1 &&& (2147483647 : Int32))), .val (.int ((1 : Int32) + (p2 &&& (1073741823 : Int32)))), .val (.double (FP.i2d p0)), .second, .val (.double (own_lf ((1 : Int32) + (p2 &&& (1073741823 : Int32))))), .second, .val (.double (own_Q p0 (p1 &&& (2147483647 : Int32)) ((1 : Int32) + (p2 &&& (1073741823 : Int32))))), .second, .val (.long (((10 : Int64) * ((p1 &&& (2147483647 : Int32)).toInt64)) + ((3 : Int64) * (((1 : Int32) + (p2 &&& (1073741823 : Int32))).toInt64)))), .second, .val (.double (own_L p0 (p1 &&& (2147483647 : Int32)) ((1 : Int32) + (p2 &&& (1073741823 : Int32))) (((10 : Int64) * ((p1 &&& (2147483647 : Int32)).toInt64)) + ((3 : Int64) * (((1 : Int32) + (p2 &&& (1073741823 : Int32))).toInt64))))), .second, .val (.double (own_R p0 (p1 &&& (2147483647 : Int32)))), .second, .val (.double (own_df p0 (p1 &&& (2147483647 : Int32)) ((1 : Int32) + (p2 &&& (1073741823 : Int32))) (((10 : Int64) * ((p1 &&& (2147483647 : Int32)).toInt64)) + ((3 : Int64) * (((1 : Int32) + (p2 &&& (1073741823 : Int32))).toInt64))))), .second, .unset, .unset, .unset, .unset] [(.double (own_R p0 (p1 &&& (2147483647 : Int32))))])) _
    refine XS.dconst0 X_1.here hx rfl (v := 0) (hb hby at_80) rfl ?_
    show Steps p.tables e below (T_1.setTop (mkF m 81 #[.val (.int p0), .val (.int p1), .val (.int p2), .val (.int (p1 &&& (2147483647 : Int32))), .val (.int ((1 : Int32) + (p2 &&& (1073741823 : Int32)))), .val (.double (FP.i2d p0)), .second, .val (.double (own_lf ((1 : Int32) + (p2 &&& (1073741823 : Int32))))), .second, .val (.double (own_Q p0 (p1 &&& (2147483647 : Int32)) ((1 : Int32) + (p2 &&& (1073741823 : Int32))))), .second, .val (.long (((10 : Int64) * ((p1 &&& (2147483647 : Int32)).toInt64)) + ((3 : Int64) * (((1 : Int32) + (p2 &&& (1073741823 : Int32))).toInt64)))), .second, .val (.double (own_L p0 (p1 &&& (2147483647 : Int32)) ((1 : Int32) + (p2 &&& (1073741823 : Int32))) (((10 : Int64) * ((p1 &&& (2147483647 : Int32)).toInt64)) + ((3 : Int64) * (((1 : Int32) + (p2 &&& (1073741823 : Int32))).toInt64))))), .second, .val (.double (own_R p0 (p1 &&& (2147483647 : Int32)))), .second, .val (.double (own_df p0 (p1 &&& (2147483647 : Int32)) ((1 : Int32) + (p2 &&& (1073741823 : Int32))) (((10 : Int64) * ((p1 &&& (2147483647 : Int32)).toInt64)) + ((3 : Int64) * (((1 : Int32) + (p2 &&& (1073741823 : Int32))).toInt64))))), .second, .unset, .unset, .unset, .unset] [(.double 0), (.double (own_R p0 (p1 &&& (2147483647 : Int32))))])) _
    refine XS.dcmpS X_1.here hx rfl (hb hby at_81) rfl rfl ?_
    exact k
  by_cases hc82 : (cmpValue (FP.dcmp (own_R p0 (p1 &&& (2147483647 : Int32))) 0) .g) < (0 : Int32)
  · have e82 : (own_tol p0 (p1 &&& (2147483647 : Int32))) = FP.dmul 4427486594234968593 (FP.dneg (own_R p0 (p1 &&& (2147483647 : Int32)))) := congrArg (FP.dmul 4427486594234968593) (if_pos hc82)
    refine own_go (B := T_1.setTop (mkF m 85 #[.val (.int p0), .val (.int p1), .val (.int p2), .val (.int (p1 &&& (2147483647 : Int32))), .val (.int ((1 : Int32) + (p2 &&& (1073741823 : Int32)))), .val (.double (FP.i2d p0)), .second, .val (.double (own_lf ((1 : Int32) + (p2 &&& (1073741823 : Int32))))), .second, .val (.double (own_Q p0 (p1 &&& (2147483647 : Int32)) ((1 : Int32) + (p2 &&& (1073741823 : Int32))))), .second, .val (.long (((10 : Int64) * ((p1 &&& (2147483647 : Int32)).toInt64)) + ((3 : Int64) * (((1 : Int32) + (p2 &&& (1073741823 : Int32))).toInt64)))), .second, .val (.double (own_L p0 (p1 &&& (2147483647 : Int32)) ((1 : Int32) + (p2 &&& (1073741823 : Int32))) (((10 : Int64) * ((p1 &&& (2147483647 : Int32)).toInt64)) + ((3 : Int64) * (((1 : Int32) + (p2 &&& (1073741823 : Int32))).toInt64))))), .second, .val (.double (own_R p0 (p1 &&& (2147483647 : Int32)))), .second, .val (.double (own_df p0 (p1 &&& (2147483647 : Int32)) ((1 : Int32) + (p2 &&& (1073741823 : Int32))) (((10 : Int64) * ((p1 &&& (2147483647 : Int32)).toInt64)) + ((3 : Int64) * (((1 : Int32) + (p2 &&& (1073741823 : Int32))).toInt64))))), .second, .unset, .unset, .unset, .unset] [])) (fun t k => ?_) ?_
    · show Steps p.tables e below (T_1.setTop (mkF m 82 #[.val (.int p0), .val (.int p1), .val (.int p2), .val (.int (p1 &&& (2147483647 : Int32))), .val (.int ((1 : Int32) + (p2 &&& (1073741823 : Int32)))), .val (.double (FP.i2d p0)), .second, .val (.double (own_lf ((1 : Int32) + (p2 &&& (1073741823 : Int32))))), .second, .val (.double (own_Q p0 (p1 &&& (2147483647 : Int32)) ((1 : Int32) + (p2 &&& (1073741823 : Int32))))), .second, .val (.long (((10 : Int64) * ((p1 &&& (2147483647 : Int32)).toInt64)) + ((3 : Int64) * (((1 : Int32) + (p2 &&& (1073741823 : Int32))).toInt64)))), .second, .val (.double (own_L p0 (p1 &&& (2147483647 : Int32)) ((1 : Int32) + (p2 &&& (1073741823 : Int32))) (((10 : Int64) * ((p1 &&& (2147483647 : Int32)).toInt64)) + ((3 : Int64) * (((1 : Int32) + (p2 &&& (1073741823 : Int32))).toInt64))))), .second, .val (.double (own_R p0 (p1 &&& (2147483647 : Int32)))), .second, .val (.double (own_df p0 (p1 &&& (2147483647 : Int32)) ((1 : Int32) + (p2 &&& (1073741823 : Int32))) (((10 : Int64) * ((p1 &&& (2147483647 : Int32)).toInt64)) + ((3 : Int64) * (((1 : Int32) + (p2 &&& (1073741823 : Int32))).toInt64))))), .second, .unset, .unset, .unset, .unset] [(.int (cmpValue (FP.dcmp (own_R p0 (p1 &&& (2147483647 : Int32))) 0) .g))])) _
      refine XS.ifNo X_1.here hx rfl (hb hby at_82) rfl ((if0 _ _).trans (tlt hc82).2.1) ?_
      exact k
    refine own_go (B := T_1.setTop (mkF m 108 #[.val (.int p0), .val (.int p1), .val (.int p2), .val (.int (p1 &&& (2147483647 : Int32))), .val (.int ((1 : Int32) + (p2 &&& (1073741823 : Int32)))), .val (.double (FP.i2d p0)), .second, .val (.double (own_lf ((1 : Int32) + (p2 &&& (1073741823 : Int32))))), .second, .val (.double (own_Q p0 (p1 &&& (2147483647 : Int32)) ((1 : Int32) + (p2 &&& (1073741823 : Int32))))), .second, .val (.long (((10 : Int64) * ((p1 &&& (2147483647 : Int32)).toInt64)) + ((3 : Int64) * (((1 : Int32) + (p2 &&& (1073741823 : Int32))).toInt64)))), .second, .val (.double (own_L p0 (p1 &&& (2147483647 : Int32)) ((1 : Int32) + (p2 &&& (1073741823 : Int32))) (((10 : Int64) * ((p1 &&& (2147483647 : Int32)).toInt64)) + ((3 : Int64) * (((1 : Int32) + (p2 &&& (1073741823 : Int32))).toInt64))))), .second, .val (.double (own_R p0 (p1 &&& (2147483647 : Int32)))), .second, .val (.double (own_df p0 (p1 &&& (2147483647 : Int32)) ((1 : Int32) + (p2 &&& (1073741823 : Int32))) (((10 : Int64) * ((p1 &&& (2147483647 : Int32)).toInt64)) + ((3 : Int64) * (((1 : Int32) + (p2 &&& (1073741823 : Int32))).toInt64))))), .second, .val (.double (FP.dneg (own_R p0 (p1 &&& (2147483647 : Int32))))), .second, .val (.double (own_tol p0 (p1 &&& (2147483647 : Int32)))), .second] [(.int (cmpValue (FP.dcmp (own_df p0 (p1 &&& (2147483647 : Int32)) ((1 : Int32) + (p2 &&& (1073741823 : Int32))) (((10 : Int64) * ((p1 &&& (2147483647 : Int32)).toInt64)) + ((3 : Int64) * (((1 : Int32) + (p2 &&& (1073741823 : Int32))).toInt64)))) (own_tol p0 (p1 &&& (2147483647 : Int32)))) .g))])) (fun t k => ?_) ?_
    · show Steps p.tables e below (T_1.setTop (mkF m 85 #[.val (.int p0), .val (.int p1), .val (.int p2), .val (.int (p1 &&& (2147483647 : Int32))), .val (.int ((1 : Int32) + (p2 &&& (1073741823 : Int32)))), .val (.double (FP.i2d p0)), .second, .val (.double (own_lf ((1 : Int32) + (p2 &&& (1073741823 : Int32))))), .second, .val (.double (own_Q p0 (p1 &&& (2147483647 : Int32)) ((1 : Int32) + (p2 &&& (1073741823 : Int32))))), .second, .val (.long (((10 : Int64) * ((p1 &&& (2147483647 : Int32)).toInt64)) + ((3 : Int64) * (((1 : Int32) + (p2 &&& (1073741823 : Int32))).toInt64)))), .second, .val (.double (own_L p0 (p1 &&& (2147483647 : Int32)) ((1 : Int32) + (p2 &&& (1073741823 : Int32))) (((10 : Int64) * ((p1 &&& (2147483647 : Int32)).toInt64)) + ((3 : Int64) * (((1 : Int32) + (p2 &&& (1073741823 : Int32))).toInt64))))), .second, .val (.double (own_R p0 (p1 &&& (2147483647 : Int32)))), .second, .val (.double (own_df p0 (p1 &&& (2147483647 : Int32)) ((1 : Int32) + (p2 &&& (1073741823 : Int32))) (((10 : Int64) * ((p1 &&& (2147483647 : Int32)).toInt64)) + ((3 : Int64) * (((1 : Int32) + (p2 &&& (1073741823 : Int32))).toInt64))))), .second, .unset, .unset, .unset, .unset] [])) _
      refine XS.dload X_1.here hx rfl (hb hby at_85) rfl ?_
      show Steps p.tables e below (T_1.setTop (mkF m 87 #[.val (.int p0), .val (.int p1), .val (.int p2), .val (.int (p1 &&& (2147483647 : Int32))), .val (.int ((1 : Int32) + (p2 &&& (1073741823 : Int32)))), .val (.double (FP.i2d p0)), .second, .val (.double (own_lf ((1 : Int32) + (p2 &&& (1073741823 : Int32))))), .second, .val (.double (own_Q p0 (p1 &&& (2147483647 : Int32)) ((1 : Int32) + (p2 &&& (1073741823 : Int32))))), .second, .val (.long (((10 : Int64) * ((p1 &&& (2147483647 : Int32)).toInt64)) + ((3 : Int64) * (((1 : Int32) + (p2 &&& (1073741823 : Int32))).toInt64)))), .second, .val (.double (own_L p0 (p1 &&& (2147483647 : Int32)) ((1 : Int32) + (p2 &&& (1073741823 : Int32))) (((10 : Int64) * ((p1 &&& (2147483647 : Int32)).toInt64)) + ((3 : Int64) * (((1 : Int32) + (p2 &&& (1073741823 : Int32))).toInt64))))), .second, .val (.double (own_R p0 (p1 &&& (2147483647 : Int32)))), .second, .val (.double (own_df p0 (p1 &&& (2147483647 : Int32)) ((1 : Int32) + (p2 &&& (1073741823 : Int32))) (((10 : Int64) * ((p1 &&& (2147483647 : Int32)).toInt64)) + ((3 : Int64) * (((1 : Int32) + (p2 &&& (1073741823 : Int32))).toInt64))))), .second, .unset, .unset, .unset, .unset] [(.double (own_R p0 (p1 &&& (2147483647 : Int32))))])) _
      refine XS.dnegS X_1.here hx rfl (hb hby at_87) rfl rfl ?_
      show Steps p.tables e below (T_1.setTop (mkF m 88 #[.val (.int p0), .val (.int p1), .val (.int p2), .val (.int (p1 &&& (2147483647 : Int32))), .val (.int ((1 : Int32) + (p2 &&& (1073741823 : Int32)))), .val (.double (FP.i2d p0)), .second, .val (.double (own_lf ((1 : Int32) + (p2 &&& (1073741823 : Int32))))), .second, .val (.double (own_Q p0 (p1 &&& (2147483647 : Int32)) ((1 : Int32) + (p2 &&& (1073741823 : Int32))))), .second, .val (.long (((10 : Int64) * ((p1 &&& (2147483647 : Int32)).toInt64)) + ((3 : Int64) * (((1 : Int32) + (p2 &&& (1073741823 : Int32))).toInt64)))), .second, .val (.double (own_L p0 (p1 &&& (2147483647 : Int32)) ((1 : Int32) + (p2 &&& (1073741823 : Int32))) (((10 : Int64) * ((p1 &&& (2147483647 : Int32)).toInt64)) + ((3 : Int64) * (((1 : Int32) + (p2 &&& (1073741823 : Int32))).toInt64))))), .second, .val (.double (own_R p0 (p1 &&& (2147483647 : Int32)))), .second, .val (.double (own_df p0 (p1 &&& (2147483647 : Int32)) ((1 : Int32) + (p2 &&& (1073741823 : Int32))) (((10 : Int64) * ((p1 &&& (2147483647 : Int32)).toInt64)) + ((3 : Int64) * (((1 : Int32) + (p2 &&& (1073741823 : Int32))).toInt64))))), .second, .unset, .unset, .unset, .unset] [(.double (FP.dneg (own_R p0 (p1 &&& (2147483647 : Int32)))))])) _
      refine XS.goto X_1.here hx rfl (pc0 := 88) (pc' := 93) rfl (hb hby at_88) (by decide) (by decide) ?_
      show Steps p.tables e below (T_1.setTop (mkF m 93 #[.val (.int p0), .val (.int p1), .val (.int p2), .val (.int (p1 &&& (2147483647 : Int32))), .val (.int ((1 : Int32) + (p2 &&& (1073741823 : Int32)))), .val (.double (FP.i2d p0)), .second, .val (.double (own_lf ((1 : Int32) + (p2 &&& (1073741823 : Int32))))), .second, .val (.double (own_Q p0 (p1 &&& (2147483647 : Int32)) ((1 : Int32) + (p2 &&& (1073741823 : Int32))))), .second, .val (.long (((10 : Int64) * ((p1 &&& (2147483647 : Int32)).toInt64)) + ((3 : Int64) * (((1 : Int32) + (p2 &&& (1073741823 : Int32))).toInt64)))), .second, .val (.double (own_L p0 (p1 &&& (2147483647 : Int32)) ((1 : Int32) + (p2 &&& (1073741823 : Int32))) (((10 : Int64) * ((p1 &&& (2147483647 : Int32)).toInt64)) + ((3 : Int64) * (((1 : Int32) + (p2 &&& (1073741823 : Int32))).toInt64))))), .second, .val (.double (own_R p0 (p1 &&& (2147483647 : Int32)))), .second, .val (.double (own_df p0 (p1 &&& (2147483647 : Int32)) ((1 : Int32) + (p2 &&& (1073741823 : Int32))) (((10 : Int64) * ((p1 &&& (2147483647 : Int32)).toInt64)) + ((3 : Int64) * (((1 : Int32) + (p2 &&& (1073741823 : Int32))).toInt64))))), .second, .unset, .unset, .unset, .unset] [(.double (FP.dneg (own_R p0 (p1 &&& (2147483647 : Int32)))))])) _
      refine XS.dstore X_1.here hx rfl (hb hby at_93) rfl (l' := #[.val (.int p0), .val (.int p1), .val (.int p2), .val (.int (p1 &&& (2147483647 : Int32))), .val (.int ((1 : Int32) + (p2 &&& (1073741823 : Int32)))), .val (.double (FP.i2d p0)), .second, .val (.double (own_lf ((1 : Int32) + (p2 &&& (1073741823 : Int32))))), .second, .val (.double (own_Q p0 (p1 &&& (2147483647 : Int32)) ((1 : Int32) + (p2 &&& (1073741823 : Int32))))), .second, .val (.long (((10 : Int64) * ((p1 &&& (2147483647 : Int32)).toInt64)) + ((3 : Int64) * (((1 : Int32) + (p2 &&& (1073741823 : Int32))).toInt64)))), .second, .val (.double (own_L p0 (p1 &&& (2147483647 : Int32)) ((1 : Int32) + (p2 &&& (1073741823 : Int32))) (((10 : Int64) * ((p1 &&& (2147483647 : Int32)).toInt64)) + ((3 : Int64) * (((1 : Int32) + (p2 &&& (1073741823 : Int32))).toInt64))))), .second, .val (.double (own_R p0 (p1 &&& (2147483647 : Int32)))), .second, .val (.double (own_df p0 (p1 &&& (2147483647 : Int32)) ((1 : Int32) + (p2 &&& (1073741823 : Int32))) (((10 : Int64) * ((p1 &&& (2147483647 : Int32)).toInt64)) + ((3 : Int64) * (((1 : Int32) + (p2 &&& (1073741823 : Int32))).toInt64))))), .second, .val (.double (FP.dneg (own_R p0 (p1 &&& (2147483647 : Int32))))), .second, .unset, .unset]) rfl ?_
      show Steps p.tables e below (T_1.setTop (mkF m 95 #[.val (.int p0), .val (.int p1), .val (.int p2), .val (.int (p1 &&& (2147483647 : Int32))), .val (.int ((1 : Int32) + (p2 &&& (1073741823 : Int32)))), .val (.double (FP.i2d p0)), .second, .val (.double (own_lf ((1 : Int32) + (p2 &&& (1073741823 : Int32))))), .second, .val (.double (own_Q p0 (p1 &&& (2147483647 : Int32)) ((1 : Int32) + (p2 &&& (1073741823 : Int32))))), .second, .val (.long (((10 : Int64) * ((p1 &&& (2147483647 : Int32)).toInt64)) + ((3 : Int64) * (((1 : Int32) + (p2 &&& (1073741823 : Int32))).toInt64)))), .second, .val (.double (own_L p0 (p1 &&& (2147483647 : Int32)) ((1 : Int32) + (p2 &&& (1073741823 : Int32))) (((10 : Int64) * ((p1 &&& (2147483647 : Int32)).toInt64)) + ((3 : Int64) * (((1 : Int32) + (p2 &&& (1073741823 : Int32))).toInt64))))), .second, .val (.double (own_R p0 (p1 &&& (2147483647 : Int32)))), .second, .val (.double (own_df p0 (p1 &&& (2147483647 : Int32)) ((1 : Int32) + (p2 &&& (1073741823 : Int32))) (((10 : Int64) * ((p1 &&& (2147483647 : Int32)).toInt64)) + ((3 : Int64) * (((1 : Int32) + (p2 &&& (1073741823 : Int32))).toInt64))))), .second, .val (.double (FP.dneg (own_R p0 (p1 &&& (2147483647 : Int32))))), .second, .unset, .unset] [])) _
      refine X_1.ldc2DoubleC hx hown (mvT hZ (hw _ (List.mem_of_getElem? (i := 11) rfl))) (g := (mkF m 95 #[.val (.int p0), .val (.int p1), .val (.int p2), .val (.int (p1 &&& (2147483647 : Int32))), .val (.int ((1 : Int32) + (p2 &&& (1073741823 : Int32)))), .val (.double (FP.i2d p0)), .second, .val (.double (own_lf ((1 : Int32) + (p2 &&& (1073741823 : Int32))))), .second, .val (.double (own_Q p0 (p1 &&& (2147483647 : Int32)) ((1 : Int32) + (p2 &&& (1073741823 : Int32))))), .second, .val (.long (((10 : Int64) * ((p1 &&& (2147483647 : Int32)).toInt64)) + ((3 : Int64) * (((1 : Int32) + (p2 &&& (1073741823 : Int32))).toInt64)))), .second, .val (.double (own_L p0 (p1 &&& (2147483647 : Int32)) ((1 : Int32) + (p2 &&& (1073741823 : Int32))) (((10 : Int64) * ((p1 &&& (2147483647 : Int32)).toInt64)) + ((3 : Int64) * (((1 : Int32) + (p2 &&& (1073741823 : Int32))).toInt64))))), .second, .val (.double (own_R p0 (p1 &&& (2147483647 : Int32)))), .second, .val (.double (own_df p0 (p1 &&& (2147483647 : Int32)) ((1 : Int32) + (p2 &&& (1073741823 : Int32))) (((10 : Int64) * ((p1 &&& (2147483647 : Int32)).toInt64)) + ((3 : Int64) * (((1 : Int32) + (p2 &&& (1073741823 : Int32))).toInt64))))), .second, .val (.double (FP.dneg (own_R p0 (p1 &&& (2147483647 : Int32))))), .second, .unset, .unset] [])) rfl (hb hby at_95) _ ?_
      show Steps p.tables e below (T_1.setTop (mkF m 98 #[.val (.int p0), .val (.int p1), .val (.int p2), .val (.int (p1 &&& (2147483647 : Int32))), .val (.int ((1 : Int32) + (p2 &&& (1073741823 : Int32)))), .val (.double (FP.i2d p0)), .second, .val (.double (own_lf ((1 : Int32) + (p2 &&& (1073741823 : Int32))))), .second, .val (.double (own_Q p0 (p1 &&& (2147483647 : Int32)) ((1 : Int32) + (p2 &&& (1073741823 : Int32))))), .second, .val (.long (((10 : Int64) * ((p1 &&& (2147483647 : Int32)).toInt64)) + ((3 : Int64) * (((1 : Int32) + (p2 &&& (1073741823 : Int32))).toInt64)))), .second, .val (.double (own_L p0 (p1 &&& (2147483647 : Int32)) ((1 : Int32) + (p2 &&& (1073741823 : Int32))) (((10 : Int64) * ((p1 &&& (2147483647 : Int32)).toInt64)) + ((3 : Int64) * (((1 : Int32) + (p2 &&& (1073741823 : Int32))).toInt64))))), .second, .val (.double (own_R p0 (p1 &&& (2147483647 : Int32)))), .second, .val (.double (own_df p0 (p1 &&& (2147483647 : Int32)) ((1 : Int32) + (p2 &&& (1073741823 : Int32))) (((10 : Int64) * ((p1 &&& (2147483647 : Int32)).toInt64)) + ((3 : Int64) * (((1 : Int32) + (p2 &&& (1073741823 : Int32))).toInt64))))), .second, .val (.double (FP.dneg (own_R p0 (p1 &&& (2147483647 : Int32))))), .second, .unset, .unset] [(.double 4427486594234968593)])) _
      refine XS.dload X_1.here hx rfl (hb hby at_98) rfl ?_
      show Steps p.tables e below (T_1.setTop (mkF m 100 #[.val (.int p0), .val (.int p1), .val (.int p2), .val (.int (p1 &&& (2147483647 : Int32))), .val (.int ((1 : Int32) + (p2 &&& (1073741823 : Int32)))), .val (.double (FP.i2d p0)), .second, .val (.double (own_lf ((1 : Int32) + (p2 &&& (1073741823 : Int32))))), .second, .val (.double (own_Q p0 (p1 &&& (2147483647 : Int32)) ((1 : Int32) + (p2 &&& (1073741823 : Int32))))), .second, .val (.long (((10 : Int64) * ((p1 &&& (2147483647 : Int32)).toInt64)) + ((3 : Int64) * (((1 : Int32) + (p2 &&& (1073741823 : Int32))).toInt64)))), .second, .val (.double (own_L p0 (p1 &&& (2147483647 : Int32)) ((1 : Int32) + (p2 &&& (1073741823 : Int32))) (((10 : Int64) * ((p1 &&& (2147483647 : Int32)).toInt64)) + ((3 : Int64) * (((1 : Int32) + (p2 &&& (1073741823 : Int32))).toInt64))))), .second, .val (.double (own_R p0 (p1 &&& (2147483647 : Int32)))), .second, .val (.double (own_df p0 (p1 &&& (2147483647 : Int32)) ((1 : Int32) + (p2 &&& (1073741823 : Int32))) (((10 : Int64) * ((p1 &&& (2147483647 : Int32)).toInt64)) + ((3 : Int64) * (((1 : Int32) + (p2 &&& (1073741823 : Int32))).toInt64))))), .second, .val (.double (FP.dneg (own_R p0 (p1 &&& (2147483647 : Int32))))), .second, .unset, .unset] [(.double (FP.dneg (own_R p0 (p1 &&& (2147483647 : Int32))))), (.double 4427486594234968593)])) _
      refine XS.dmulS X_1.here hx rfl (hb hby at_100) rfl (by rw [← e82]; exact (Jvm.Free.Fl.val64_no.mpr (fT).nn)) e82.symm ?_
      show Steps p.tables e below (T_1.setTop (mkF m 101 #[.val (.int p0), .val (.int p1), .val (.int p2), .val (.int (p1 &&& (2147483647 : Int32))), .val (.int ((1 : Int32) + (p2 &&& (1073741823 : Int32)))), .val (.double (FP.i2d p0)), .second, .val (.double (own_lf ((1 : Int32) + (p2 &&& (1073741823 : Int32))))), .second, .val (.double (own_Q p0 (p1 &&& (2147483647 : Int32)) ((1 : Int32) + (p2 &&& (1073741823 : Int32))))), .second, .val (.long (((10 : Int64) * ((p1 &&& (2147483647 : Int32)).toInt64)) + ((3 : Int64) * (((1 : Int32) + (p2 &&& (1073741823 : Int32))).toInt64)))), .second, .val (.double (own_L p0 (p1 &&& (2147483647 : Int32)) ((1 : Int32) + (p2 &&& (1073741823 : Int32))) (((10 : Int64) * ((p1 &&& (2147483647 : Int32)).toInt64)) + ((3 : Int64) * (((1 : Int32) + (p2 &&& (1073741823 : Int32))).toInt64))))), .second, .val (.double (own_R p0 (p1 &&& (2147483647 : Int32)))), .second, .val (.double (own_df p0 (p1 &&& (2147483647 : Int32)) ((1 : Int32) + (p2 &&& (1073741823 : Int32))) (((10 : Int64) * ((p1 &&& (2147483647 : Int32)).toInt64)) + ((3 : Int64) * (((1 : Int32) + (p2 &&& (1073741823 : Int32))).toInt64))))), .second, .val (.double (FP.dneg (own_R p0 (p1 &&& (2147483647 : Int32))))), .second, .unset, .unset] [(.double (own_tol p0 (p1 &&& (2147483647 : Int32))))])) _
      refine XS.dstore X_1.here hx rfl (hb hby at_101) rfl (l' := #[.val (.int p0), .val (.int p1), .val (.int p2), .val (.int (p1 &&& (2147483647 : Int32))), .val (.int ((1 : Int32) + (p2 &&& (1073741823 : Int32)))), .val (.double (FP.i2d p0)), .second, .val (.double (own_lf ((1 : Int32) + (p2 &&& (1073741823 : Int32))))), .second, .val (.double (own_Q p0 (p1 &&& (2147483647 : Int32)) ((1 : Int32) + (p2 &&& (1073741823 : Int32))))), .second, .val (.long (((10 : Int64) * ((p1 &&& (2147483647 : Int32)).toInt64)) + ((3 : Int64) * (((1 : Int32) + (p2 &&& (1073741823 : Int32))).toInt64)))), .second, .val (.double (own_L p0 (p1 &&& (2147483647 : Int32)) ((1 : Int32) + (p2 &&& (1073741823 : Int32))) (((10 : Int64) * ((p1 &&& (2147483647 : Int32)).toInt64)) + ((3 : Int64) * (((1 : Int32) + (p2 &&& (1073741823 : Int32))).toInt64))))), .second, .val (.double (own_R p0 (p1 &&& (2147483647 : Int32)))), .second, .val (.double (own_df p0 (p1 &&& (2147483647 : Int32)) ((1 : Int32) + (p2 &&& (1073741823 : Int32))) (((10 : Int64) * ((p1 &&& (2147483647 : Int32)).toInt64)) + ((3 : Int64) * (((1 : Int32) + (p2 &&& (1073741823 : Int32))).toInt64))))), .second, .val (.double (FP.dneg (own_R p0 (p1 &&& (2147483647 : Int32))))), .second, .val (.double (own_tol p0 (p1 &&& (2147483647 : Int32)))), .second]) rfl ?_
      show Steps p.tables e below (T_1.setTop (mkF m 103 #[.val (.int p0), .val (.int p1), .val (.int p2), .val (.int (p1 &&& (2147483647 : Int32))), .val (.int ((1 : Int32) + (p2 &&& (1073741823 : Int32)))), .val (.double (FP.i2d p0)), .second, .val (.double (own_lf ((1 : Int32) + (p2 &&& (1073741823 : Int32))))), .second, .val (.double (own_Q p0 (p1 &&& (2147483647 : Int32)) ((1 : Int32) + (p2 &&& (1073741823 : Int32))))), .second, .val (.long (((10 : Int64) * ((p1 &&& (2147483647 : Int32)).toInt64)) + ((3 : Int64) * (((1 : Int32) + (p2 &&& (1073741823 : Int32))).toInt64)))), .second, .val (.double (own_L p0 (p1 &&& (2147483647 : Int32)) ((1 : Int32) + (p2 &&& (1073741823 : Int32))) (((10 : Int64) * ((p1 &&& (2147483647 : Int32)).toInt64)) + ((3 : Int64) * (((1 : Int32) + (p2 &&& (1073741823 : Int32))).toInt64))))), .second, .val (.double (own_R p0 (p1 &&& (2147483647 : Int32)))), .second, .val (.double (own_df p0 (p1 &&& (2147483647 : Int32)) ((1 : Int32) + (p2 &&& (1073741823 : Int32))) (((10 : Int64) * ((p1 &&& (2147483647 : Int32)).toInt64)) + ((3 : Int64) * (((1 : Int32) + (p2 &&& (1073741823 : Int32))).toInt64))))), .second, .val (.double (FP.dneg (own_R p0 (p1 &&& (2147483647 : Int32))))), .second, .val (.double (own_tol p0 (p1 &&& (2147483647 : Int32)))), .second] [])) _
      refine XS.dload X_1.here hx rfl (hb hby at_103) rfl ?_
      show Steps p.tables e below (T_1.setTop (mkF m 105 #[.val (.int p0), .val (.int p1), .val (.int p2), .val (.int (p1 &&& (2147483647 : Int32))), .val (.int ((1 : Int32) + (p2 &&& (1073741823 : Int32)))), .val (.double (FP.i2d p0)), .second, .val (.double (own_lf ((1 : Int32) + (p2 &&& (1073741823 : Int32))))), .second, .val (.double (own_Q p0 (p1 &&& (2147483647 : Int32)) ((1 : Int32) + (p2 &&& (1073741823 : Int32))))), .second, .val (.long (((10 : Int64) * ((p1 &&& (2147483647 : Int32)).toInt64)) + ((3 : Int64) * (((1 : Int32) + (p2 &&& (1073741823 : Int32))).toInt64)))), .second, .val (.double (own_L p0 (p1 &&& (2147483647 : Int32)) ((1 : Int32) + (p2 &&& (1073741823 : Int32))) (((10 : Int64) * ((p1 &&& (2147483647 : Int32)).toInt64)) + ((3 : Int64) * (((1 : Int32) + (p2 &&& (1073741823 : Int32))).toInt64))))), .second, .val (.double (own_R p0 (p1 &&& (2147483647 : Int32)))), .second, .val (.double (own_df p0 (p1 &&& (2147483647 : Int32)) ((1 : Int32) + (p2 &&& (1073741823 : Int32))) (((10 : Int64) * ((p1 &&& (2147483647 : Int32)).toInt64)) + ((3 : Int64) * (((1 : Int32) + (p2 &&& (1073741823 : Int32))).toInt64))))), .second, .val (.double (FP.dneg (own_R p0 (p1 &&& (2147483647 : Int32))))), .second, .val (.double (own_tol p0 (p1 &&& (2147483647 : Int32)))), .second] [(.double (own_df p0 (p1 &&& (2147483647 : Int32)) ((1 : Int32) + (p2 &&& (1073741823 : Int32))) (((10 : Int64) * ((p1 &&& (2147483647 : Int32)).toInt64)) + ((3 : Int64) * (((1 : Int32) + (p2 &&& (1073741823 : Int32))).toInt64)))))])) _
      refine XS.dload X_1.here hx rfl (hb hby at_105) rfl ?_
      show Steps p.tables e below (T_1.setTop (mkF m 107 #[.val (.int p0), .val (.int p1), .val (.int p2), .val (.int (p1 &&& (2147483647 : Int32))), .val (.int ((1 : Int32) + (p2 &&& (1073741823 : Int32)))), .val (.double (FP.i2d p0)), .second, .val (.double (own_lf ((1 : Int32) + (p2 &&& (1073741823 : Int32))))), .second, .val (.double (own_Q p0 (p1 &&& (2147483647 : Int32)) ((1 : Int32) + (p2 &&& (1073741823 : Int32))))), .second, .val (.long (((10 : Int64) * ((p1 &&& (2147483647 : Int32)).toInt64)) + ((3 : Int64) * (((1 : Int32) + (p2 &&& (1073741823 : Int32))).toInt64)))), .second, .val (.double (own_L p0 (p1 &&& (2147483647 : Int32)) ((1 : Int32) + (p2 &&& (1073741823 : Int32))) (((10 : Int64) * ((p1 &&& (2147483647 : Int32)).toInt64)) + ((3 : Int64) * (((1 : Int32) + (p2 &&& (1073741823 : Int32))).toInt64))))), .second, .val (.double (own_R p0 (p1 &&& (2147483647 : Int32)))), .second, .val (.double (own_df p0 (p1 &&& (2147483647 : Int32)) ((1 : Int32) + (p2 &&& (1073741823 : Int32))) (((10 : Int64) * ((p1 &&& (2147483647 : Int32)).toInt64)) + ((3 : Int64) * (((1 : Int32) + (p2 &&& (1073741823 : Int32))).toInt64))))), .second, .val (.double (FP.dneg (own_R p0 (p1 &&& (2147483647 : Int32))))), .second, .val (.double (own_tol p0 (p1 &&& (2147483647 : Int32)))), .second] [(.double (own_tol p0 (p1 &&& (2147483647 : Int32)))), (.double (own_df p0 (p1 &&& (2147483647 : Int32)) ((1 : Int32) + (p2 &&& (1073741823 : Int32))) (((10 : Int64) * ((p1 &&& (2147483647 : Int32)).toInt64)) + ((3 : Int64) * (((1 : Int32) + (p2 &&& (1073741823 : Int32))).toInt64)))))])) _
      refine XS.dcmpS X_1.here hx rfl (hb hby at_107) rfl rfl ?_
      exact k
    refine own_go (B := T_1.setTop (mkF m 111 #[.val (.int p0), .val (.int p1), .val (.int p2), .val (.int (p1 &&& (2147483647 : Int32))), .val (.int ((1 : Int32) + (p2 &&& (1073741823 : Int32)))), .val (.double (FP.i2d p0)), .second, .val (.double (own_lf ((1 : Int32) + (p2 &&& (1073741823 : Int32))))), .second, .val (.double (own_Q p0 (p1 &&& (2147483647 : Int32)) ((1 : Int32) + (p2 &&& (1073741823 : Int32))))), .second, .val (.long (((10 : Int64) * ((p1 &&& (2147483647 : Int32)).toInt64)) + ((3 : Int64) * (((1 : Int32) + (p2 &&& (1073741823 : Int32))).toInt64)))), .second, .val (.double (own_L p0 (p1 &&& (2147483647 : Int32)) ((1 : Int32) + (p2 &&& (1073741823 : Int32))) (((10 : Int64) * ((p1 &&& (2147483647 : Int32)).toInt64)) + ((3 : Int64) * (((1 : Int32) + (p2 &&& (1073741823 : Int32))).toInt64))))), .second, .val (.double (own_R p0 (p1 &&& (2147483647 : Int32)))), .second, .val (.double (own_df p0 (p1 &&& (2147483647 : Int32)) ((1 : Int32) + (p2 &&& (1073741823 : Int32))) (((10 : Int64) * ((p1 &&& (2147483647 : Int32)).toInt64)) + ((3 : Int64) * (((1 : Int32) + (p2 &&& (1073741823 : Int32))).toInt64))))), .second, .val (.double (FP.dneg (own_R p0 (p1 &&& (2147483647 : Int32))))), .second, .val (.double (own_tol p0 (p1 &&& (2147483647 : Int32)))), .second] [])) (fun t k => ?_) ?_
    · show Steps p.tables e below (T_1.setTop (mkF m 108 #[.val (.int p0), .val (.int p1), .val (.int p2), .val (.int (p1 &&& (2147483647 : Int32))), .val (.int ((1 : Int32) + (p2 &&& (1073741823 : Int32)))), .val (.double (FP.i2d p0)), .second, .val (.double (own_lf ((1 : Int32) + (p2 &&& (1073741823 : Int32))))), .second, .val (.double (own_Q p0 (p1 &&& (2147483647 : Int32)) ((1 : Int32) + (p2 &&& (1073741823 : Int32))))), .second, .val (.long (((10 : Int64) * ((p1 &&& (2147483647 : Int32)).toInt64)) + ((3 : Int64) * (((1 : Int32) + (p2 &&& (1073741823 : Int32))).toInt64)))), .second, .val (.double (own_L p0 (p1 &&& (2147483647 : Int32)) ((1 : Int32) + (p2 &&& (1073741823 : Int32))) (((10 : Int64) * ((p1 &&& (2147483647 : Int32)).toInt64)) + ((3 : Int64) * (((1 : Int32) + (p2 &&& (1073741823 : Int32))).toInt64))))), .second, .val (.double (own_R p0 (p1 &&& (2147483647 : Int32)))), .second, .val (.double (own_df p0 (p1 &&& (2147483647 : Int32)) ((1 : Int32) + (p2 &&& (1073741823 : Int32))) (((10 : Int64) * ((p1 &&& (2147483647 : Int32)).toInt64)) + ((3 : Int64) * (((1 : Int32) + (p2 &&& (1073741823 : Int32))).toInt64))))), .second, .val (.double (FP.dneg (own_R p0 (p1 &&& (2147483647 : Int32))))), .second, .val (.double (own_tol p0 (p1 &&& (2147483647 : Int32)))), .second] [(.int (cmpValue (FP.dcmp (own_df p0 (p1 &&& (2147483647 : Int32)) ((1 : Int32) + (p2 &&& (1073741823 : Int32))) (((10 : Int64) * ((p1 &&& (2147483647 : Int32)).toInt64)) + ((3 : Int64) * (((1 : Int32) + (p2 &&& (1073741823 : Int32))).toInt64)))) (own_tol p0 (p1 &&& (2147483647 : Int32)))) .g))])) _
      refine XS.ifNo X_1.here hx rfl (hb hby at_108) rfl ((if0 _ _).trans (flt g1).2.2.1) ?_
      exact k
    refine own_go (B := T_1.setTop (mkF m 117 #[.val (.int p0), .val (.int p1), .val (.int p2), .val (.int (p1 &&& (2147483647 : Int32))), .val (.int ((1 : Int32) + (p2 &&& (1073741823 : Int32)))), .val (.double (FP.i2d p0)), .second, .val (.double (own_lf ((1 : Int32) + (p2 &&& (1073741823 : Int32))))), .second, .val (.double (own_Q p0 (p1 &&& (2147483647 : Int32)) ((1 : Int32) + (p2 &&& (1073741823 : Int32))))), .second, .val (.long (((10 : Int64) * ((p1 &&& (2147483647 : Int32)).toInt64)) + ((3 : Int64) * (((1 : Int32) + (p2 &&& (1073741823 : Int32))).toInt64)))), .second, .val (.double (own_L p0 (p1 &&& (2147483647 : Int32)) ((1 : Int32) + (p2 &&& (1073741823 : Int32))) (((10 : Int64) * ((p1 &&& (2147483647 : Int32)).toInt64)) + ((3 : Int64) * (((1 : Int32) + (p2 &&& (1073741823 : Int32))).toInt64))))), .second, .val (.double (own_R p0 (p1 &&& (2147483647 : Int32)))), .second, .val (.double (own_df p0 (p1 &&& (2147483647 : Int32)) ((1 : Int32) + (p2 &&& (1073741823 : Int32))) (((10 : Int64) * ((p1 &&& (2147483647 : Int32)).toInt64)) + ((3 : Int64) * (((1 : Int32) + (p2 &&& (1073741823 : Int32))).toInt64))))), .second, .val (.double (FP.dneg (own_R p0 (p1 &&& (2147483647 : Int32))))), .second, .val (.double (own_tol p0 (p1 &&& (2147483647 : Int32)))), .second] [(.int (cmpValue (FP.dcmp (FP.dneg (own_df p0 (p1 &&& (2147483647 : Int32)) ((1 : Int32) + (p2 &&& (1073741823 : Int32))) (((10 : Int64) * ((p1 &&& (2147483647 : Int32)).toInt64)) + ((3 : Int64) * (((1 : Int32) + (p2 &&& (1073741823 : Int32))).toInt64))))) (own_tol p0 (p1 &&& (2147483647 : Int32)))) .g))])) (fun t k => ?_) ?_
    · show Steps p.tables e below (T_1.setTop (mkF m 111 #[.val (.int p0), .val (.int p1), .val (.int p2), .val (.int (p1 &&& (2147483647 : Int32))), .val (.int ((1 : Int32) + (p2 &&& (1073741823 : Int32)))), .val (.double (FP.i2d p0)), .second, .val (.double (own_lf ((1 : Int32) + (p2 &&& (1073741823 : Int32))))), .second, .val (.double (own_Q p0 (p1 &&& (2147483647 : Int32)) ((1 : Int32) + (p2 &&& (1073741823 : Int32))))), .second, .val (.long (((10 : Int64) * ((p1 &&& (2147483647 : Int32)).toInt64)) + ((3 : Int64) * (((1 : Int32) + (p2 &&& (1073741823 : Int32))).toInt64)))), .second, .val (.double (own_L p0 (p1 &&& (2147483647 : Int32)) ((1 : Int32) + (p2 &&& (1073741823 : Int32))) (((10 : Int64) * ((p1 &&& (2147483647 : Int32)).toInt64)) + ((3 : Int64) * (((1 : Int32) + (p2 &&& (1073741823 : Int32))).toInt64))))), .second, .val (.double (own_R p0 (p1 &&& (2147483647 : Int32)))), .second, .val (.double (own_df p0 (p1 &&& (2147483647 : Int32)) ((1 : Int32) + (p2 &&& (1073741823 : Int32))) (((10 : Int64) * ((p1 &&& (2147483647 : Int32)).toInt64)) + ((3 : Int64) * (((1 : Int32) + (p2 &&& (1073741823 : Int32))).toInt64))))), .second, .val (.double (FP.dneg (own_R p0 (p1 &&& (2147483647 : Int32))))), .second, .val (.double (own_tol p0 (p1 &&& (2147483647 : Int32)))), .second] [])) _
      refine XS.dload X_1.here hx rfl (hb hby at_111) rfl ?_
      show Steps p.tables e below (T_1.setTop (mkF m 113 #[.val (.int p0), .val (.int p1), .val (.int p2), .val (.int (p1 &&& (2147483647 : Int32))), .val (.int ((1 : Int32) + (p2 &&& (1073741823 : Int32)))), .val (.double (FP.i2d p0)), .second, .val (.double (own_lf ((1 : Int32) + (p2 &&& (1073741823 : Int32))))), .second, .val (.double (own_Q p0 (p1 &&& (2147483647 : Int32)) ((1 : Int32) + (p2 &&& (1073741823 : Int32))))), .second, .val (.long (((10 : Int64) * ((p1 &&& (2147483647 : Int32)).toInt64)) + ((3 : Int64) * (((1 : Int32) + (p2 &&& (1073741823 : Int32))).toInt64)))), .second, .val (.double (own_L p0 (p1 &&& (2147483647 : Int32)) ((1 : Int32) + (p2 &&& (1073741823 : Int32))) (((10 : Int64) * ((p1 &&& (2147483647 : Int32)).toInt64)) + ((3 : Int64) * (((1 : Int32) + (p2 &&& (1073741823 : Int32))).toInt64))))), .second, .val (.double (own_R p0 (p1 &&& (2147483647 : Int32)))), .second, .val (.double (own_df p0 (p1 &&& (2147483647 : Int32)) ((1 : Int32) + (p2 &&& (1073741823 : Int32))) (((10 : Int64) * ((p1 &&& (2147483647 : Int32)).toInt64)) + ((3 : Int64) * (((1 : Int32) + (p2 &&& (1073741823 : Int32))).toInt64))))), .second, .val (.double (FP.dneg (own_R p0 (p1 &&& (2147483647 : Int32))))), .second, .val (.double (own_tol p0 (p1 &&& (2147483647 : Int32)))), .second] [(.double (own_df p0 (p1 &&& (2147483647 : Int32)) ((1 : Int32) + (p2 &&& (1073741823 : Int32))) (((10 : Int64) * ((p1 &&& (2147483647 : Int32)).toInt64)) + ((3 : Int64) * (((1 : Int32) + (p2 &&& (1073741823 : Int32))).toInt64)))))])) _
      refine XS.dnegS X_1.here hx rfl (hb hby at_113) rfl rfl ?_
      show Steps p.tables e below (T_1.setTop (mkF m 114 #[.val (.int p0), .val (.int p1), .val (.int p2), .val (.int (p1 &&& (2147483647 : Int32))), .val (.int ((1 : Int32) + (p2 &&& (1073741823 : Int32)))), .val (.double (FP.i2d p0)), .second, .val (.double (own_lf ((1 : Int32) + (p2 &&& (1073741823 : Int32))))), .second, .val (.double (own_Q p0 (p1 &&& (2147483647 : Int32)) ((1 : Int32) + (p2 &&& (1073741823 : Int32))))), .second, .val (.long (((10 : Int64) * ((p1 &&& (2147483647 : Int32)).toInt64)) + ((3 : Int64) * (((1 : Int32) + (p2 &&& (1073741823 : Int32))).toInt64)))), .second, .val (.double (own_L p0 (p1 &&& (2147483647 : Int32)) ((1 : Int32) + (p2 &&& (1073741823 : Int32))) (((10 : Int64) * ((p1 &&& (2147483647 : Int32)).toInt64)) + ((3 : Int64) * (((1 : Int32) + (p2 &&& (1073741823 : Int32))).toInt64))))), .second, .val (.double (own_R p0 (p1 &&& (2147483647 : Int32)))), .second, .val (.double (own_df p0 (p1 &&& (2147483647 : Int32)) ((1 : Int32) + (p2 &&& (1073741823 : Int32))) (((10 : Int64) * ((p1 &&& (2147483647 : Int32)).toInt64)) + ((3 : Int64) * (((1 : Int32) + (p2 &&& (1073741823 : Int32))).toInt64))))), .second, .val (.double (FP.dneg (own_R p0 (p1 &&& (2147483647 : Int32))))), .second, .val (.double (own_tol p0 (p1 &&& (2147483647 : Int32)))), .second] [(.double (FP.dneg (own_df p0 (p1 &&& (2147483647 : Int32)) ((1 : Int32) + (p2 &&& (1073741823 : Int32))) (((10 : Int64) * ((p1 &&& (2147483647 : Int32)).toInt64)) + ((3 : Int64) * (((1 : Int32) + (p2 &&& (1073741823 : Int32))).toInt64))))))])) _
      refine XS.dload X_1.here hx rfl (hb hby at_114) rfl ?_
      show Steps p.tables e below (T_1.setTop (mkF m 116 #[.val (.int p0), .val (.int p1), .val (.int p2), .val (.int (p1 &&& (2147483647 : Int32))), .val (.int ((1 : Int32) + (p2 &&& (1073741823 : Int32)))), .val (.double (FP.i2d p0)), .second, .val (.double (own_lf ((1 : Int32) + (p2 &&& (1073741823 : Int32))))), .second, .val (.double (own_Q p0 (p1 &&& (2147483647 : Int32)) ((1 : Int32) + (p2 &&& (1073741823 : Int32))))), .second, .val (.long (((10 : Int64) * ((p1 &&& (2147483647 : Int32)).toInt64)) + ((3 : Int64) * (((1 : Int32) + (p2 &&& (1073741823 : Int32))).toInt64)))), .second, .val (.double (own_L p0 (p1 &&& (2147483647 : Int32)) ((1 : Int32) + (p2 &&& (1073741823 : Int32))) (((10 : Int64) * ((p1 &&& (2147483647 : Int32)).toInt64)) + ((3 : Int64) * (((1 : Int32) + (p2 &&& (1073741823 : Int32))).toInt64))))), .second, .val (.double (own_R p0 (p1 &&& (2147483647 : Int32)))), .second, .val (.double (own_df p0 (p1 &&& (2147483647 : Int32)) ((1 : Int32) + (p2 &&& (1073741823 : Int32))) (((10 : Int64) * ((p1 &&& (2147483647 : Int32)).toInt64)) + ((3 : Int64) * (((1 : Int32) + (p2 &&& (1073741823 : Int32))).toInt64))))), .second, .val (.double (FP.dneg (own_R p0 (p1 &&& (2147483647 : Int32))))), .second, .val (.double (own_tol p0 (p1 &&& (2147483647 : Int32)))), .second] [(.double (own_tol p0 (p1 &&& (2147483647 : Int32)))), (.double (FP.dneg (own_df p0 (p1 &&& (2147483647 : Int32)) ((1 : Int32) + (p2 &&& (1073741823 : Int32))) (((10 : Int64) * ((p1 &&& (2147483647 : Int32)).toInt64)) + ((3 : Int64) * (((1 : Int32) + (p2 &&& (1073741823 : Int32))).toInt64))))))])) _
      refine XS.dcmpS X_1.here hx rfl (hb hby at_116) rfl rfl ?_
      exact k
    refine own_go (B := T_1.setTop (mkF m 120 #[.val (.int p0), .val (.int p1), .val (.int p2), .val (.int (p1 &&& (2147483647 : Int32))), .val (.int ((1 : Int32) + (p2 &&& (1073741823 : Int32)))), .val (.double (FP.i2d p0)), .second, .val (.double (own_lf ((1 : Int32) + (p2 &&& (1073741823 : Int32))))), .second, .val (.double (own_Q p0 (p1 &&& (2147483647 : Int32)) ((1 : Int32) + (p2 &&& (1073741823 : Int32))))), .second, .val (.long (((10 : Int64) * ((p1 &&& (2147483647 : Int32)).toInt64)) + ((3 : Int64) * (((1 : Int32) + (p2 &&& (1073741823 : Int32))).toInt64)))), .second, .val (.double (own_L p0 (p1 &&& (2147483647 : Int32)) ((1 : Int32) + (p2 &&& (1073741823 : Int32))) (((10 : Int64) * ((p1 &&& (2147483647 : Int32)).toInt64)) + ((3 : Int64) * (((1 : Int32) + (p2 &&& (1073741823 : Int32))).toInt64))))), .second, .val (.double (own_R p0 (p1 &&& (2147483647 : Int32)))), .second, .val (.double (own_df p0 (p1 &&& (2147483647 : Int32)) ((1 : Int32) + (p2 &&& (1073741823 : Int32))) (((10 : Int64) * ((p1 &&& (2147483647 : Int32)).toInt64)) + ((3 : Int64) * (((1 : Int32) + (p2 &&& (1073741823 : Int32))).toInt64))))), .second, .val (.double (FP.dneg (own_R p0 (p1 &&& (2147483647 : Int32))))), .second, .val (.double (own_tol p0 (p1 &&& (2147483647 : Int32)))), .second] [])) (fun t k => ?_) ?_
    · show Steps p.tables e below (T_1.setTop (mkF m 117 #[.val (.int p0), .val (.int p1), .val (.int p2), .val (.int (p1 &&& (2147483647 : Int32))), .val (.int ((1 : Int32) + (p2 &&& (1073741823 : Int32)))), .val (.double (FP.i2d p0)), .second, .val (.double (own_lf ((1 : Int32) + (p2 &&& (1073741823 : Int32))))), .second, .val (.double (own_Q p0 (p1 &&& (2147483647 : Int32)) ((1 : Int32) + (p2 &&& (1073741823 : Int32))))), .second, .val (.long (((10 : Int64) * ((p1 &&& (2147483647 : Int32)).toInt64)) + ((3 : Int64) * (((1 : Int32) + (p2 &&& (1073741823 : Int32))).toInt64)))), .second, .val (.double (own_L p0 (p1 &&& (2147483647 : Int32)) ((1 : Int32) + (p2 &&& (1073741823 : Int32))) (((10 : Int64) * ((p1 &&& (2147483647 : Int32)).toInt64)) + ((3 : Int64) * (((1 : Int32) + (p2 &&& (1073741823 : Int32))).toInt64))))), .second, .val (.double (own_R p0 (p1 &&& (2147483647 : Int32)))), .second, .val (.double (own_df p0 (p1 &&& (2147483647 : Int32)) ((1 : Int32) + (p2 &&& (1073741823 : Int32))) (((10 : Int64) * ((p1 &&& (2147483647 : Int32)).toInt64)) + ((3 : Int64) * (((1 : Int32) + (p2 &&& (1073741823 : Int32))).toInt64))))), .second, .val (.double (FP.dneg (own_R p0 (p1 &&& (2147483647 : Int32))))), .second, .val (.double (own_tol p0 (p1 &&& (2147483647 : Int32)))), .second] [(.int (cmpValue (FP.dcmp (FP.dneg (own_df p0 (p1 &&& (2147483647 : Int32)) ((1 : Int32) + (p2 &&& (1073741823 : Int32))) (((10 : Int64) * ((p1 &&& (2147483647 : Int32)).toInt64)) + ((3 : Int64) * (((1 : Int32) + (p2 &&& (1073741823 : Int32))).toInt64))))) (own_tol p0 (p1 &&& (2147483647 : Int32)))) .g))])) _
      refine XS.ifNo X_1.here hx rfl (hb hby at_117) rfl ((if0 _ _).trans (flt g2).2.2.1) ?_
      exact k
    refine own_go (B := T_1.setTop (mkF m 125 #[.val (.int p0), .val (.int p1), .val (.int p2), .val (.int (p1 &&& (2147483647 : Int32))), .val (.int ((1 : Int32) + (p2 &&& (1073741823 : Int32)))), .val (.double (FP.i2d p0)), .second, .val (.double (own_lf ((1 : Int32) + (p2 &&& (1073741823 : Int32))))), .second, .val (.double (own_Q p0 (p1 &&& (2147483647 : Int32)) ((1 : Int32) + (p2 &&& (1073741823 : Int32))))), .second, .val (.long (((10 : Int64) * ((p1 &&& (2147483647 : Int32)).toInt64)) + ((3 : Int64) * (((1 : Int32) + (p2 &&& (1073741823 : Int32))).toInt64)))), .second, .val (.double (own_L p0 (p1 &&& (2147483647 : Int32)) ((1 : Int32) + (p2 &&& (1073741823 : Int32))) (((10 : Int64) * ((p1 &&& (2147483647 : Int32)).toInt64)) + ((3 : Int64) * (((1 : Int32) + (p2 &&& (1073741823 : Int32))).toInt64))))), .second, .val (.double (own_R p0 (p1 &&& (2147483647 : Int32)))), .second, .val (.double (own_df p0 (p1 &&& (2147483647 : Int32)) ((1 : Int32) + (p2 &&& (1073741823 : Int32))) (((10 : Int64) * ((p1 &&& (2147483647 : Int32)).toInt64)) + ((3 : Int64) * (((1 : Int32) + (p2 &&& (1073741823 : Int32))).toInt64))))), .second, .val (.double (FP.dneg (own_R p0 (p1 &&& (2147483647 : Int32))))), .second, .val (.double (own_tol p0 (p1 &&& (2147483647 : Int32)))), .second] [(.int (1 : Int32))])) (fun t k => ?_) ?_
    · show Steps p.tables e below (T_1.setTop (mkF m 120 #[.val (.int p0), .val (.int p1), .val (.int p2), .val (.int (p1 &&& (2147483647 : Int32))), .val (.int ((1 : Int32) + (p2 &&& (1073741823 : Int32)))), .val (.double (FP.i2d p0)), .second, .val (.double (own_lf ((1 : Int32) + (p2 &&& (1073741823 : Int32))))), .second, .val (.double (own_Q p0 (p1 &&& (2147483647 : Int32)) ((1 : Int32) + (p2 &&& (1073741823 : Int32))))), .second, .val (.long (((10 : Int64) * ((p1 &&& (2147483647 : Int32)).toInt64)) + ((3 : Int64) * (((1 : Int32) + (p2 &&& (1073741823 : Int32))).toInt64)))), .second, .val (.double (own_L p0 (p1 &&& (2147483647 : Int32)) ((1 : Int32) + (p2 &&& (1073741823 : Int32))) (((10 : Int64) * ((p1 &&& (2147483647 : Int32)).toInt64)) + ((3 : Int64) * (((1 : Int32) + (p2 &&& (1073741823 : Int32))).toInt64))))), .second, .val (.double (own_R p0 (p1 &&& (2147483647 : Int32)))), .second, .val (.double (own_df p0 (p1 &&& (2147483647 : Int32)) ((1 : Int32) + (p2 &&& (1073741823 : Int32))) (((10 : Int64) * ((p1 &&& (2147483647 : Int32)).toInt64)) + ((3 : Int64) * (((1 : Int32) + (p2 &&& (1073741823 : Int32))).toInt64))))), .second, .val (.double (FP.dneg (own_R p0 (p1 &&& (2147483647 : Int32))))), .second, .val (.double (own_tol p0 (p1 &&& (2147483647 : Int32)))), .second] [])) _
      refine XS.iconst X_1.here hx rfl (hb hby at_120) ?_
      show Steps p.tables e below (T_1.setTop (mkF m 121 #[.val (.int p0), .val (.int p1), .val (.int p2), .val (.int (p1 &&& (2147483647 : Int32))), .val (.int ((1 : Int32) + (p2 &&& (1073741823 : Int32)))), .val (.double (FP.i2d p0)), .second, .val (.double (own_lf ((1 : Int32) + (p2 &&& (1073741823 : Int32))))), .second, .val (.double (own_Q p0 (p1 &&& (2147483647 : Int32)) ((1 : Int32) + (p2 &&& (1073741823 : Int32))))), .second, .val (.long (((10 : Int64) * ((p1 &&& (2147483647 : Int32)).toInt64)) + ((3 : Int64) * (((1 : Int32) + (p2 &&& (1073741823 : Int32))).toInt64)))), .second, .val (.double (own_L p0 (p1 &&& (2147483647 : Int32)) ((1 : Int32) + (p2 &&& (1073741823 : Int32))) (((10 : Int64) * ((p1 &&& (2147483647 : Int32)).toInt64)) + ((3 : Int64) * (((1 : Int32) + (p2 &&& (1073741823 : Int32))).toInt64))))), .second, .val (.double (own_R p0 (p1 &&& (2147483647 : Int32)))), .second, .val (.double (own_df p0 (p1 &&& (2147483647 : Int32)) ((1 : Int32) + (p2 &&& (1073741823 : Int32))) (((10 : Int64) * ((p1 &&& (2147483647 : Int32)).toInt64)) + ((3 : Int64) * (((1 : Int32) + (p2 &&& (1073741823 : Int32))).toInt64))))), .second, .val (.double (FP.dneg (own_R p0 (p1 &&& (2147483647 : Int32))))), .second, .val (.double (own_tol p0 (p1 &&& (2147483647 : Int32)))), .second] [(.int (1 : Int32))])) _
      refine XS.goto X_1.here hx rfl (pc0 := 121) (pc' := 125) rfl (hb hby at_121) (by decide) (by decide) ?_
      exact k
    obtain ⟨fs, hr, hrun, hended, hW, hsame⟩ := X_1.leave (v := some (.int (1 : Int32))) (fun h => by rw [Bd.returns] at h; cases h)
    refine ⟨_, _, ?_, hrun, hended, _, _, rfl, ?_, ⟨_, rfl⟩, hW, hsame.mono (by decide) (by decide)⟩
    · show Steps p.tables e below (T_1.setTop (mkF m 125 #[.val (.int p0), .val (.int p1), .val (.int p2), .val (.int (p1 &&& (2147483647 : Int32))), .val (.int ((1 : Int32) + (p2 &&& (1073741823 : Int32)))), .val (.double (FP.i2d p0)), .second, .val (.double (own_lf ((1 : Int32) + (p2 &&& (1073741823 : Int32))))), .second, .val (.double (own_Q p0 (p1 &&& (2147483647 : Int32)) ((1 : Int32) + (p2 &&& (1073741823 : Int32))))), .second, .val (.long (((10 : Int64) * ((p1 &&& (2147483647 : Int32)).toInt64)) + ((3 : Int64) * (((1 : Int32) + (p2 &&& (1073741823 : Int32))).toInt64)))), .second, .val (.double (own_L p0 (p1 &&& (2147483647 : Int32)) ((1 : Int32) + (p2 &&& (1073741823 : Int32))) (((10 : Int64) * ((p1 &&& (2147483647 : Int32)).toInt64)) + ((3 : Int64) * (((1 : Int32) + (p2 &&& (1073741823 : Int32))).toInt64))))), .second, .val (.double (own_R p0 (p1 &&& (2147483647 : Int32)))), .second, .val (.double (own_df p0 (p1 &&& (2147483647 : Int32)) ((1 : Int32) + (p2 &&& (1073741823 : Int32))) (((10 : Int64) * ((p1 &&& (2147483647 : Int32)).toInt64)) + ((3 : Int64) * (((1 : Int32) + (p2 &&& (1073741823 : Int32))).toInt64))))), .second, .val (.double (FP.dneg (own_R p0 (p1 &&& (2147483647 : Int32))))), .second, .val (.double (own_tol p0 (p1 &&& (2147483647 : Int32)))), .second] [(.int (1 : Int32))])) _
      exact retN X_1 hx (t := .boolean) Bd.returns (by simp) (hb hby at_125) hr
    · show Q0 Z p0 p1 p2 h0 n0 _ T_1.heap _
      rw [e_1]
      exact ⟨rfl, N_1, trivial⟩
  · have e82 : (own_tol p0 (p1 &&& (2147483647 : Int32))) = FP.dmul 4427486594234968593 (own_R p0 (p1 &&& (2147483647 : Int32))) := congrArg (FP.dmul 4427486594234968593) (if_neg hc82)
    refine own_go (B := T_1.setTop (mkF m 91 #[.val (.int p0), .val (.int p1), .val (.int p2), .val (.int (p1 &&& (2147483647 : Int32))), .val (.int ((1 : Int32) + (p2 &&& (1073741823 : Int32)))), .val (.double (FP.i2d p0)), .second, .val (.double (own_lf ((1 : Int32) + (p2 &&& (1073741823 : Int32))))), .second, .val (.double (own_Q p0 (p1 &&& (2147483647 : Int32)) ((1 : Int32) + (p2 &&& (1073741823 : Int32))))), .second, .val (.long (((10 : Int64) * ((p1 &&& (2147483647 : Int32)).toInt64)) + ((3 : Int64) * (((1 : Int32) + (p2 &&& (1073741823 : Int32))).toInt64)))), .second, .val (.double (own_L p0 (p1 &&& (2147483647 : Int32)) ((1 : Int32) + (p2 &&& (1073741823 : Int32))) (((10 : Int64) * ((p1 &&& (2147483647 : Int32)).toInt64)) + ((3 : Int64) * (((1 : Int32) + (p2 &&& (1073741823 : Int32))).toInt64))))), .second, .val (.double (own_R p0 (p1 &&& (2147483647 : Int32)))), .second, .val (.double (own_df p0 (p1 &&& (2147483647 : Int32)) ((1 : Int32) + (p2 &&& (1073741823 : Int32))) (((10 : Int64) * ((p1 &&& (2147483647 : Int32)).toInt64)) + ((3 : Int64) * (((1 : Int32) + (p2 &&& (1073741823 : Int32))).toInt64))))), .second, .unset, .unset, .unset, .unset] [])) (fun t k => ?_) ?_
    · show Steps p.tables e below (T_1.setTop (mkF m 82 #[.val (.int p0), .val (.int p1), .val (.int p2), .val (.int (p1 &&& (2147483647 : Int32))), .val (.int ((1 : Int32) + (p2 &&& (1073741823 : Int32)))), .val (.double (FP.i2d p0)), .second, .val (.double (own_lf ((1 : Int32) + (p2 &&& (1073741823 : Int32))))), .second, .val (.double (own_Q p0 (p1 &&& (2147483647 : Int32)) ((1 : Int32) + (p2 &&& (1073741823 : Int32))))), .second, .val (.long (((10 : Int64) * ((p1 &&& (2147483647 : Int32)).toInt64)) + ((3 : Int64) * (((1 : Int32) + (p2 &&& (1073741823 : Int32))).toInt64)))), .second, .val (.double (own_L p0 (p1 &&& (2147483647 : Int32)) ((1 : Int32) + (p2 &&& (1073741823 : Int32))) (((10 : Int64) * ((p1 &&& (2147483647 : Int32)).toInt64)) + ((3 : Int64) * (((1 : Int32) + (p2 &&& (1073741823 : Int32))).toInt64))))), .second, .val (.double (own_R p0 (p1 &&& (2147483647 : Int32)))), .second, .val (.double (own_df p0 (p1 &&& (2147483647 : Int32)) ((1 : Int32) + (p2 &&& (1073741823 : Int32))) (((10 : Int64) * ((p1 &&& (2147483647 : Int32)).toInt64)) + ((3 : Int64) * (((1 : Int32) + (p2 &&& (1073741823 : Int32))).toInt64))))), .second, .unset, .unset, .unset, .unset] [(.int (cmpValue (FP.dcmp (own_R p0 (p1 &&& (2147483647 : Int32))) 0) .g))])) _
      refine XS.ifYes X_1.here hx rfl (pc0 := 82) (pc' := 91) rfl (hb hby at_82) rfl ((if0 _ _).trans (flt hc82).2.1) (by decide) (by decide) ?_
      exact k
    refine own_go (B := T_1.setTop (mkF m 108 #[.val (.int p0), .val (.int p1), .val (.int p2), .val (.int (p1 &&& (2147483647 : Int32))), .val (.int ((1 : Int32) + (p2 &&& (1073741823 : Int32)))), .val (.double (FP.i2d p0)), .second, .val (.double (own_lf ((1 : Int32) + (p2 &&& (1073741823 : Int32))))), .second, .val (.double (own_Q p0 (p1 &&& (2147483647 : Int32)) ((1 : Int32) + (p2 &&& (1073741823 : Int32))))), .second, .val (.long (((10 : Int64) * ((p1 &&& (2147483647 : Int32)).toInt64)) + ((3 : Int64) * (((1 : Int32) + (p2 &&& (1073741823 : Int32))).toInt64)))), .second, .val (.double (own_L p0 (p1 &&& (2147483647 : Int32)) ((1 : Int32) + (p2 &&& (1073741823 : Int32))) (((10 : Int64) * ((p1 &&& (2147483647 : Int32)).toInt64)) + ((3 : Int64) * (((1 : Int32) + (p2 &&& (1073741823 : Int32))).toInt64))))), .second, .val (.double (own_R p0 (p1 &&& (2147483647 : Int32)))), .second, .val (.double (own_df p0 (p1 &&& (2147483647 : Int32)) ((1 : Int32) + (p2 &&& (1073741823 : Int32))) (((10 : Int64) * ((p1 &&& (2147483647 : Int32)).toInt64)) + ((3 : Int64) * (((1 : Int32) + (p2 &&& (1073741823 : Int32))).toInt64))))), .second, .val (.double (own_R p0 (p1 &&& (2147483647 : Int32)))), .second, .val (.double (own_tol p0 (p1 &&& (2147483647 : Int32)))), .second] [(.int (cmpValue (FP.dcmp (own_df p0 (p1 &&& (2147483647 : Int32)) ((1 : Int32) + (p2 &&& (1073741823 : Int32))) (((10 : Int64) * ((p1 &&& (2147483647 : Int32)).toInt64)) + ((3 : Int64) * (((1 : Int32) + (p2 &&& (1073741823 : Int32))).toInt64)))) (own_tol p0 (p1 &&& (2147483647 : Int32)))) .g))])) (fun t k => ?_) ?_
    · show Steps p.tables e below (T_1.setTop (mkF m 91 #[.val (.int p0), .val (.int p1), .val (.int p2), .val (.int (p1 &&& (2147483647 : Int32))), .val (.int ((1 : Int32) + (p2 &&& (1073741823 : Int32)))), .val (.double (FP.i2d p0)), .second, .val (.double (own_lf ((1 : Int32) + (p2 &&& (1073741823 : Int32))))), .second, .val (.double (own_Q p0 (p1 &&& (2147483647 : Int32)) ((1 : Int32) + (p2 &&& (1073741823 : Int32))))), .second, .val (.long (((10 : Int64) * ((p1 &&& (2147483647 : Int32)).toInt64)) + ((3 : Int64) * (((1 : Int32) + (p2 &&& (1073741823 : Int32))).toInt64)))), .second, .val (.double (own_L p0 (p1 &&& (2147483647 : Int32)) ((1 : Int32) + (p2 &&& (1073741823 : Int32))) (((10 : Int64) * ((p1 &&& (2147483647 : Int32)).toInt64)) + ((3 : Int64) * (((1 : Int32) + (p2 &&& (1073741823 : Int32))).toInt64))))), .second, .val (.double (own_R p0 (p1 &&& (2147483647 : Int32)))), .second, .val (.double (own_df p0 (p1 &&& (2147483647 : Int32)) ((1 : Int32) + (p2 &&& (1073741823 : Int32))) (((10 : Int64) * ((p1 &&& (2147483647 : Int32)).toInt64)) + ((3 : Int64) * (((1 : Int32) + (p2 &&& (1073741823 : Int32))).toInt64))))), .second, .unset, .unset, .unset, .unset] [])) _
      refine XS.dload X_1.here hx rfl (hb hby at_91) rfl ?_
      show Steps p.tables e below (T_1.setTop (mkF m 93 #[.val (.int p0), .val (.int p1), .val (.int p2), .val (.int (p1 &&& (2147483647 : Int32))), .val (.int ((1 : Int32) + (p2 &&& (1073741823 : Int32)))), .val (.double (FP.i2d p0)), .second, .val (.double (own_lf ((1 : Int32) + (p2 &&& (1073741823 : Int32))))), .second, .val (.double (own_Q p0 (p1 &&& (2147483647 : Int32)) ((1 : Int32) + (p2 &&& (1073741823 : Int32))))), .second, .val (.long (((10 : Int64) * ((p1 &&& (2147483647 : Int32)).toInt64)) + ((3 : Int64) * (((1 : Int32) + (p2 &&& (1073741823 : Int32))).toInt64)))), .second, .val (.double (own_L p0 (p1 &&& (2147483647 : Int32)) ((1 : Int32) + (p2 &&& (1073741823 : Int32))) (((10 : Int64) * ((p1 &&& (2147483647 : Int32)).toInt64)) + ((3 : Int64) * (((1 : Int32) + (p2 &&& (1073741823 : Int32))).toInt64))))), .second, .val (.double (own_R p0 (p1 &&& (2147483647 : Int32)))), .second, .val (.double (own_df p0 (p1 &&& (2147483647 : Int32)) ((1 : Int32) + (p2 &&& (1073741823 : Int32))) (((10 : Int64) * ((p1 &&& (2147483647 : Int32)).toInt64)) + ((3 : Int64) * (((1 : Int32) + (p2 &&& (1073741823 : Int32))).toInt64))))), .second, .unset, .unset, .unset, .unset] [(.double (own_R p0 (p1 &&& (2147483647 : Int32))))])) _
      refine XS.dstore X_1.here hx rfl (hb hby at_93) rfl (l' := #[.val (.int p0), .val (.int p1), .val (.int p2), .val (.int (p1 &&& (2147483647 : Int32))), .val (.int ((1 : Int32) + (p2 &&& (1073741823 : Int32)))), .val (.double (FP.i2d p0)), .second, .val (.double (own_lf ((1 : Int32) + (p2 &&& (1073741823 : Int32))))), .second, .val (.double (own_Q p0 (p1 &&& (2147483647 : Int32)) ((1 : Int32) + (p2 &&& (1073741823 : Int32))))), .second, .val (.long (((10 : Int64) * ((p1 &&& (2147483647 : Int32)).toInt64)) + ((3 : Int64) * (((1 : Int32) + (p2 &&& (1073741823 : Int32))).toInt64)))), .second, .val (.double (own_L p0 (p1 &&& (2147483647 : Int32)) ((1 : Int32) + (p2 &&& (1073741823 : Int32))) (((10 : Int64) * ((p1 &&& (2147483647 : Int32)).toInt64)) + ((3 : Int64) * (((1 : Int32) + (p2 &&& (1073741823 : Int32))).toInt64))))), .second, .val (.double (own_R p0 (p1 &&& (2147483647 : Int32)))), .second, .val (.double (own_df p0 (p1 &&& (2147483647 : Int32)) ((1 : Int32) + (p2 &&& (1073741823 : Int32))) (((10 : Int64) * ((p1 &&& (2147483647 : Int32)).toInt64)) + ((3 : Int64) * (((1 : Int32) + (p2 &&& (1073741823 : Int32))).toInt64))))), .second, .val (.double (own_R p0 (p1 &&& (2147483647 : Int32)))), .second, .unset, .unset]) rfl ?_
      show Steps p.tables e below (T_1.setTop (mkF m 95 #[.val (.int p0), .val (.int p1), .val (.int p2), .val (.int (p1 &&& (2147483647 : Int32))), .val (.int ((1 : Int32) + (p2 &&& (1073741823 : Int32)))), .val (.double (FP.i2d p0)), .second, .val (.double (own_lf ((1 : Int32) + (p2 &&& (1073741823 : Int32))))), .second, .val (.double (own_Q p0 (p1 &&& (2147483647 : Int32)) ((1 : Int32) + (p2 &&& (1073741823 : Int32))))), .second, .val (.long (((10 : Int64) * ((p1 &&& (2147483647 : Int32)).toInt64)) + ((3 : Int64) * (((1 : Int32) + (p2 &&& (1073741823 : Int32))).toInt64)))), .second, .val (.double (own_L p0 (p1 &&& (2147483647 : Int32)) ((1 : Int32) + (p2 &&& (1073741823 : Int32))) (((10 : Int64) * ((p1 &&& (2147483647 : Int32)).toInt64)) + ((3 : Int64) * (((1 : Int32) + (p2 &&& (1073741823 : Int32))).toInt64))))), .second, .val (.double (own_R p0 (p1 &&& (2147483647 : Int32)))), .second, .val (.double (own_df p0 (p1 &&& (2147483647 : Int32)) ((1 : Int32) + (p2 &&& (1073741823 : Int32))) (((10 : Int64) * ((p1 &&& (2147483647 : Int32)).toInt64)) + ((3 : Int64) * (((1 : Int32) + (p2 &&& (1073741823 : Int32))).toInt64))))), .second, .val (.double (own_R p0 (p1 &&& (2147483647 : Int32)))), .second, .unset, .unset] [])) _
      refine X_1.ldc2DoubleC hx hown (mvT hZ (hw _ (List.mem_of_getElem? (i := 11) rfl))) (g := (mkF m 95 #[.val (.int p0), .val (.int p1), .val (.int p2), .val (.int (p1 &&& (2147483647 : Int32))), .val (.int ((1 : Int32) + (p2 &&& (1073741823 : Int32)))), .val (.double (FP.i2d p0)), .second, .val (.double (own_lf ((1 : Int32) + (p2 &&& (1073741823 : Int32))))), .second, .val (.double (own_Q p0 (p1 &&& (2147483647 : Int32)) ((1 : Int32) + (p2 &&& (1073741823 : Int32))))), .second, .val (.long (((10 : Int64) * ((p1 &&& (2147483647 : Int32)).toInt64)) + ((3 : Int64) * (((1 : Int32) + (p2 &&& (1073741823 : Int32))).toInt64)))), .second, .val (.double (own_L p0 (p1 &&& (2147483647 : Int32)) ((1 : Int32) + (p2 &&& (1073741823 : Int32))) (((10 : Int64) * ((p1 &&& (2147483647 : Int32)).toInt64)) + ((3 : Int64) * (((1 : Int32) + (p2 &&& (1073741823 : Int32))).toInt64))))), .second, .val (.double (own_R p0 (p1 &&& (2147483647 : Int32)))), .second, .val (.double (own_df p0 (p1 &&& (2147483647 : Int32)) ((1 : Int32) + (p2 &&& (1073741823 : Int32))) (((10 : Int64) * ((p1 &&& (2147483647 : Int32)).toInt64)) + ((3 : Int64) * (((1 : Int32) + (p2 &&& (1073741823 : Int32))).toInt64))))), .second, .val (.double (own_R p0 (p1 &&& (2147483647 : Int32)))), .second, .unset, .unset] [])) rfl (hb hby at_95) _ ?_
      show Steps p.tables e below (T_1.setTop (mkF m 98 #[.val (.int p0), .val (.int p1), .val (.int p2), .val (.int (p1 &&& (2147483647 : Int32))), .val (.int ((1 : Int32) + (p2 &&& (1073741823 : Int32)))), .val (.double (FP.i2d p0)), .second, .val (.double (own_lf ((1 : Int32) + (p2 &&& (1073741823 : Int32))))), .second, .val (.double (own_Q p0 (p1 &&& (2147483647 : Int32)) ((1 : Int32) + (p2 &&& (1073741823 : Int32))))), .second, .val (.long (((10 : Int64) * ((p1 &&& (2147483647 : Int32)).toInt64)) + ((3 : Int64) * (((1 : Int32) + (p2 &&& (1073741823 : Int32))).toInt64)))), .second, .val (.double (own_L p0 (p1 &&& (2147483647 : Int32)) ((1 : Int32) + (p2 &&& (1073741823 : Int32))) (((10 : Int64) * ((p1 &&& (2147483647 : Int32)).toInt64)) + ((3 : Int64) * (((1 : Int32) + (p2 &&& (1073741823 : Int32))).toInt64))))), .second, .val (.double (own_R p0 (p1 &&& (2147483647 : Int32)))), .second, .val (.double (own_df p0 (p1 &&& (2147483647 : Int32)) ((1 : Int32) + (p2 &&& (1073741823 : Int32))) (((10 : Int64) * ((p1 &&& (2147483647 : Int32)).toInt64)) + ((3 : Int64) * (((1 : Int32) + (p2 &&& (1073741823 : Int32))).toInt64))))), .second, .val (.double (own_R p0 (p1 &&& (2147483647 : Int32)))), .second, .unset, .unset] [(.double 4427486594234968593)])) _
      refine XS.dload X_1.here hx rfl (hb hby at_98) rfl ?_
      show Steps p.tables e below (T_1.setTop (mkF m 100 #[.val (.int p0), .val (.int p1), .val (.int p2), .val (.int (p1 &&& (2147483647 : Int32))), .val (.int ((1 : Int32) + (p2 &&& (1073741823 : Int32)))), .val (.double (FP.i2d p0)), .second, .val (.double (own_lf ((1 : Int32) + (p2 &&& (1073741823 : Int32))))), .second, .val (.double (own_Q p0 (p1 &&& (2147483647 : Int32)) ((1 : Int32) + (p2 &&& (1073741823 : Int32))))), .second, .val (.long (((10 : Int64) * ((p1 &&& (2147483647 : Int32)).toInt64)) + ((3 : Int64) * (((1 : Int32) + (p2 &&& (1073741823 : Int32))).toInt64)))), .second, .val (.double (own_L p0 (p1 &&& (2147483647 : Int32)) ((1 : Int32) + (p2 &&& (1073741823 : Int32))) (((10 : Int64) * ((p1 &&& (2147483647 : Int32)).toInt64)) + ((3 : Int64) * (((1 : Int32) + (p2 &&& (1073741823 : Int32))).toInt64))))), .second, .val (.double (own_R p0 (p1 &&& (2147483647 : Int32)))), .second, .val (.double (own_df p0 (p1 &&& (2147483647 : Int32)) ((1 : Int32) + (p2 &&& (1073741823 : Int32))) (((10 : Int64) * ((p1 &&& (2147483647 : Int32)).toInt64)) + ((3 : Int64) * (((1 : Int32) + (p2 &&& (1073741823 : Int32))).toInt64))))), .second, .val (.double (own_R p0 (p1 &&& (2147483647 : Int32)))), .second, .unset, .unset] [(.double (own_R p0 (p1 &&& (2147483647 : Int32)))), (.double 4427486594234968593)])) _
      refine XS.dmulS X_1.here hx rfl (hb hby at_100) rfl (by rw [← e82]; exact (Jvm.Free.Fl.val64_no.mpr (fT).nn)) e82.symm ?_
      show Steps p.tables e below (T_1.setTop (mkF m 101 #[.val (.int p0), .val (.int p1), .val (.int p2), .val (.int (p1 &&& (2147483647 : Int32))), .val (.int ((1 : Int32) + (p2 &&& (1073741823 : Int32)))), .val (.double (FP.i2d p0)), .second, .val (.double (own_lf ((1 : Int32) + (p2 &&& (1073741823 : Int32))))), .second, .val (.double (own_Q p0 (p1 &&& (2147483647 : Int32)) ((1 : Int32) + (p2 &&& (1073741823 : Int32))))), .second, .val (.long (((10 : Int64) * ((p1 &&& (2147483647 : Int32)).toInt64)) + ((3 : Int64) * (((1 : Int32) + (p2 &&& (1073741823 : Int32))).toInt64)))), .second, .val (.double (own_L p0 (p1 &&& (2147483647 : Int32)) ((1 : Int32) + (p2 &&& (1073741823 : Int32))) (((10 : Int64) * ((p1 &&& (2147483647 : Int32)).toInt64)) + ((3 : Int64) * (((1 : Int32) + (p2 &&& (1073741823 : Int32))).toInt64))))), .second, .val (.double (own_R p0 (p1 &&& (2147483647 : Int32)))), .second, .val (.double (own_df p0 (p1 &&& (2147483647 : Int32)) ((1 : Int32) + (p2 &&& (1073741823 : Int32))) (((10 : Int64) * ((p1 &&& (2147483647 : Int32)).toInt64)) + ((3 : Int64) * (((1 : Int32) + (p2 &&& (1073741823 : Int32))).toInt64))))), .second, .val (.double (own_R p0 (p1 &&& (2147483647 : Int32)))), .second, .unset, .unset] [(.double (own_tol p0 (p1 &&& (2147483647 : Int32))))])) _
      refine XS.dstore X_1.here hx rfl (hb hby at_101) rfl (l' := #[.val (.int p0), .val (.int p1), .val (.int p2), .val (.int (p1 &&& (2147483647 : Int32))), .val (.int ((1 : Int32) + (p2 &&& (1073741823 : Int32)))), .val (.double (FP.i2d p0)), .second, .val (.double (own_lf ((1 : Int32) + (p2 &&& (1073741823 : Int32))))), .second, .val (.double (own_Q p0 (p1 &&& (2147483647 : Int32)) ((1 : Int32) + (p2 &&& (1073741823 : Int32))))), .second, .val (.long (((10 : Int64) * ((p1 &&& (2147483647 : Int32)).toInt64)) + ((3 : Int64) * (((1 : Int32) + (p2 &&& (1073741823 : Int32))).toInt64)))), .second, .val (.double (own_L p0 (p1 &&& (2147483647 : Int32)) ((1 : Int32) + (p2 &&& (1073741823 : Int32))) (((10 : Int64) * ((p1 &&& (2147483647 : Int32)).toInt64)) + ((3 : Int64) * (((1 : Int32) + (p2 &&& (1073741823 : Int32))).toInt64))))), .second, .val (.double (own_R p0 (p1 &&& (2147483647 : Int32)))), .second, .val (.double (own_df p0 (p1 &&& (2147483647 : Int32)) ((1 : Int32) + (p2 &&& (1073741823 : Int32))) (((10 : Int64) * ((p1 &&& (2147483647 : Int32)).toInt64)) + ((3 : Int64) * (((1 : Int32) + (p2 &&& (1073741823 : Int32))).toInt64))))), .second, .val (.double (own_R p0 (p1 &&& (2147483647 : Int32)))), .second, .val (.double (own_tol p0 (p1 &&& (2147483647 : Int32)))), .second]) rfl ?_
      show Steps p.tables e below (T_1.setTop (mkF m 103 #[.val (.int p0), .val (.int p1), .val (.int p2), .val (.int (p1 &&& (2147483647 : Int32))), .val (.int ((1 : Int32) + (p2 &&& (1073741823 : Int32)))), .val (.double (FP.i2d p0)), .second, .val (.double (own_lf ((1 : Int32) + (p2 &&& (1073741823 : Int32))))), .second, .val (.double (own_Q p0 (p1 &&& (2147483647 : Int32)) ((1 : Int32) + (p2 &&& (1073741823 : Int32))))), .second, .val (.long (((10 : Int64) * ((p1 &&& (2147483647 : Int32)).toInt64)) + ((3 : Int64) * (((1 : Int32) + (p2 &&& (1073741823 : Int32))).toInt64)))), .second, .val (.double (own_L p0 (p1 &&& (2147483647 : Int32)) ((1 : Int32) + (p2 &&& (1073741823 : Int32))) (((10 : Int64) * ((p1 &&& (2147483647 : Int32)).toInt64)) + ((3 : Int64) * (((1 : Int32) + (p2 &&& (1073741823 : Int32))).toInt64))))), .second, .val (.double (own_R p0 (p1 &&& (2147483647 : Int32)))), .second, .val (.double (own_df p0 (p1 &&& (2147483647 : Int32)) ((1 : Int32) + (p2 &&& (1073741823 : Int32))) (((10 : Int64) * ((p1 &&& (2147483647 : Int32)).toInt64)) + ((3 : Int64) * (((1 : Int32) + (p2 &&& (1073741823 : Int32))).toInt64))))), .second, .val (.double (own_R p0 (p1 &&& (2147483647 : Int32)))), .second, .val (.double (own_tol p0 (p1 &&& (2147483647 : Int32)))), .second] [])) _
      refine XS.dload X_1.here hx rfl (hb hby at_103) rfl ?_
      show Steps p.tables e below (T_1.setTop (mkF m 105 #[.val (.int p0), .val (.int p1), .val (.int p2), .val (.int (p1 &&& (2147483647 : Int32))), .val (.int ((1 : Int32) + (p2 &&& (1073741823 : Int32)))), .val (.double (FP.i2d p0)), .second, .val (.double (own_lf ((1 : Int32) + (p2 &&& (1073741823 : Int32))))), .second, .val (.double (own_Q p0 (p1 &&& (2147483647 : Int32)) ((1 : Int32) + (p2 &&& (1073741823 : Int32))))), .second, .val (.long (((10 : Int64) * ((p1 &&& (2147483647 : Int32)).toInt64)) + ((3 : Int64) * (((1 : Int32) + (p2 &&& (1073741823 : Int32))).toInt64)))), .second, .val (.double (own_L p0 (p1 &&& (2147483647 : Int32)) ((1 : Int32) + (p2 &&& (1073741823 : Int32))) (((10 : Int64) * ((p1 &&& (2147483647 : Int32)).toInt64)) + ((3 : Int64) * (((1 : Int32) + (p2 &&& (1073741823 : Int32))).toInt64))))), .second, .val (.double (own_R p0 (p1 &&& (2147483647 : Int32)))), .second, .val (.double (own_df p0 (p1 &&& (2147483647 : Int32)) ((1 : Int32) + (p2 &&& (1073741823 : Int32))) (((10 : Int64) * ((p1 &&& (2147483647 : Int32)).toInt64)) + ((3 : Int64) * (((1 : Int32) + (p2 &&& (1073741823 : Int32))).toInt64))))), .second, .val (.double (own_R p0 (p1 &&& (2147483647 : Int32)))), .second, .val (.double (own_tol p0 (p1 &&& (2147483647 : Int32)))), .second] [(.double (own_df p0 (p1 &&& (2147483647 : Int32)) ((1 : Int32) + (p2 &&& (1073741823 : Int32))) (((10 : Int64) * ((p1 &&& (2147483647 : Int32)).toInt64)) + ((3 : Int64) * (((1 : Int32) + (p2 &&& (1073741823 : Int32))).toInt64)))))])) _
      refine XS.dload X_1.here hx rfl (hb hby at_105) rfl ?_
      show Steps p.tables e below (T_1.setTop (mkF m 107 #[.val (.int p0), .val (.int p1), .val (.int p2), .val (.int (p1 &&& (2147483647 : Int32))), .val (.int ((1 : Int32) + (p2 &&& (1073741823 : Int32)))), .val (.double (FP.i2d p0)), .second, .val (.double (own_lf ((1 : Int32) + (p2 &&& (1073741823 : Int32))))), .second, .val (.double (own_Q p0 (p1 &&& (2147483647 : Int32)) ((1 : Int32) + (p2 &&& (1073741823 : Int32))))), .second, .val (.long (((10 : Int64) * ((p1 &&& (2147483647 : Int32)).toInt64)) + ((3 : Int64) * (((1 : Int32) + (p2 &&& (1073741823 : Int32))).toInt64)))), .second, .val (.double (own_L p0 (p1 &&& (2147483647 : Int32)) ((1 : Int32) + (p2 &&& (1073741823 : Int32))) (((10 : Int64) * ((p1 &&& (2147483647 : Int32)).toInt64)) + ((3 : Int64) * (((1 : Int32) + (p2 &&& (1073741823 : Int32))).toInt64))))), .second, .val (.double (own_R p0 (p1 &&& (2147483647 : Int32)))), .second, .val (.double (own_df p0 (p1 &&& (2147483647 : Int32)) ((1 : Int32) + (p2 &&& (1073741823 : Int32))) (((10 : Int64) * ((p1 &&& (2147483647 : Int32)).toInt64)) + ((3 : Int64) * (((1 : Int32) + (p2 &&& (1073741823 : Int32))).toInt64))))), .second, .val (.double (own_R p0 (p1 &&& (2147483647 : Int32)))), .second, .val (.double (own_tol p0 (p1 &&& (2147483647 : Int32)))), .second] [(.double (own_tol p0 (p1 &&& (2147483647 : Int32)))), (.double (own_df p0 (p1 &&& (2147483647 : Int32)) ((1 : Int32) + (p2 &&& (1073741823 : Int32))) (((10 : Int64) * ((p1 &&& (2147483647 : Int32)).toInt64)) + ((3 : Int64) * (((1 : Int32) + (p2 &&& (1073741823 : Int32))).toInt64)))))])) _
      refine XS.dcmpS X_1.here hx rfl (hb hby at_107) rfl rfl ?_
      exact k
    refine own_go (B := T_1.setTop (mkF m 111 #[.val (.int p0), .val (.int p1), .val (.int p2), .val (.int (p1 &&& (2147483647 : Int32))), .val (.int ((1 : Int32) + (p2 &&& (1073741823 : Int32)))), .val (.double (FP.i2d p0)), .second, .val (.double (own_lf ((1 : Int32) + (p2 &&& (1073741823 : Int32))))), .second, .val (.double (own_Q p0 (p1 &&& (2147483647 : Int32)) ((1 : Int32) + (p2 &&& (1073741823 : Int32))))), .second, .val (.long (((10 : Int64) * ((p1 &&& (2147483647 : Int32)).toInt64)) + ((3 : Int64) * (((1 : Int32) + (p2 &&& (1073741823 : Int32))).toInt64)))), .second, .val (.double (own_L p0 (p1 &&& (2147483647 : Int32)) ((1 : Int32) + (p2 &&& (1073741823 : Int32))) (((10 : Int64) * ((p1 &&& (2147483647 : Int32)).toInt64)) + ((3 : Int64) * (((1 : Int32) + (p2 &&& (1073741823 : Int32))).toInt64))))), .second, .val (.double (own_R p0 (p1 &&& (2147483647 : Int32)))), .second, .val (.double (own_df p0 (p1 &&& (2147483647 : Int32)) ((1 : Int32) + (p2 &&& (1073741823 : Int32))) (((10 : Int64) * ((p1 &&& (2147483647 : Int32)).toInt64)) + ((3 : Int64) * (((1 : Int32) + (p2 &&& (1073741823 : Int32))).toInt64))))), .second, .val (.double (own_R p0 (p1 &&& (2147483647 : Int32)))), .second, .val (.double (own_tol p0 (p1 &&& (2147483647 : Int32)))), .second] [])) (fun t k => ?_) ?_
    · show Steps p.tables e below (T_1.setTop (mkF m 108 #[.val (.int p0), .val (.int p1), .val (.int p2), .val (.int (p1 &&& (2147483647 : Int32))), .val (.int ((1 : Int32) + (p2 &&& (1073741823 : Int32)))), .val (.double (FP.i2d p0)), .second, .val (.double (own_lf ((1 : Int32) + (p2 &&& (1073741823 : Int32))))), .second, .val (.double (own_Q p0 (p1 &&& (2147483647 : Int32)) ((1 : Int32) + (p2 &&& (1073741823 : Int32))))), .second, .val (.long (((10 : Int64) * ((p1 &&& (2147483647 : Int32)).toInt64)) + ((3 : Int64) * (((1 : Int32) + (p2 &&& (1073741823 : Int32))).toInt64)))), .second, .val (.double (own_L p0 (p1 &&& (2147483647 : Int32)) ((1 : Int32) + (p2 &&& (1073741823 : Int32))) (((10 : Int64) * ((p1 &&& (2147483647 : Int32)).toInt64)) + ((3 : Int64) * (((1 : Int32) + (p2 &&& (1073741823 : Int32))).toInt64))))), .second, .val (.double (own_R p0 (p1 &&& (2147483647 : Int32)))), .second, .val (.double (own_df p0 (p1 &&& (2147483647 : Int32)) ((1 : Int32) + (p2 &&& (1073741823 : Int32))) (((10 : Int64) * ((p1 &&& (2147483647 : Int32)).toInt64)) + ((3 : Int64) * (((1 : Int32) + (p2 &&& (1073741823 : Int32))).toInt64))))), .second, .val (.double (own_R p0 (p1 &&& (2147483647 : Int32)))), .second, .val (.double (own_tol p0 (p1 &&& (2147483647 : Int32)))), .second] [(.int (cmpValue (FP.dcmp (own_df p0 (p1 &&& (2147483647 : Int32)) ((1 : Int32) + (p2 &&& (1073741823 : Int32))) (((10 : Int64) * ((p1 &&& (2147483647 : Int32)).toInt64)) + ((3 : Int64) * (((1 : Int32) + (p2 &&& (1073741823 : Int32))).toInt64)))) (own_tol p0 (p1 &&& (2147483647 : Int32)))) .g))])) _
      refine XS.ifNo X_1.here hx rfl (hb hby at_108) rfl ((if0 _ _).trans (flt g1).2.2.1) ?_
      exact k
    refine own_go (B := T_1.setTop (mkF m 117 #[.val (.int p0), .val (.int p1), .val (.int p2), .val (.int (p1 &&& (2147483647 : Int32))), .val (.int ((1 : Int32) + (p2 &&& (1073741823 : Int32)))), .val (.double (FP.i2d p0)), .second, .val (.double (own_lf ((1 : Int32) + (p2 &&& (1073741823 : Int32))))), .second, .val (.double (own_Q p0 (p1 &&& (2147483647 : Int32)) ((1 : Int32) + (p2 &&& (1073741823 : Int32))))), .second, .val (.long (((10 : Int64) * ((p1 &&& (2147483647 : Int32)).toInt64)) + ((3 : Int64) * (((1 : Int32) + (p2 &&& (1073741823 : Int32))).toInt64)))), .second, .val (.double (own_L p0 (p1 &&& (2147483647 : Int32)) ((1 : Int32) + (p2 &&& (1073741823 : Int32))) (((10 : Int64) * ((p1 &&& (2147483647 : Int32)).toInt64)) + ((3 : Int64) * (((1 : Int32) + (p2 &&& (1073741823 : Int32))).toInt64))))), .second, .val (.double (own_R p0 (p1 &&& (2147483647 : Int32)))), .second, .val (.double (own_df p0 (p1 &&& (2147483647 : Int32)) ((1 : Int32) + (p2 &&& (1073741823 : Int32))) (((10 : Int64) * ((p1 &&& (2147483647 : Int32)).toInt64)) + ((3 : Int64) * (((1 : Int32) + (p2 &&& (1073741823 : Int32))).toInt64))))), .second, .val (.double (own_R p0 (p1 &&& (2147483647 : Int32)))), .second, .val (.double (own_tol p0 (p1 &&& (2147483647 : Int32)))), .second] [(.int (cmpValue (FP.dcmp (FP.dneg (own_df p0 (p1 &&& (2147483647 : Int32)) ((1 : Int32) + (p2 &&& (1073741823 : Int32))) (((10 : Int64) * ((p1 &&& (2147483647 : Int32)).toInt64)) + ((3 : Int64) * (((1 : Int32) + (p2 &&& (1073741823 : Int32))).toInt64))))) (own_tol p0 (p1 &&& (2147483647 : Int32)))) .g))])) (fun t k => ?_) ?_
    · show Steps p.tables e below (T_1.setTop (mkF m 111 #[.val (.int p0), .val (.int p1), .val (.int p2), .val (.int (p1 &&& (2147483647 : Int32))), .val (.int ((1 : Int32) + (p2 &&& (1073741823 : Int32)))), .val (.double (FP.i2d p0)), .second, .val (.double (own_lf ((1 : Int32) + (p2 &&& (1073741823 : Int32))))), .second, .val (.double (own_Q p0 (p1 &&& (2147483647 : Int32)) ((1 : Int32) + (p2 &&& (1073741823 : Int32))))), .second, .val (.long (((10 : Int64) * ((p1 &&& (2147483647 : Int32)).toInt64)) + ((3 : Int64) * (((1 : Int32) + (p2 &&& (1073741823 : Int32))).toInt64)))), .second, .val (.double (own_L p0 (p1 &&& (2147483647 : Int32)) ((1 : Int32) + (p2 &&& (1073741823 : Int32))) (((10 : Int64) * ((p1 &&& (2147483647 : Int32)).toInt64)) + ((3 : Int64) * (((1 : Int32) + (p2 &&& (1073741823 : Int32))).toInt64))))), .second, .val (.double (own_R p0 (p1 &&& (2147483647 : Int32)))), .second, .val (.double (own_df p0 (p1 &&& (2147483647 : Int32)) ((1 : Int32) + (p2 &&& (1073741823 : Int32))) (((10 : Int64) * ((p1 &&& (2147483647 : Int32)).toInt64)) + ((3 : Int64) * (((1 : Int32) + (p2 &&& (1073741823 : Int32))).toInt64))))), .second, .val (.double (own_R p0 (p1 &&& (2147483647 : Int32)))), .second, .val (.double (own_tol p0 (p1 &&& (2147483647 : Int32)))), .second] [])) _
      refine XS.dload X_1.here hx rfl (hb hby at_111) rfl ?_
      show Steps p.tables e below (T_1.setTop (mkF m 113 #[.val (.int p0), .val (.int p1), .val (.int p2), .val (.int (p1 &&& (2147483647 : Int32))), .val (.int ((1 : Int32) + (p2 &&& (1073741823 : Int32)))), .val (.double (FP.i2d p0)), .second, .val (.double (own_lf ((1 : Int32) + (p2 &&& (1073741823 : Int32))))), .second, .val (.double (own_Q p0 (p1 &&& (2147483647 : Int32)) ((1 : Int32) + (p2 &&& (1073741823 : Int32))))), .second, .val (.long (((10 : Int64) * ((p1 &&& (2147483647 : Int32)).toInt64)) + ((3 : Int64) * (((1 : Int32) + (p2 &&& (1073741823 : Int32))).toInt64)))), .second, .val (.double (own_L p0 (p1 &&& (2147483647 : Int32)) ((1 : Int32) + (p2 &&& (1073741823 : Int32))) (((10 : Int64) * ((p1 &&& (2147483647 : Int32)).toInt64)) + ((3 : Int64) * (((1 : Int32) + (p2 &&& (1073741823 : Int32))).toInt64))))), .second, .val (.double (own_R p0 (p1 &&& (2147483647 : Int32)))), .second, .val (.double (own_df p0 (p1 &&& (2147483647 : Int32)) ((1 : Int32) + (p2 &&& (1073741823 : Int32))) (((10 : Int64) * ((p1 &&& (2147483647 : Int32)).toInt64)) + ((3 : Int64) * (((1 : Int32) + (p2 &&& (1073741823 : Int32))).toInt64))))), .second, .val (.double (own_R p0 (p1 &&& (2147483647 : Int32)))), .second, .val (.double (own_tol p0 (p1 &&& (2147483647 : Int32)))), .second] [(.double (own_df p0 (p1 &&& (2147483647 : Int32)) ((1 : Int32) + (p2 &&& (1073741823 : Int32))) (((10 : Int64) * ((p1 &&& (2147483647 : Int32)).toInt64)) + ((3 : Int64) * (((1 : Int32) + (p2 &&& (1073741823 : Int32))).toInt64)))))])) _
      refine XS.dnegS X_1.here hx rfl (hb hby at_113) rfl rfl ?_
      show Steps p.tables e below (T_1.setTop (mkF m 114 #[.val (.int p0), .val (.int p1), .val (.int p2), .val (.int (p1 &&& (2147483647 : Int32))), .val (.int ((1 : Int32) + (p2 &&& (1073741823 : Int32)))), .val (.double (FP.i2d p0)), .second, .val (.double (own_lf ((1 : Int32) + (p2 &&& (1073741823 : Int32))))), .second, .val (.double (own_Q p0 (p1 &&& (2147483647 : Int32)) ((1 : Int32) + (p2 &&& (1073741823 : Int32))))), .second, .val (.long (((10 : Int64) * ((p1 &&& (2147483647 : Int32)).toInt64)) + ((3 : Int64) * (((1 : Int32) + (p2 &&& (1073741823 : Int32))).toInt64)))), .second, .val (.double (own_L p0 (p1 &&& (2147483647 : Int32)) ((1 : Int32) + (p2 &&& (1073741823 : Int32))) (((10 : Int64) * ((p1 &&& (2147483647 : Int32)).toInt64)) + ((3 : Int64) * (((1 : Int32) + (p2 &&& (1073741823 : Int32))).toInt64))))), .second, .val (.double (own_R p0 (p1 &&& (2147483647 : Int32)))), .second, .val (.double (own_df p0 (p1 &&& (2147483647 : Int32)) ((1 : Int32) + (p2 &&& (1073741823 : Int32))) (((10 : Int64) * ((p1 &&& (2147483647 : Int32)).toInt64)) + ((3 : Int64) * (((1 : Int32) + (p2 &&& (1073741823 : Int32))).toInt64))))), .second, .val (.double (own_R p0 (p1 &&& (2147483647 : Int32)))), .second, .val (.double (own_tol p0 (p1 &&& (2147483647 : Int32)))), .second] [(.double (FP.dneg (own_df p0 (p1 &&& (2147483647 : Int32)) ((1 : Int32) + (p2 &&& (1073741823 : Int32))) (((10 : Int64) * ((p1 &&& (2147483647 : Int32)).toInt64)) + ((3 : Int64) * (((1 : Int32) + (p2 &&& (1073741823 : Int32))).toInt64))))))])) _
      refine XS.dload X_1.here hx rfl (hb hby at_114) rfl ?_
      show Steps p.tables e below (T_1.setTop (mkF m 116 #[.val (.int p0), .val (.int p1), .val (.int p2), .val (.int (p1 &&& (2147483647 : Int32))), .val (.int ((1 : Int32) + (p2 &&& (1073741823 : Int32)))), .val (.double (FP.i2d p0)), .second, .val (.double (own_lf ((1 : Int32) + (p2 &&& (1073741823 : Int32))))), .second, .val (.double (own_Q p0 (p1 &&& (2147483647 : Int32)) ((1 : Int32) + (p2 &&& (1073741823 : Int32))))), .second, .val (.long (((10 : Int64) * ((p1 &&& (2147483647 : Int32)).toInt64)) + ((3 : Int64) * (((1 : Int32) + (p2 &&& (1073741823 : Int32))).toInt64)))), .second, .val (.double (own_L p0 (p1 &&& (2147483647 : Int32)) ((1 : Int32) + (p2 &&& (1073741823 : Int32))) (((10 : Int64) * ((p1 &&& (2147483647 : Int32)).toInt64)) + ((3 : Int64) * (((1 : Int32) + (p2 &&& (1073741823 : Int32))).toInt64))))), .second, .val (.double (own_R p0 (p1 &&& (2147483647 : Int32)))), .second, .val (.double (own_df p0 (p1 &&& (2147483647 : Int32)) ((1 : Int32) + (p2 &&& (1073741823 : Int32))) (((10 : Int64) * ((p1 &&& (2147483647 : Int32)).toInt64)) + ((3 : Int64) * (((1 : Int32) + (p2 &&& (1073741823 : Int32))).toInt64))))), .second, .val (.double (own_R p0 (p1 &&& (2147483647 : Int32)))), .second, .val (.double (own_tol p0 (p1 &&& (2147483647 : Int32)))), .second] [(.double (own_tol p0 (p1 &&& (2147483647 : Int32)))), (.double (FP.dneg (own_df p0 (p1 &&& (2147483647 : Int32)) ((1 : Int32) + (p2 &&& (1073741823 : Int32))) (((10 : Int64) * ((p1 &&& (2147483647 : Int32)).toInt64)) + ((3 : Int64) * (((1 : Int32) + (p2 &&& (1073741823 : Int32))).toInt64))))))])) _
      refine XS.dcmpS X_1.here hx rfl (hb hby at_116) rfl rfl ?_
      exact k
    refine own_go (B := T_1.setTop (mkF m 120 #[.val (.int p0), .val (.int p1), .val (.int p2), .val (.int (p1 &&& (2147483647 : Int32))), .val (.int ((1 : Int32) + (p2 &&& (1073741823 : Int32)))), .val (.double (FP.i2d p0)), .second, .val (.double (own_lf ((1 : Int32) + (p2 &&& (1073741823 : Int32))))), .second, .val (.double (own_Q p0 (p1 &&& (2147483647 : Int32)) ((1 : Int32) + (p2 &&& (1073741823 : Int32))))), .second, .val (.long (((10 : Int64) * ((p1 &&& (2147483647 : Int32)).toInt64)) + ((3 : Int64) * (((1 : Int32) + (p2 &&& (1073741823 : Int32))).toInt64)))), .second, .val (.double (own_L p0 (p1 &&& (2147483647 : Int32)) ((1 : Int32) + (p2 &&& (1073741823 : Int32))) (((10 : Int64) * ((p1 &&& (2147483647 : Int32)).toInt64)) + ((3 : Int64) * (((1 : Int32) + (p2 &&& (1073741823 : Int32))).toInt64))))), .second, .val (.double (own_R p0 (p1 &&& (2147483647 : Int32)))), .second, .val (.double (own_df p0 (p1 &&& (2147483647 : Int32)) ((1 : Int32) + (p2 &&& (1073741823 : Int32))) (((10 : Int64) * ((p1 &&& (2147483647 : Int32)).toInt64)) + ((3 : Int64) * (((1 : Int32) + (p2 &&& (1073741823 : Int32))).toInt64))))), .second, .val (.double (own_R p0 (p1 &&& (2147483647 : Int32)))), .second, .val (.double (own_tol p0 (p1 &&& (2147483647 : Int32)))), .second] [])) (fun t k => ?_) ?_
    · show Steps p.tables e below (T_1.setTop (mkF m 117 #[.val (.int p0), .val (.int p1), .val (.int p2), .val (.int (p1 &&& (2147483647 : Int32))), .val (.int ((1 : Int32) + (p2 &&& (1073741823 : Int32)))), .val (.double (FP.i2d p0)), .second, .val (.double (own_lf ((1 : Int32) + (p2 &&& (1073741823 : Int32))))), .second, .val (.double (own_Q p0 (p1 &&& (2147483647 : Int32)) ((1 : Int32) + (p2 &&& (1073741823 : Int32))))), .second, .val (.long (((10 : Int64) * ((p1 &&& (2147483647 : Int32)).toInt64)) + ((3 : Int64) * (((1 : Int32) + (p2 &&& (1073741823 : Int32))).toInt64)))), .second, .val (.double (own_L p0 (p1 &&& (2147483647 : Int32)) ((1 : Int32) + (p2 &&& (1073741823 : Int32))) (((10 : Int64) * ((p1 &&& (2147483647 : Int32)).toInt64)) + ((3 : Int64) * (((1 : Int32) + (p2 &&& (1073741823 : Int32))).toInt64))))), .second, .val (.double (own_R p0 (p1 &&& (2147483647 : Int32)))), .second, .val (.double (own_df p0 (p1 &&& (2147483647 : Int32)) ((1 : Int32) + (p2 &&& (1073741823 : Int32))) (((10 : Int64) * ((p1 &&& (2147483647 : Int32)).toInt64)) + ((3 : Int64) * (((1 : Int32) + (p2 &&& (1073741823 : Int32))).toInt64))))), .second, .val (.double (own_R p0 (p1 &&& (2147483647 : Int32)))), .second, .val (.double (own_tol p0 (p1 &&& (2147483647 : Int32)))), .second] [(.int (cmpValue (FP.dcmp (FP.dneg (own_df p0 (p1 &&& (2147483647 : Int32)) ((1 : Int32) + (p2 &&& (1073741823 : Int32))) (((10 : Int64) * ((p1 &&& (2147483647 : Int32)).toInt64)) + ((3 : Int64) * (((1 : Int32) + (p2 &&& (1073741823 : Int32))).toInt64))))) (own_tol p0 (p1 &&& (2147483647 : Int32)))) .g))])) _
      refine XS.ifNo X_1.here hx rfl (hb hby at_117) rfl ((if0 _ _).trans (flt g2).2.2.1) ?_
      exact k
    refine own_go (B := T_1.setTop (mkF m 125 #[.val (.int p0), .val (.int p1), .val (.int p2), .val (.int (p1 &&& (2147483647 : Int32))), .val (.int ((1 : Int32) + (p2 &&& (1073741823 : Int32)))), .val (.double (FP.i2d p0)), .second, .val (.double (own_lf ((1 : Int32) + (p2 &&& (1073741823 : Int32))))), .second, .val (.double (own_Q p0 (p1 &&& (2147483647 : Int32)) ((1 : Int32) + (p2 &&& (1073741823 : Int32))))), .second, .val (.long (((10 : Int64) * ((p1 &&& (2147483647 : Int32)).toInt64)) + ((3 : Int64) * (((1 : Int32) + (p2 &&& (1073741823 : Int32))).toInt64)))), .second, .val (.double (own_L p0 (p1 &&& (2147483647 : Int32)) ((1 : Int32) + (p2 &&& (1073741823 : Int32))) (((10 : Int64) * ((p1 &&& (2147483647 : Int32)).toInt64)) + ((3 : Int64) * (((1 : Int32) + (p2 &&& (1073741823 : Int32))).toInt64))))), .second, .val (.double (own_R p0 (p1 &&& (2147483647 : Int32)))), .second, .val (.double (own_df p0 (p1 &&& (2147483647 : Int32)) ((1 : Int32) + (p2 &&& (1073741823 : Int32))) (((10 : Int64) * ((p1 &&& (2147483647 : Int32)).toInt64)) + ((3 : Int64) * (((1 : Int32) + (p2 &&& (1073741823 : Int32))).toInt64))))), .second, .val (.double (own_R p0 (p1 &&& (2147483647 : Int32)))), .second, .val (.double (own_tol p0 (p1 &&& (2147483647 : Int32)))), .second] [(.int (1 : Int32))])) (fun t k => ?_) ?_
    · show Steps p.tables e below (T_1.setTop (mkF m 120 #[.val (.int p0), .val (.int p1), .val (.int p2), .val (.int (p1 &&& (2147483647 : Int32))), .val (.int ((1 : Int32) + (p2 &&& (1073741823 : Int32)))), .val (.double (FP.i2d p0)), .second, .val (.double (own_lf ((1 : Int32) + (p2 &&& (1073741823 : Int32))))), .second, .val (.double (own_Q p0 (p1 &&& (2147483647 : Int32)) ((1 : Int32) + (p2 &&& (1073741823 : Int32))))), .second, .val (.long (((10 : Int64) * ((p1 &&& (2147483647 : Int32)).toInt64)) + ((3 : Int64) * (((1 : Int32) + (p2 &&& (1073741823 : Int32))).toInt64)))), .second, .val (.double (own_L p0 (p1 &&& (2147483647 : Int32)) ((1 : Int32) + (p2 &&& (1073741823 : Int32))) (((10 : Int64) * ((p1 &&& (2147483647 : Int32)).toInt64)) + ((3 : Int64) * (((1 : Int32) + (p2 &&& (1073741823 : Int32))).toInt64))))), .second, .val (.double (own_R p0 (p1 &&& (2147483647 : Int32)))), .second, .val (.double (own_df p0 (p1 &&& (2147483647 : Int32)) ((1 : Int32) + (p2 &&& (1073741823 : Int32))) (((10 : Int64) * ((p1 &&& (2147483647 : Int32)).toInt64)) + ((3 : Int64) * (((1 : Int32) + (p2 &&& (1073741823 : Int32))).toInt64))))), .second, .val (.double (own_R p0 (p1 &&& (2147483647 : Int32)))), .second, .val (.double (own_tol p0 (p1 &&& (2147483647 : Int32)))), .second] [])) _
      refine XS.iconst X_1.here hx rfl (hb hby at_120) ?_
      show Steps p.tables e below (T_1.setTop (mkF m 121 #[.val (.int p0), .val (.int p1), .val (.int p2), .val (.int (p1 &&& (2147483647 : Int32))), .val (.int ((1 : Int32) + (p2 &&& (1073741823 : Int32)))), .val (.double (FP.i2d p0)), .second, .val (.double (own_lf ((1 : Int32) + (p2 &&& (1073741823 : Int32))))), .second, .val (.double (own_Q p0 (p1 &&& (2147483647 : Int32)) ((1 : Int32) + (p2 &&& (1073741823 : Int32))))), .second, .val (.long (((10 : Int64) * ((p1 &&& (2147483647 : Int32)).toInt64)) + ((3 : Int64) * (((1 : Int32) + (p2 &&& (1073741823 : Int32))).toInt64)))), .second, .val (.double (own_L p0 (p1 &&& (2147483647 : Int32)) ((1 : Int32) + (p2 &&& (1073741823 : Int32))) (((10 : Int64) * ((p1 &&& (2147483647 : Int32)).toInt64)) + ((3 : Int64) * (((1 : Int32) + (p2 &&& (1073741823 : Int32))).toInt64))))), .second, .val (.double (own_R p0 (p1 &&& (2147483647 : Int32)))), .second, .val (.double (own_df p0 (p1 &&& (2147483647 : Int32)) ((1 : Int32) + (p2 &&& (1073741823 : Int32))) (((10 : Int64) * ((p1 &&& (2147483647 : Int32)).toInt64)) + ((3 : Int64) * (((1 : Int32) + (p2 &&& (1073741823 : Int32))).toInt64))))), .second, .val (.double (own_R p0 (p1 &&& (2147483647 : Int32)))), .second, .val (.double (own_tol p0 (p1 &&& (2147483647 : Int32)))), .second] [(.int (1 : Int32))])) _
      refine XS.goto X_1.here hx rfl (pc0 := 121) (pc' := 125) rfl (hb hby at_121) (by decide) (by decide) ?_
      exact k
    obtain ⟨fs, hr, hrun, hended, hW, hsame⟩ := X_1.leave (v := some (.int (1 : Int32))) (fun h => by rw [Bd.returns] at h; cases h)
    refine ⟨_, _, ?_, hrun, hended, _, _, rfl, ?_, ⟨_, rfl⟩, hW, hsame.mono (by decide) (by decide)⟩
    · show Steps p.tables e below (T_1.setTop (mkF m 125 #[.val (.int p0), .val (.int p1), .val (.int p2), .val (.int (p1 &&& (2147483647 : Int32))), .val (.int ((1 : Int32) + (p2 &&& (1073741823 : Int32)))), .val (.double (FP.i2d p0)), .second, .val (.double (own_lf ((1 : Int32) + (p2 &&& (1073741823 : Int32))))), .second, .val (.double (own_Q p0 (p1 &&& (2147483647 : Int32)) ((1 : Int32) + (p2 &&& (1073741823 : Int32))))), .second, .val (.long (((10 : Int64) * ((p1 &&& (2147483647 : Int32)).toInt64)) + ((3 : Int64) * (((1 : Int32) + (p2 &&& (1073741823 : Int32))).toInt64)))), .second, .val (.double (own_L p0 (p1 &&& (2147483647 : Int32)) ((1 : Int32) + (p2 &&& (1073741823 : Int32))) (((10 : Int64) * ((p1 &&& (2147483647 : Int32)).toInt64)) + ((3 : Int64) * (((1 : Int32) + (p2 &&& (1073741823 : Int32))).toInt64))))), .second, .val (.double (own_R p0 (p1 &&& (2147483647 : Int32)))), .second, .val (.double (own_df p0 (p1 &&& (2147483647 : Int32)) ((1 : Int32) + (p2 &&& (1073741823 : Int32))) (((10 : Int64) * ((p1 &&& (2147483647 : Int32)).toInt64)) + ((3 : Int64) * (((1 : Int32) + (p2 &&& (1073741823 : Int32))).toInt64))))), .second, .val (.double (own_R p0 (p1 &&& (2147483647 : Int32)))), .second, .val (.double (own_tol p0 (p1 &&& (2147483647 : Int32)))), .second] [(.int (1 : Int32))])) _
      exact retN X_1 hx (t := .boolean) Bd.returns (by simp) (hb hby at_125) hr
    · show Q0 Z p0 p1 p2 h0 n0 _ T_1.heap _
      rw [e_1]
      exact ⟨rfl, N_1, trivial⟩
set_option maxRecDepth 65536 in
set_option maxHeartbeats 40000000 in
theorem comes_1 {Post : Tables → Env → Array Value → State → Outcome → State → Prop} (hpost : ∀ tb e args s v u, (limb_1_1.after args s (.returned v) u = true ∧ limb_1_2.after args s (.returned v) u = true ∧ True) → FrameEnd s (.returned v) u (Jvm.fieldLocs frame_1_writes args s ++ Jvm.arrayLocs frame_1_arrays args s ++ Jvm.staticLocs frame_1_statics s) 0 0 → Post tb e args s (.returned v) u) :
    ArmFor flags0 classFile x code maxLocals ret World_1 tables_1 room_1 Calls_1 rest_1 Pre_1 Post := by
  intro l hfl _ _ p e ha hc hk s m args below hf hA hF happ hP
  obtain ⟨hcalls, hrest, hpre⟩ := hP
  obtain ⟨-, -, -, hnamed, -, -, -, hat⟩ := (Spec.applies_iff hf).mp happ
  obtain ⟨hg, hn⟩ := and_e (Cond.before_iff.mp (show (Jvm.Cond.and given_1 narrow_1).before args s = true from hpre))
  obtain ⟨g1, g2⟩ := and_e hg
  obtain ⟨g3, g4⟩ := and_e g2
  obtain ⟨g5, g6⟩ := and_e g4
  obtain ⟨w0, w1, w2, rfl⟩ : ∃ w0 w1 w2 : Value, args = #[w0, w1, w2] := by
    have hs : args.size = 3 := by simpa [Cond.value, given_1] using g1
    obtain ⟨L⟩ := args
    match L, hs with
    | [w0, w1, w2], _ => exact ⟨w0, w1, w2, rfl⟩
  have hw := fun d (hd : d ∈ tables_1) => atoms_spec (ws := Jvm.Cond.code x code maxLocals ret :: tables_1) hat d (List.mem_cons_of_mem _ hd)
  have hfit : Fit s := fun {y c} hc i hi => by
    obtain ⟨ha, rfl⟩ := Array.getElem?_eq_some_iff.mp hc
    have q := List.all_eq_true.mp ((Array.all_eq_true_iff_forall_mem.mp hF) _ (Array.getElem_mem ha)) i (List.mem_range.mpr hi)
    simpa [Array.getElem?_eq_getElem hi] using q
  obtain ⟨i0, ei0⟩ := is_v g3
  obtain rfl : w0 = (.int i0) := Option.some.inj ei0
  obtain ⟨i1, ei1⟩ := is_v g5
  obtain rfl : w1 = (.int i1) := Option.some.inj ei1
  obtain ⟨i2, ei2⟩ := is_v g6
  obtain rfl : w2 = (.int i2) := Option.some.inj ei2
  obtain ⟨n, o, h1, h2, h3, _, L, rfl, ⟨rfl, N, -⟩, hq⟩ := rm0 l s _ hw tables_1 i0 i1 i2 s.heap s.heap.size (Nat.le_refl _) p e ha hc hk s m _ below hf ((Spec.applies_iff_loose hf).mp happ).1 ⟨rfl, State.Warmed39.refl s, rfl⟩ trivial
  refine ⟨n, _, h1, h2, h3, hpost _ _ _ _ _ _ ⟨Cond.after_iff.mpr rfl, Cond.after_iff.mpr (eq_i res_at (Term.int_eval (1)) rfl), trivial⟩ ⟨hq.1, hq.2.1, (hq.2.2.sift fun y hy => Or.inr (N y hy)).mono (by decide) (by decide)⟩⟩
theorem main_1_1 : Claimed_1_1 := comes_1 fun _ _ _ _ _ _ h hF => ⟨h.1, hF⟩
theorem main_1_2 : Claimed_1_2 := comes_1 fun _ _ _ _ _ _ h hF => ⟨h.2.1, hF⟩
end Jvm.Pilot.@@N@@
namespace Jvm.Pilot.@@N@@
open Jvm Jvm.ClassFile Sem Op Lib Jvm.Free Jvm.Stand Jvm.Pilot.@@N@@.Jvm.D
/-! MADE BY PROGRAM (witnessworld.py) out of the Statement's table words and the real class files: 9 classes; the members and pool entries that the words name. The judged class is class 1, her method 1. -/
namespace start1
open Jvm.ClassFile
def u (s : String) : CpInfo := .utf8 (stringToUtf16 s)
/-- a pool by its gaps: so many unusable entries, then the entry; so many at the end -/
def gap : Nat → List CpInfo → List CpInfo
  | 0, r => r
  | n + 1, r => .unusable :: gap n r
def poolList (es : List (Nat × CpInfo)) (last : Nat) : List CpInfo := es.foldr (fun e r => gap e.1 (e.2 :: r)) (gap last [])
def pool (es : List (Nat × CpInfo)) (last : Nat) : Array CpInfo := ⟨poolList es last⟩
def fileOf (pool : Array CpInfo) (this : Nat) (attrs : Array Attribute := #[]) (ms : Array MethodInfo := #[]) (fl : Nat := 33) (sup : Nat := 0) (ifs : Array Nat := #[]) (fds : Array FieldInfo := #[]) : ClassFile where
  minorVersion := 0
  majorVersion := 65
  constantPool := pool
  accessFlags := fl
  thisClass := this
  superClass := sup
  interfaces := ifs
  fields := fds
  methods := ms
  attributes := attrs
def plain (name : String) (sup : Option ClassId) : Class where
  name := name
  kind := .ordinary
  loader := none
  accessFlags := 33
  super := sup
  interfaces := #[]
  cf := none
  fields := #[]
  methods := #[]
  instanceTypes := #[]
  staticTypes := #[]
  resolved := #[]
  callSites := []
  init := .initialized
  statics := none
  mirror := none

def pool0 : Array CpInfo := pool [(5, u "<init>"), (0, u "()V"), (1, .class_ 10), (1, u "java/lang/Object")] 113

def k0m0 : Method := { name := "<init>", desc := "()V", sig := { parameters := [], returnType := none }, accessFlags := 1, code := none }
/-- java/lang/Object -/
def k0 : Class := { plain "java/lang/Object" none with
  accessFlags := 33
  interfaces := #[]
  cf := some (fileOf pool0 8 #[] #[{ accessFlags := 1, nameIndex := 5, descriptorIndex := 6, attributes := #[] }] 33 0 #[] #[])
  fields := #[]
  methods := #[k0m0]
  instanceTypes := #[]
  staticTypes := #[]
  resolved := Array.replicate 124 none
  statics := none }

def pool1 : Array CpInfo := pool [(2, .class_ 4), (1, u "java/lang/Object"), (0, u "<init>"), (0, u "()V"), (0, .integer 2147483647), (0, .integer 1073741823), (0, .double 4616189618054758400), (1, .methodref 12 13), (0, .class_ 14), (0, .nameAndType 15 16), (0, u "com/example/mudskipper/mudskipper/search/Bm25"), (0, u "score"), (0, u "(DID)D"), (0, .long 10), (1, .long 3), (1, .double 4621819117588971520), (1, .double 4427486594234968593), (1, .class_ 26), (0, u "com/example/mudskipper/mudskipper/search/Bm25ScorePinLaw"), (2, u "law"), (0, u "(III)Z")] 3

def k1m0 : Method := { name := "<init>", desc := "()V", sig := { parameters := [], returnType := none }, accessFlags := 2, code := none }
def k1c1 : Code := { maxStack := 6, maxLocals := 23, code := code, exceptionTable := #[], attributes := #[] }
def k1m1 : Method := { name := "law", desc := "(III)Z", sig := { parameters := [.int, .int, .int], returnType := some .boolean }, accessFlags := 9, code := some k1c1 }
/-- com/example/mudskipper/mudskipper/search/Bm25ScorePinLaw -/
def k1 : Class := { plain "com/example/mudskipper/mudskipper/search/Bm25ScorePinLaw" (some 0) with
  accessFlags := 49
  interfaces := #[]
  cf := some (fileOf pool1 25 #[] #[{ accessFlags := 2, nameIndex := 5, descriptorIndex := 6, attributes := #[] }, { accessFlags := 9, nameIndex := 29, descriptorIndex := 30, attributes := #[] }] 49 2 #[] #[])
  fields := #[]
  methods := #[k1m0, k1m1]
  instanceTypes := #[]
  staticTypes := #[]
  resolved := Array.replicate 34 none
  statics := none }

def pool2 : Array CpInfo := pool [(2, .class_ 4), (1, u "java/lang/Object"), (0, u "<init>"), (0, u "()V"), (8, .class_ 16), (0, u "com/example/mudskipper/mudskipper/search/Bm25"), (4, .double 4608083138725491507), (1, u "K1"), (0, u "D"), (1, u "B"), (6, u "score"), (0, u "(DID)D")] 2

def k2m0 : Method := { name := "<init>", desc := "()V", sig := { parameters := [], returnType := none }, accessFlags := 2, code := none }
def k2c1 : Code := { maxStack := 8, maxLocals := 5, code := prog_11_method_4_code, exceptionTable := #[], attributes := #[] }
def k2m1 : Method := { name := "score", desc := "(DID)D", sig := { parameters := [.double, .int, .double], returnType := some .double }, accessFlags := 9, code := some k2c1 }
/-- com/example/mudskipper/mudskipper/search/Bm25 -/
def k2 : Class := { plain "com/example/mudskipper/mudskipper/search/Bm25" (some 0) with
  accessFlags := 33
  interfaces := #[]
  cf := some (fileOf pool2 15 #[] #[{ accessFlags := 2, nameIndex := 5, descriptorIndex := 6, attributes := #[] }, { accessFlags := 9, nameIndex := 33, descriptorIndex := 34, attributes := #[] }] 33 2 #[] #[{ accessFlags := 25, nameIndex := 23, descriptorIndex := 24, attributes := #[] }, { accessFlags := 25, nameIndex := 26, descriptorIndex := 24, attributes := #[] }])
  fields := #[{ name := "K1", type := .double, accessFlags := 25, slot := 0, constantValue := 0 }, { name := "B", type := .double, accessFlags := 25, slot := 1, constantValue := 0 }]
  methods := #[k2m0, k2m1]
  instanceTypes := #[]
  staticTypes := #[.double, .double]
  resolved := Array.replicate 37 none
  statics := none }

def pool3 : Array CpInfo := pool [(1, u "java/lang/Cloneable"), (0, .class_ 1), (0, u "java/lang/Object"), (0, .class_ 3)] 3

/-- java/lang/Cloneable -/
def k3 : Class := { plain "java/lang/Cloneable" (some 0) with
  accessFlags := 1537
  interfaces := #[]
  cf := some (fileOf pool3 2 #[] #[] 1537 4 #[] #[])
  fields := #[]
  methods := #[]
  instanceTypes := #[]
  staticTypes := #[]
  resolved := Array.replicate 8 none
  statics := none }

def pool4 : Array CpInfo := pool [(1, u "java/io/Serializable"), (0, .class_ 1), (0, u "java/lang/Object"), (0, .class_ 3)] 3

/-- java/io/Serializable -/
def k4 : Class := { plain "java/io/Serializable" (some 0) with
  accessFlags := 1537
  interfaces := #[]
  cf := some (fileOf pool4 2 #[] #[] 1537 4 #[] #[])
  fields := #[]
  methods := #[]
  instanceTypes := #[]
  staticTypes := #[]
  resolved := Array.replicate 8 none
  statics := none }

/-- the primitive byte -/
def k5 : Class := { plain "byte" none with kind := .primitive 'B', accessFlags := 0x411 }
/-- [B -/
def k6 : Class := { plain "[B" (some 0) with kind := .array 5 .byte, interfaces := #[3, 4], accessFlags := 1041 }

/-- the primitive int -/
def k7 : Class := { plain "int" none with kind := .primitive 'I', accessFlags := 0x411 }
/-- [I -/
def k8 : Class := { plain "[I" (some 0) with kind := .array 7 .int, interfaces := #[3, 4], accessFlags := 1041 }

def heap : Heap := #[]
def classes : Array Class := #[k0, k1, k2, k3, k4, k5, k6, k7, k8]
def interned : List (Array UInt16 × Addr) := []
def slotsUsed : Nat := 0
def theMethod : MethodId := ⟨1, 1⟩
def args0 : Array Value := #[.int 5, .int 3, .int 7]
def aboutOver (below : List Frame) : State where
  vm := { classes := classes, interned := interned.toArray }
  heap := heap
  slotsUsed := slotsUsed
  threads := #[{ frames := .invoking theMethod args0 :: below }]
def below0 : List Frame := [.native { method := ⟨0, 0⟩, args := #[] }]
def about1 : State := aboutOver below0
def p0 : Program := .bare "" "" ""
def e0 : Env := launch0.env 0 0 0
theorem w_frames : about1.frames = Frame.invoking theMethod args0 :: below0 := rfl
set_option maxRecDepth 65536 in
theorem w_args : argsFit about1.vm theMethod args0 = true := by decide +kernel
set_option maxRecDepth 65536 in
theorem w_heap : heapFits about1 = true := by decide +kernel
set_option maxRecDepth 65536 in
theorem w_runnable : about1.curStatus? = some .runnable := by decide +kernel
set_option maxRecDepth 65536 in
theorem w_alone : about1.alone = true := by decide +kernel
set_option maxRecDepth 65536 in
theorem w_named : about1.methodNamed? x = some theMethod := by decide +kernel
set_option maxRecDepth 65536 in
theorem w_hears : about1.hears theMethod below0 = true := by decide +kernel
set_option maxRecDepth 65536 in
theorem w_ripe : about1.ripe theMethod args0 below0 = true := by decide +kernel
theorem w_running : about1.status = .running := rfl
set_option maxRecDepth 65536 in
theorem w_room : about1.hasRoom e0.platform room_1 = true :=
  launch0.hasRoom_least _ room_1 (by decide +kernel) (by decide +kernel) (by decide +kernel) (by decide +kernel) (by decide +kernel) (by decide +kernel)
theorem allAtoms_all (ts : List Jvm.Cond) (a : Array Jvm.Value) (st : Jvm.State) : (allAtoms ts).before a st = ts.all (fun c => c.before a st) := by
  induction ts with
  | nil => rfl
  | cons c t ih =>
    show (Jvm.Cond.and c (allAtoms t)).before a st = _
    rw [Jvm.Cond.before_and, ih, List.all_cons]
def words1 : List Jvm.Cond := Jvm.Cond.code x code maxLocals ret :: tables_1
/-- a 'code' word, met by the world's own term for the bytes: nothing is compared byte by byte -/
theorem code_word {y : MethodName} {bytes : ByteArray} {mx : Nat} {rt : Option FieldType} {a : Array Value} {s : State} {m : MethodId} {meth : Method} {c : Code} (h1 : s.methodNamed? y = some m) (h2 : s.vm.method? m = some meth) (h3 : meth.code = some c) (h4 : c.code = bytes)
    (h5 : (c.maxLocals == mx && c.exceptionTable.isEmpty && decide (c.maxStack ≤ mostOperands) && decide (meth.sig.returnType = rt) && !meth.locks && decide (parseMethodDescriptor y.desc = some meth.sig)) = true) : (Jvm.Cond.code y bytes mx rt).before a s = true := by
  simp only [Bool.and_eq_true, beq_iff_eq, Bool.not_eq_true', decide_eq_true_eq] at h5
  obtain ⟨⟨⟨⟨⟨g1, g2⟩, g3⟩, g4⟩, g5⟩, g6⟩ := h5
  simp [Cond.before, Cond.holds, Cond.value, h1, h2, h3, h4, g1, g2, g3, g4, g5, g6]
def isCode : Jvm.Cond → Bool
  | .code _ _ _ _ => true
  | _ => false
theorem all_split {L : List Jvm.Cond} {P : Jvm.Cond → Bool} (h1 : L.all (fun c => isCode c || P c) = true) (h2 : ∀ c ∈ L.filter isCode, P c = true) : L.all P = true := by
  refine List.all_eq_true.mpr fun c hc => ?_
  have h := List.all_eq_true.mp h1 c hc
  rcases Bool.eq_false_or_eq_true (isCode c) with hi | hi
  · exact h2 c (List.mem_filter.mpr ⟨hc, hi⟩)
  · simpa [hi] using h
set_option maxRecDepth 65536 in
theorem w_c0 : (Jvm.Cond.code x code maxLocals ret).before args0 about1 = true := code_word (m := ⟨1, 1⟩) (meth := k1m1) (c := k1c1) (by decide +kernel) rfl rfl rfl (by decide +kernel)
set_option maxRecDepth 65536 in
theorem w_c1 : (Jvm.Cond.code ({ cls := "com/example/mudskipper/mudskipper/search/Bm25", name := "score", desc := "(DID)D" } : Jvm.MethodName) prog_11_method_4_code (5 : Nat) (Option.some Jvm.ClassFile.FieldType.double)).before args0 about1 = true := code_word (m := ⟨2, 1⟩) (meth := k2m1) (c := k2c1) (by decide +kernel) rfl rfl rfl (by decide +kernel)
def codes1 : List Jvm.Cond := [Jvm.Cond.code x code maxLocals ret, Jvm.Cond.code ({ cls := "com/example/mudskipper/mudskipper/search/Bm25", name := "score", desc := "(DID)D" } : Jvm.MethodName) prog_11_method_4_code (5 : Nat) (Option.some Jvm.ClassFile.FieldType.double)]
set_option maxRecDepth 65536 in
theorem codes_eq : words1.filter isCode = codes1 := rfl
theorem w_codes : ∀ c ∈ words1.filter isCode, c.before args0 about1 = true := by
  rw [codes_eq]
  intro c hc
  simp only [codes1, List.mem_cons, List.not_mem_nil, or_false] at hc
  rcases hc with rfl | rfl
  · exact w_c0
  · exact w_c1
set_option maxRecDepth 65536 in
theorem w_t1 : words1.all (fun c => isCode c || c.before args0 about1) = true := by decide +kernel
theorem w_tables : (allAtoms (Jvm.Cond.code x code maxLocals ret :: tables_1)).before args0 about1 = true := by
  rw [allAtoms_all]
  show words1.all (fun c => c.before args0 about1) = true
  refine all_split ?_ w_codes
  rw [w_t1]
set_option maxRecDepth 65536 in
theorem w_case : (Jvm.Cond.and given_1 narrow_1).before args0 about1 = true := by decide +kernel
theorem w_applies : (headSpec (Jvm.Cond.code x code maxLocals ret :: tables_1) room_1).applies x e0.platform about1 = true :=
  (Spec.applies_iff w_frames).mpr ⟨w_running, w_runnable, w_alone, w_named, w_hears, w_ripe, w_room, w_tables⟩
theorem atStart : AtStart classFile x code maxLocals ret World_1 tables_1 room_1 Calls_1 rest_1 Pre_1 launch0 p0 e0 about1 theMethod args0 below0 :=
  ⟨lists_1, trivial, launch0.admits_env _ _ _, launch0.least_env, fairChoices_fair.cas, fairChoices_fair.clock, w_frames, w_args, w_heap, w_applies, trivial, trivial, w_case⟩
end start1
theorem witness_1 : WitnessClaimed_1 := ⟨start1.p0, start1.e0, start1.about1, start1.theMethod, start1.args0, start1.below0, start1.atStart⟩
end Jvm.Pilot.@@N@@
