import JvmDerived
import JvmDerived.Pilot.@@N@@Statement
import JvmDerived.Pilot.@@N@@Code
set_option linter.unusedVariables false
set_option linter.unusedSimpArgs false
namespace Jvm.RoadKit
open Sem ClassFile Op Lib Jvm.Stand Jvm.Free Jvm.LawKit
section New
variable {p : Program} {l : Launch} {e : Env} {R : Room} {s : State} {m : MethodId} {args : Array Value} {below : List Frame} {meth : Method} {c : Code} {T : State} {locs : List Loc} {cells slots : Nat}
theorem retI (X : Stand p l e R s m args below meth c T locs cells slots) (hx : p.tables.exec = Jvm.exec) {pc : Nat} {Ls : Array Slot} {z : Int32} {rest : List Value} (hret : meth.sig.returnType = some .int) (hd : decode c.code pc = .ok (.ireturn, 1)) {fs : List Frame}
    (hl : ∀ (f : JFrame) (acts : List Action), f.method = m → f.locked = none → f.entered = [] → (doReturn e (T.setTop f) acts (some (.int z))).1 = T.setFrames fs) : Steps p.tables e below (T.setTop (mkF m pc Ls (.int z :: rest))) (T.setFrames fs) := by
  have hm' : T.vm.method? m = some meth := X.method'
  have hn : narrow .int (.int z) = .int z := rfl
  show Steps p.tables e below (T.setTop { method := m, pc := pc, locals := Ls, stack := _ :: rest, locked := none }) _
  jvm_step X.here [X.here.top, hx, hd, hm', hret, hn]
  first | (intro acts; rw [hl _ acts rfl rfl rfl]) | rw [hl _ _ rfl rfl rfl]
  exact Steps.refl _
end New
end Jvm.RoadKit
namespace Jvm.Pilot.@@N@@
open Jvm Jvm.ClassFile Sem Op Lib Jvm.Free Jvm.Stand Jvm.LawKit Jvm.RoadKit Bundle Jvm.Pilot.@@N@@.Jvm.D
theorem own_go {tb : Tables} {e : Env} {below : List Frame} {A B : State} {P : State → Outcome → Prop} (st : ∀ t, Steps tb e below B t → Steps tb e below A t) (h : ∃ s₂ o, Steps tb e below B s₂ ∧ P s₂ o) : ∃ s₂ o, Steps tb e below A s₂ ∧ P s₂ o := by
  obtain ⟨s₂, o, h1, h2⟩ := h
  exact ⟨s₂, o, st _ h1, h2⟩
theorem own_gj {tb : Tables} {e : Env} {below : List Frame} {A B : State} {P : State → Heap → List Loc → Prop} {F : State → State} (st : ∀ t, Steps tb e below B t → Steps tb e below A t) (h : ∃ T' h' L', P T' h' L' ∧ ∀ t, Steps tb e below (F T') t → Steps tb e below B t) : ∃ T' h' L', P T' h' L' ∧ ∀ t, Steps tb e below (F T') t → Steps tb e below A t := by
  obtain ⟨T', h', L', h1, h2⟩ := h
  exact ⟨T', h', L', h1, fun t k => st t (h2 t k)⟩
theorem own_stak {Z : State} {h h' : Heap} {C n d : String} {v : Value} (F : Sta Z h C n d v) (K : Keep h h' []) : Sta Z h' C n d v := by
  obtain ⟨cf, i, k, f, st, cell, h1, h2, h3, h4, h5, r⟩ := F
  exact ⟨cf, i, k, f, st, cell, h1, h2, h3, h4, K.2.1 _ _ h5 nin0, r⟩
theorem own_eqv {args : Array Value} {s : State} {a b : Term} {v : Value} (h : (Jvm.Cond.eq a b).value args s none s [] = some true) (hb : b.eval args s none [] s = some v) : a.eval args s none [] s = some v := by
  simp only [Cond.value, hb] at h
  cases ha : a.eval args s none [] s with
  | none => simp [ha] at h
  | some x => cases x <;> cases v <;> simp [ha] at h ⊢ <;> exact h
def own_S (Z : State) (h : Heap) (ad : Nat → Addr) : Prop := Sta Z h "com/example/symvane/symvane/term/Operator" "NOT" "Lcom/example/symvane/symvane/term/Operator;" (.ref (ad 0)) ∧ Sta Z h "com/example/symvane/symvane/term/Operator" "AND" "Lcom/example/symvane/symvane/term/Operator;" (.ref (ad 1)) ∧ Sta Z h "com/example/symvane/symvane/term/Operator" "OR" "Lcom/example/symvane/symvane/term/Operator;" (.ref (ad 2)) ∧ Sta Z h "com/example/symvane/symvane/term/Operator" "XOR" "Lcom/example/symvane/symvane/term/Operator;" (.ref (ad 3)) ∧ Sta Z h "com/example/symvane/symvane/term/Operator" "IMPLIES" "Lcom/example/symvane/symvane/term/Operator;" (.ref (ad 4)) ∧ Sta Z h "com/example/symvane/symvane/term/Operator" "ITE" "Lcom/example/symvane/symvane/term/Operator;" (.ref (ad 5)) ∧ Sta Z h "com/example/symvane/symvane/term/Operator" "EQ" "Lcom/example/symvane/symvane/term/Operator;" (.ref (ad 6)) ∧ Sta Z h "com/example/symvane/symvane/term/Operator" "DISTINCT" "Lcom/example/symvane/symvane/term/Operator;" (.ref (ad 7)) ∧ Sta Z h "com/example/symvane/symvane/term/Operator" "PLUS" "Lcom/example/symvane/symvane/term/Operator;" (.ref (ad 8)) ∧ Sta Z h "com/example/symvane/symvane/term/Operator" "MINUS" "Lcom/example/symvane/symvane/term/Operator;" (.ref (ad 9)) ∧ Sta Z h "com/example/symvane/symvane/term/Operator" "TIMES" "Lcom/example/symvane/symvane/term/Operator;" (.ref (ad 10)) ∧ Sta Z h "com/example/symvane/symvane/term/Operator" "DIV" "Lcom/example/symvane/symvane/term/Operator;" (.ref (ad 11)) ∧ Sta Z h "com/example/symvane/symvane/term/Operator" "MOD" "Lcom/example/symvane/symvane/term/Operator;" (.ref (ad 12)) ∧ Sta Z h "com/example/symvane/symvane/term/Operator" "ABS" "Lcom/example/symvane/symvane/term/Operator;" (.ref (ad 13)) ∧ Sta Z h "com/example/symvane/symvane/term/Operator" "DIVIDE" "Lcom/example/symvane/symvane/term/Operator;" (.ref (ad 14)) ∧ Sta Z h "com/example/symvane/symvane/term/Operator" "LT" "Lcom/example/symvane/symvane/term/Operator;" (.ref (ad 15)) ∧ Sta Z h "com/example/symvane/symvane/term/Operator" "LE" "Lcom/example/symvane/symvane/term/Operator;" (.ref (ad 16)) ∧ Sta Z h "com/example/symvane/symvane/term/Operator" "GT" "Lcom/example/symvane/symvane/term/Operator;" (.ref (ad 17)) ∧ Sta Z h "com/example/symvane/symvane/term/Operator" "GE" "Lcom/example/symvane/symvane/term/Operator;" (.ref (ad 18)) ∧ Sta Z h "com/example/symvane/symvane/term/Operator" "TO_REAL" "Lcom/example/symvane/symvane/term/Operator;" (.ref (ad 19)) ∧ Sta Z h "com/example/symvane/symvane/term/Operator" "TO_INT" "Lcom/example/symvane/symvane/term/Operator;" (.ref (ad 20)) ∧ Sta Z h "com/example/symvane/symvane/term/Operator" "IS_INT" "Lcom/example/symvane/symvane/term/Operator;" (.ref (ad 21))
def own_pick (i : Int32) : Nat := if i = (0 : Int32) then 0 else if i = (1 : Int32) then 1 else if i = (2 : Int32) then 2 else if i = (3 : Int32) then 3 else if i = (4 : Int32) then 4 else if i = (5 : Int32) then 5 else if i = (6 : Int32) then 6 else if i = (7 : Int32) then 7 else if i = (8 : Int32) then 8 else if i = (9 : Int32) then 9 else if i = (10 : Int32) then 10 else if i = (11 : Int32) then 11 else if i = (12 : Int32) then 12 else if i = (13 : Int32) then 13 else if i = (14 : Int32) then 14 else if i = (15 : Int32) then 15 else if i = (16 : Int32) then 16 else if i = (17 : Int32) then 17 else if i = (18 : Int32) then 18 else if i = (19 : Int32) then 19 else if i = (20 : Int32) then 20 else 21
def own_mn (j : Nat) : Int32 := if j = 0 then (1 : Int32) else if j = 1 then (2 : Int32) else if j = 2 then (2 : Int32) else if j = 3 then (2 : Int32) else if j = 4 then (2 : Int32) else if j = 5 then (3 : Int32) else if j = 6 then (2 : Int32) else if j = 7 then (2 : Int32) else if j = 8 then (2 : Int32) else if j = 9 then (1 : Int32) else if j = 10 then (2 : Int32) else if j = 11 then (2 : Int32) else if j = 12 then (2 : Int32) else if j = 13 then (1 : Int32) else if j = 14 then (2 : Int32) else if j = 15 then (2 : Int32) else if j = 16 then (2 : Int32) else if j = 17 then (2 : Int32) else if j = 18 then (2 : Int32) else if j = 19 then (1 : Int32) else if j = 20 then (1 : Int32) else (1 : Int32)
def own_mx (j : Nat) : Int32 := if j = 0 then (1 : Int32) else if j = 1 then (2147483647 : Int32) else if j = 2 then (2147483647 : Int32) else if j = 3 then (2147483647 : Int32) else if j = 4 then (2147483647 : Int32) else if j = 5 then (3 : Int32) else if j = 6 then (2147483647 : Int32) else if j = 7 then (2147483647 : Int32) else if j = 8 then (2147483647 : Int32) else if j = 9 then (2147483647 : Int32) else if j = 10 then (2147483647 : Int32) else if j = 11 then (2147483647 : Int32) else if j = 12 then (2 : Int32) else if j = 13 then (1 : Int32) else if j = 14 then (2147483647 : Int32) else if j = 15 then (2147483647 : Int32) else if j = 16 then (2147483647 : Int32) else if j = 17 then (2147483647 : Int32) else if j = 18 then (2147483647 : Int32) else if j = 19 then (1 : Int32) else if j = 20 then (1 : Int32) else (1 : Int32)
def own_takes (mn mx c : Int32) : Int32 := if c < mn then (0 : Int32) else if mx < c then (0 : Int32) else (1 : Int32)
def own_expd (ad : Nat → Addr) (a : Addr) (p : Int32) : Int32 := if a = (ad 0) then (if p = (1 : Int32) then (1 : Int32) else (0 : Int32)) else if a = (ad 13) then (if p = (1 : Int32) then (1 : Int32) else (0 : Int32)) else if a = (ad 19) then (if p = (1 : Int32) then (1 : Int32) else (0 : Int32)) else if a = (ad 20) then (if p = (1 : Int32) then (1 : Int32) else (0 : Int32)) else if a = (ad 21) then (if p = (1 : Int32) then (1 : Int32) else (0 : Int32)) else if a = (ad 5) then (if p = (3 : Int32) then (1 : Int32) else (0 : Int32)) else if a = (ad 12) then (if p = (2 : Int32) then (1 : Int32) else (0 : Int32)) else if a = (ad 9) then (if p < (1 : Int32) then (0 : Int32) else (1 : Int32)) else (if p < (2 : Int32) then (0 : Int32) else (1 : Int32))
theorem d1_0 : decode method_2_code 0 = .ok (.iload_n 0, 1) := by decide +kernel
theorem d1_1 : decode method_2_code 1 = .ok (.ifCond .ne 7, 3) := by decide +kernel
theorem d1_4 : decode method_2_code 4 = .ok (.getstatic 7, 3) := by decide +kernel
theorem d1_7 : decode method_2_code 7 = .ok (.areturn, 1) := by decide +kernel
theorem d1_8 : decode method_2_code 8 = .ok (.iload_n 0, 1) := by decide +kernel
theorem d1_9 : decode method_2_code 9 = .ok (.iconst 1, 1) := by decide +kernel
theorem d1_10 : decode method_2_code 10 = .ok (.if_icmp .ne 7, 3) := by decide +kernel
theorem d1_13 : decode method_2_code 13 = .ok (.getstatic 13, 3) := by decide +kernel
theorem d1_16 : decode method_2_code 16 = .ok (.areturn, 1) := by decide +kernel
theorem d1_17 : decode method_2_code 17 = .ok (.iload_n 0, 1) := by decide +kernel
theorem d1_18 : decode method_2_code 18 = .ok (.iconst 2, 1) := by decide +kernel
theorem d1_19 : decode method_2_code 19 = .ok (.if_icmp .ne 7, 3) := by decide +kernel
theorem d1_22 : decode method_2_code 22 = .ok (.getstatic 16, 3) := by decide +kernel
theorem d1_25 : decode method_2_code 25 = .ok (.areturn, 1) := by decide +kernel
theorem d1_26 : decode method_2_code 26 = .ok (.iload_n 0, 1) := by decide +kernel
theorem d1_27 : decode method_2_code 27 = .ok (.iconst 3, 1) := by decide +kernel
theorem d1_28 : decode method_2_code 28 = .ok (.if_icmp .ne 7, 3) := by decide +kernel
theorem d1_31 : decode method_2_code 31 = .ok (.getstatic 19, 3) := by decide +kernel
theorem d1_34 : decode method_2_code 34 = .ok (.areturn, 1) := by decide +kernel
theorem d1_35 : decode method_2_code 35 = .ok (.iload_n 0, 1) := by decide +kernel
theorem d1_36 : decode method_2_code 36 = .ok (.iconst 4, 1) := by decide +kernel
theorem d1_37 : decode method_2_code 37 = .ok (.if_icmp .ne 7, 3) := by decide +kernel
theorem d1_40 : decode method_2_code 40 = .ok (.getstatic 22, 3) := by decide +kernel
theorem d1_43 : decode method_2_code 43 = .ok (.areturn, 1) := by decide +kernel
theorem d1_44 : decode method_2_code 44 = .ok (.iload_n 0, 1) := by decide +kernel
theorem d1_45 : decode method_2_code 45 = .ok (.iconst 5, 1) := by decide +kernel
theorem d1_46 : decode method_2_code 46 = .ok (.if_icmp .ne 7, 3) := by decide +kernel
theorem d1_49 : decode method_2_code 49 = .ok (.getstatic 25, 3) := by decide +kernel
theorem d1_52 : decode method_2_code 52 = .ok (.areturn, 1) := by decide +kernel
theorem d1_53 : decode method_2_code 53 = .ok (.iload_n 0, 1) := by decide +kernel
theorem d1_54 : decode method_2_code 54 = .ok (.bipush 6, 2) := by decide +kernel
theorem d1_56 : decode method_2_code 56 = .ok (.if_icmp .ne 7, 3) := by decide +kernel
theorem d1_59 : decode method_2_code 59 = .ok (.getstatic 28, 3) := by decide +kernel
theorem d1_62 : decode method_2_code 62 = .ok (.areturn, 1) := by decide +kernel
theorem d1_63 : decode method_2_code 63 = .ok (.iload_n 0, 1) := by decide +kernel
theorem d1_64 : decode method_2_code 64 = .ok (.bipush 7, 2) := by decide +kernel
theorem d1_66 : decode method_2_code 66 = .ok (.if_icmp .ne 7, 3) := by decide +kernel
theorem d1_69 : decode method_2_code 69 = .ok (.getstatic 31, 3) := by decide +kernel
theorem d1_72 : decode method_2_code 72 = .ok (.areturn, 1) := by decide +kernel
theorem d1_73 : decode method_2_code 73 = .ok (.iload_n 0, 1) := by decide +kernel
theorem d1_74 : decode method_2_code 74 = .ok (.bipush 8, 2) := by decide +kernel
theorem d1_76 : decode method_2_code 76 = .ok (.if_icmp .ne 7, 3) := by decide +kernel
theorem d1_79 : decode method_2_code 79 = .ok (.getstatic 34, 3) := by decide +kernel
theorem d1_82 : decode method_2_code 82 = .ok (.areturn, 1) := by decide +kernel
theorem d1_83 : decode method_2_code 83 = .ok (.iload_n 0, 1) := by decide +kernel
theorem d1_84 : decode method_2_code 84 = .ok (.bipush 9, 2) := by decide +kernel
theorem d1_86 : decode method_2_code 86 = .ok (.if_icmp .ne 7, 3) := by decide +kernel
theorem d1_89 : decode method_2_code 89 = .ok (.getstatic 37, 3) := by decide +kernel
theorem d1_92 : decode method_2_code 92 = .ok (.areturn, 1) := by decide +kernel
theorem d1_93 : decode method_2_code 93 = .ok (.iload_n 0, 1) := by decide +kernel
theorem d1_94 : decode method_2_code 94 = .ok (.bipush 10, 2) := by decide +kernel
theorem d1_96 : decode method_2_code 96 = .ok (.if_icmp .ne 7, 3) := by decide +kernel
theorem d1_99 : decode method_2_code 99 = .ok (.getstatic 40, 3) := by decide +kernel
theorem d1_102 : decode method_2_code 102 = .ok (.areturn, 1) := by decide +kernel
theorem d1_103 : decode method_2_code 103 = .ok (.iload_n 0, 1) := by decide +kernel
theorem d1_104 : decode method_2_code 104 = .ok (.bipush 11, 2) := by decide +kernel
theorem d1_106 : decode method_2_code 106 = .ok (.if_icmp .ne 7, 3) := by decide +kernel
theorem d1_109 : decode method_2_code 109 = .ok (.getstatic 43, 3) := by decide +kernel
theorem d1_112 : decode method_2_code 112 = .ok (.areturn, 1) := by decide +kernel
theorem d1_113 : decode method_2_code 113 = .ok (.iload_n 0, 1) := by decide +kernel
theorem d1_114 : decode method_2_code 114 = .ok (.bipush 12, 2) := by decide +kernel
theorem d1_116 : decode method_2_code 116 = .ok (.if_icmp .ne 7, 3) := by decide +kernel
theorem d1_119 : decode method_2_code 119 = .ok (.getstatic 46, 3) := by decide +kernel
theorem d1_122 : decode method_2_code 122 = .ok (.areturn, 1) := by decide +kernel
theorem d1_123 : decode method_2_code 123 = .ok (.iload_n 0, 1) := by decide +kernel
theorem d1_124 : decode method_2_code 124 = .ok (.bipush 13, 2) := by decide +kernel
theorem d1_126 : decode method_2_code 126 = .ok (.if_icmp .ne 7, 3) := by decide +kernel
theorem d1_129 : decode method_2_code 129 = .ok (.getstatic 49, 3) := by decide +kernel
theorem d1_132 : decode method_2_code 132 = .ok (.areturn, 1) := by decide +kernel
theorem d1_133 : decode method_2_code 133 = .ok (.iload_n 0, 1) := by decide +kernel
theorem d1_134 : decode method_2_code 134 = .ok (.bipush 14, 2) := by decide +kernel
theorem d1_136 : decode method_2_code 136 = .ok (.if_icmp .ne 7, 3) := by decide +kernel
theorem d1_139 : decode method_2_code 139 = .ok (.getstatic 52, 3) := by decide +kernel
theorem d1_142 : decode method_2_code 142 = .ok (.areturn, 1) := by decide +kernel
theorem d1_143 : decode method_2_code 143 = .ok (.iload_n 0, 1) := by decide +kernel
theorem d1_144 : decode method_2_code 144 = .ok (.bipush 15, 2) := by decide +kernel
theorem d1_146 : decode method_2_code 146 = .ok (.if_icmp .ne 7, 3) := by decide +kernel
theorem d1_149 : decode method_2_code 149 = .ok (.getstatic 55, 3) := by decide +kernel
theorem d1_152 : decode method_2_code 152 = .ok (.areturn, 1) := by decide +kernel
theorem d1_153 : decode method_2_code 153 = .ok (.iload_n 0, 1) := by decide +kernel
theorem d1_154 : decode method_2_code 154 = .ok (.bipush 16, 2) := by decide +kernel
theorem d1_156 : decode method_2_code 156 = .ok (.if_icmp .ne 7, 3) := by decide +kernel
theorem d1_159 : decode method_2_code 159 = .ok (.getstatic 58, 3) := by decide +kernel
theorem d1_162 : decode method_2_code 162 = .ok (.areturn, 1) := by decide +kernel
theorem d1_163 : decode method_2_code 163 = .ok (.iload_n 0, 1) := by decide +kernel
theorem d1_164 : decode method_2_code 164 = .ok (.bipush 17, 2) := by decide +kernel
theorem d1_166 : decode method_2_code 166 = .ok (.if_icmp .ne 7, 3) := by decide +kernel
theorem d1_169 : decode method_2_code 169 = .ok (.getstatic 61, 3) := by decide +kernel
theorem d1_172 : decode method_2_code 172 = .ok (.areturn, 1) := by decide +kernel
theorem d1_173 : decode method_2_code 173 = .ok (.iload_n 0, 1) := by decide +kernel
theorem d1_174 : decode method_2_code 174 = .ok (.bipush 18, 2) := by decide +kernel
theorem d1_176 : decode method_2_code 176 = .ok (.if_icmp .ne 7, 3) := by decide +kernel
theorem d1_179 : decode method_2_code 179 = .ok (.getstatic 64, 3) := by decide +kernel
theorem d1_182 : decode method_2_code 182 = .ok (.areturn, 1) := by decide +kernel
theorem d1_183 : decode method_2_code 183 = .ok (.iload_n 0, 1) := by decide +kernel
theorem d1_184 : decode method_2_code 184 = .ok (.bipush 19, 2) := by decide +kernel
theorem d1_186 : decode method_2_code 186 = .ok (.if_icmp .ne 7, 3) := by decide +kernel
theorem d1_189 : decode method_2_code 189 = .ok (.getstatic 67, 3) := by decide +kernel
theorem d1_192 : decode method_2_code 192 = .ok (.areturn, 1) := by decide +kernel
theorem d1_193 : decode method_2_code 193 = .ok (.iload_n 0, 1) := by decide +kernel
theorem d1_194 : decode method_2_code 194 = .ok (.bipush 20, 2) := by decide +kernel
theorem d1_196 : decode method_2_code 196 = .ok (.if_icmp .ne 7, 3) := by decide +kernel
theorem d1_199 : decode method_2_code 199 = .ok (.getstatic 70, 3) := by decide +kernel
theorem d1_202 : decode method_2_code 202 = .ok (.areturn, 1) := by decide +kernel
theorem d1_203 : decode method_2_code 203 = .ok (.getstatic 73, 3) := by decide +kernel
theorem d1_206 : decode method_2_code 206 = .ok (.areturn, 1) := by decide +kernel
theorem pn_1 : plainName "com/example/symvane/symvane/term/OperatorTakesPinLaw" = true := by first | (simp [plainName, overriddenIn]; done) | decide +kernel
theorem ef_1 (m : MethodId) (p0 : Int32) : entryFrame m #[(.int p0)] 1 = mkF m 0 #[.val (.int p0)] [] := by first | (simp [entryFrame, mkF, argsToLocals, Value.category]; done) | rfl
def Q1 (Z : State) (p0 : Int32) (ad : Nat → Addr) (h0 : Heap) (n0 : Nat) (v : Option Value) (h : Heap) (L : List Loc) : Prop := v = some (.ref (ad (own_pick p0))) ∧ Fr n0 L ∧ h = h0
set_option maxRecDepth 65536 in
set_option maxHeartbeats 40000000 in
theorem rm1 (l : Launch) (Z : State) (av0 : Array Value) (hw : ∀ d ∈ tables_1, d.before av0 Z = true) (ws : List Jvm.Cond) (p0 : Int32) (ad : Nat → Addr) (h0 : Heap) (n0 : Nat) (Z0 : n0 ≤ h0.size) (hS : own_S Z h0 ad) :
    MetFree l (⟨"com/example/symvane/symvane/term/OperatorTakesPinLaw", "pick", "(I)Lcom/example/symvane/symvane/term/Operator;"⟩ : MethodName) (head1 (Jvm.Cond.code (⟨"com/example/symvane/symvane/term/OperatorTakesPinLaw", "pick", "(I)Lcom/example/symvane/symvane/term/Operator;"⟩ : MethodName) method_2_code 1 (some (.object "com/example/symvane/symvane/term/Operator")) :: ws) ({ frames := 0, cells := 0, slots := 0, locals := 0 } : Room)) (fun a U => a = #[(.int p0)] ∧ Z.Warmed39 U.vm ∧ U.heap = h0) (fun _ _ _ _ _ => True) (fun _ U o U' => ∃ v L, o = .returned v ∧ Q1 Z p0 ad h0 n0 v U'.heap L ∧ FrameEnd U o U' L ({ frames := 0, cells := 0, slots := 0, locals := 0 } : Room).cells ({ frames := 0, cells := 0, slots := 0, locals := 0 } : Room).slots) := by
  refine MetFree.of_bodySF (plainFor_of_name pn_1) hisR ?_
  intro p e s m args below meth c s₁ Bd hml0 hP hK
  obtain ⟨rfl, hZ, hh⟩ := hP
  have hx := Bd.exec
  have hby := Bd.bytes
  have hml : c.maxLocals = 1 := hml0
  have hown : s.vm.findClass "com/example/symvane/symvane/term/OperatorTakesPinLaw" = some m.cls := findClass_of_methodNamed Bd.named
  have hnm := (name_of_methodNamed Bd.named Bd.method).1
  have X0 : Stand p l e ({ frames := 0, cells := 0, slots := 0, locals := 0 } : Room) s m #[(.int p0)] below meth c s₁ [] 0 0 := Stand.of_body Bd
  have e0 : s₁.heap = h0 := by rw [← hh, Bd.state]; rfl
  have N0 := Fr.nil n0
  have K0 : Keep h0 h0 [] := Keep.refl h0 []
  refine own_go (B := s₁.setTop (mkF m 0 #[.val (.int p0)] [])) (fun t k => castTop (ef_1 m p0) k) ?_
  refine own_go (B := s₁.setTop (mkF m 1 #[.val (.int p0)] [(.int p0)])) (fun t k => ?_) ?_
  · show Steps p.tables e below (s₁.setTop (mkF m 0 #[.val (.int p0)] [])) _
    refine XS.iloadN X0.here hx rfl (hb hby d1_0) rfl ?_
    exact k
  by_cases hc1 : p0 = (0 : Int32)
  · refine own_go (B := s₁.setTop (mkF m 4 #[.val (.int p0)] [])) (fun t k => ?_) ?_
    · show Steps p.tables e below (s₁.setTop (mkF m 1 #[.val (.int p0)] [(.int p0)])) _
      refine XS.ifNo X0.here hx rfl (hb hby d1_1) rfl ((if0 _ _).trans (teq hc1).2) ?_
      exact k
    obtain ⟨T_1, X_1, e_1, st_1⟩ := getS2 X0 hx hZ hown (host := "") (Or.inl (hw _ (List.mem_of_getElem? (i := 5) rfl))) Via.refl e0 (hS.1) (g := (mkF m 4 #[.val (.int p0)] [])) rfl (hb hby d1_4)
    refine own_go (B := T_1.setTop (mkF m 7 #[.val (.int p0)] [(.ref (ad 0))])) (fun t k => st_1 t k) ?_
    obtain ⟨fs, hr, hrun, hended, hW, hsame⟩ := X_1.leave (v := some (.ref (ad 0))) (fun h => by rw [Bd.returns] at h; cases h)
    refine ⟨_, _, ?_, hrun, hended, _, _, rfl, ?_, ⟨_, rfl⟩, hW, hsame.mono (by decide) (by decide)⟩
    · show Steps p.tables e below (T_1.setTop (mkF m 7 #[.val (.int p0)] [(.ref (ad 0))])) _
      jvm_step X_1.here [X_1.here.top, hx, (hb hby d1_7), X_1.method', Bd.returns, Value.isRef, FieldType.isReference]
      first | (intro acts; rw [hr _ acts rfl rfl rfl]) | rw [hr _ _ rfl rfl rfl]
      exact Steps.refl _
    · show Q1 Z p0 ad h0 n0 _ T_1.heap _
      rw [e_1]
      exact ⟨by simp only [own_pick, if_pos hc1], N0, rfl⟩
  · refine own_go (B := s₁.setTop (mkF m 8 #[.val (.int p0)] [])) (fun t k => ?_) ?_
    · show Steps p.tables e below (s₁.setTop (mkF m 1 #[.val (.int p0)] [(.int p0)])) _
      refine XS.ifYes X0.here hx rfl (pc0 := 1) (pc' := 8) rfl (hb hby d1_1) rfl ((if0 _ _).trans (feq hc1).2) (by decide) (by decide) ?_
      exact k
    refine own_go (B := s₁.setTop (mkF m 10 #[.val (.int p0)] [(.int (1 : Int32)), (.int p0)])) (fun t k => ?_) ?_
    · show Steps p.tables e below (s₁.setTop (mkF m 8 #[.val (.int p0)] [])) _
      refine XS.iloadN X0.here hx rfl (hb hby d1_8) rfl ?_
      show Steps p.tables e below (s₁.setTop (mkF m 9 #[.val (.int p0)] [(.int p0)])) _
      refine XS.iconst X0.here hx rfl (hb hby d1_9) ?_
      exact k
    by_cases hc10 : p0 = (1 : Int32)
    · refine own_go (B := s₁.setTop (mkF m 13 #[.val (.int p0)] [])) (fun t k => ?_) ?_
      · show Steps p.tables e below (s₁.setTop (mkF m 10 #[.val (.int p0)] [(.int (1 : Int32)), (.int p0)])) _
        refine XS.icmpNo X0.here hx rfl (hb hby d1_10) rfl (teq hc10).2 ?_
        exact k
      obtain ⟨T_2, X_2, e_2, st_2⟩ := getS2 X0 hx hZ hown (host := "") (Or.inl (hw _ (List.mem_of_getElem? (i := 20) rfl))) Via.refl e0 (hS.2.1) (g := (mkF m 13 #[.val (.int p0)] [])) rfl (hb hby d1_13)
      refine own_go (B := T_2.setTop (mkF m 16 #[.val (.int p0)] [(.ref (ad 1))])) (fun t k => st_2 t k) ?_
      obtain ⟨fs, hr, hrun, hended, hW, hsame⟩ := X_2.leave (v := some (.ref (ad 1))) (fun h => by rw [Bd.returns] at h; cases h)
      refine ⟨_, _, ?_, hrun, hended, _, _, rfl, ?_, ⟨_, rfl⟩, hW, hsame.mono (by decide) (by decide)⟩
      · show Steps p.tables e below (T_2.setTop (mkF m 16 #[.val (.int p0)] [(.ref (ad 1))])) _
        jvm_step X_2.here [X_2.here.top, hx, (hb hby d1_16), X_2.method', Bd.returns, Value.isRef, FieldType.isReference]
        first | (intro acts; rw [hr _ acts rfl rfl rfl]) | rw [hr _ _ rfl rfl rfl]
        exact Steps.refl _
      · show Q1 Z p0 ad h0 n0 _ T_2.heap _
        rw [e_2]
        exact ⟨by simp only [own_pick, if_neg hc1, if_pos hc10], N0, rfl⟩
    · refine own_go (B := s₁.setTop (mkF m 17 #[.val (.int p0)] [])) (fun t k => ?_) ?_
      · show Steps p.tables e below (s₁.setTop (mkF m 10 #[.val (.int p0)] [(.int (1 : Int32)), (.int p0)])) _
        refine XS.icmpYes X0.here hx rfl (pc0 := 10) (pc' := 17) rfl (hb hby d1_10) rfl (feq hc10).2 (by decide) (by decide) ?_
        exact k
      refine own_go (B := s₁.setTop (mkF m 19 #[.val (.int p0)] [(.int (2 : Int32)), (.int p0)])) (fun t k => ?_) ?_
      · show Steps p.tables e below (s₁.setTop (mkF m 17 #[.val (.int p0)] [])) _
        refine XS.iloadN X0.here hx rfl (hb hby d1_17) rfl ?_
        show Steps p.tables e below (s₁.setTop (mkF m 18 #[.val (.int p0)] [(.int p0)])) _
        refine XS.iconst X0.here hx rfl (hb hby d1_18) ?_
        exact k
      by_cases hc19 : p0 = (2 : Int32)
      · refine own_go (B := s₁.setTop (mkF m 22 #[.val (.int p0)] [])) (fun t k => ?_) ?_
        · show Steps p.tables e below (s₁.setTop (mkF m 19 #[.val (.int p0)] [(.int (2 : Int32)), (.int p0)])) _
          refine XS.icmpNo X0.here hx rfl (hb hby d1_19) rfl (teq hc19).2 ?_
          exact k
        obtain ⟨T_3, X_3, e_3, st_3⟩ := getS2 X0 hx hZ hown (host := "") (Or.inl (hw _ (List.mem_of_getElem? (i := 46) rfl))) Via.refl e0 (hS.2.2.1) (g := (mkF m 22 #[.val (.int p0)] [])) rfl (hb hby d1_22)
        refine own_go (B := T_3.setTop (mkF m 25 #[.val (.int p0)] [(.ref (ad 2))])) (fun t k => st_3 t k) ?_
        obtain ⟨fs, hr, hrun, hended, hW, hsame⟩ := X_3.leave (v := some (.ref (ad 2))) (fun h => by rw [Bd.returns] at h; cases h)
        refine ⟨_, _, ?_, hrun, hended, _, _, rfl, ?_, ⟨_, rfl⟩, hW, hsame.mono (by decide) (by decide)⟩
        · show Steps p.tables e below (T_3.setTop (mkF m 25 #[.val (.int p0)] [(.ref (ad 2))])) _
          jvm_step X_3.here [X_3.here.top, hx, (hb hby d1_25), X_3.method', Bd.returns, Value.isRef, FieldType.isReference]
          first | (intro acts; rw [hr _ acts rfl rfl rfl]) | rw [hr _ _ rfl rfl rfl]
          exact Steps.refl _
        · show Q1 Z p0 ad h0 n0 _ T_3.heap _
          rw [e_3]
          exact ⟨by simp only [own_pick, if_neg hc1, if_neg hc10, if_pos hc19], N0, rfl⟩
      · refine own_go (B := s₁.setTop (mkF m 26 #[.val (.int p0)] [])) (fun t k => ?_) ?_
        · show Steps p.tables e below (s₁.setTop (mkF m 19 #[.val (.int p0)] [(.int (2 : Int32)), (.int p0)])) _
          refine XS.icmpYes X0.here hx rfl (pc0 := 19) (pc' := 26) rfl (hb hby d1_19) rfl (feq hc19).2 (by decide) (by decide) ?_
          exact k
        refine own_go (B := s₁.setTop (mkF m 28 #[.val (.int p0)] [(.int (3 : Int32)), (.int p0)])) (fun t k => ?_) ?_
        · show Steps p.tables e below (s₁.setTop (mkF m 26 #[.val (.int p0)] [])) _
          refine XS.iloadN X0.here hx rfl (hb hby d1_26) rfl ?_
          show Steps p.tables e below (s₁.setTop (mkF m 27 #[.val (.int p0)] [(.int p0)])) _
          refine XS.iconst X0.here hx rfl (hb hby d1_27) ?_
          exact k
        by_cases hc28 : p0 = (3 : Int32)
        · refine own_go (B := s₁.setTop (mkF m 31 #[.val (.int p0)] [])) (fun t k => ?_) ?_
          · show Steps p.tables e below (s₁.setTop (mkF m 28 #[.val (.int p0)] [(.int (3 : Int32)), (.int p0)])) _
            refine XS.icmpNo X0.here hx rfl (hb hby d1_28) rfl (teq hc28).2 ?_
            exact k
          obtain ⟨T_4, X_4, e_4, st_4⟩ := getS2 X0 hx hZ hown (host := "") (Or.inl (hw _ (List.mem_of_getElem? (i := 40) rfl))) Via.refl e0 (hS.2.2.2.1) (g := (mkF m 31 #[.val (.int p0)] [])) rfl (hb hby d1_31)
          refine own_go (B := T_4.setTop (mkF m 34 #[.val (.int p0)] [(.ref (ad 3))])) (fun t k => st_4 t k) ?_
          obtain ⟨fs, hr, hrun, hended, hW, hsame⟩ := X_4.leave (v := some (.ref (ad 3))) (fun h => by rw [Bd.returns] at h; cases h)
          refine ⟨_, _, ?_, hrun, hended, _, _, rfl, ?_, ⟨_, rfl⟩, hW, hsame.mono (by decide) (by decide)⟩
          · show Steps p.tables e below (T_4.setTop (mkF m 34 #[.val (.int p0)] [(.ref (ad 3))])) _
            jvm_step X_4.here [X_4.here.top, hx, (hb hby d1_34), X_4.method', Bd.returns, Value.isRef, FieldType.isReference]
            first | (intro acts; rw [hr _ acts rfl rfl rfl]) | rw [hr _ _ rfl rfl rfl]
            exact Steps.refl _
          · show Q1 Z p0 ad h0 n0 _ T_4.heap _
            rw [e_4]
            exact ⟨by simp only [own_pick, if_neg hc1, if_neg hc10, if_neg hc19, if_pos hc28], N0, rfl⟩
        · refine own_go (B := s₁.setTop (mkF m 35 #[.val (.int p0)] [])) (fun t k => ?_) ?_
          · show Steps p.tables e below (s₁.setTop (mkF m 28 #[.val (.int p0)] [(.int (3 : Int32)), (.int p0)])) _
            refine XS.icmpYes X0.here hx rfl (pc0 := 28) (pc' := 35) rfl (hb hby d1_28) rfl (feq hc28).2 (by decide) (by decide) ?_
            exact k
          refine own_go (B := s₁.setTop (mkF m 37 #[.val (.int p0)] [(.int (4 : Int32)), (.int p0)])) (fun t k => ?_) ?_
          · show Steps p.tables e below (s₁.setTop (mkF m 35 #[.val (.int p0)] [])) _
            refine XS.iloadN X0.here hx rfl (hb hby d1_35) rfl ?_
            show Steps p.tables e below (s₁.setTop (mkF m 36 #[.val (.int p0)] [(.int p0)])) _
            refine XS.iconst X0.here hx rfl (hb hby d1_36) ?_
            exact k
          by_cases hc37 : p0 = (4 : Int32)
          · refine own_go (B := s₁.setTop (mkF m 40 #[.val (.int p0)] [])) (fun t k => ?_) ?_
            · show Steps p.tables e below (s₁.setTop (mkF m 37 #[.val (.int p0)] [(.int (4 : Int32)), (.int p0)])) _
              refine XS.icmpNo X0.here hx rfl (hb hby d1_37) rfl (teq hc37).2 ?_
              exact k
            obtain ⟨T_5, X_5, e_5, st_5⟩ := getS2 X0 hx hZ hown (host := "") (Or.inl (hw _ (List.mem_of_getElem? (i := 60) rfl))) Via.refl e0 (hS.2.2.2.2.1) (g := (mkF m 40 #[.val (.int p0)] [])) rfl (hb hby d1_40)
            refine own_go (B := T_5.setTop (mkF m 43 #[.val (.int p0)] [(.ref (ad 4))])) (fun t k => st_5 t k) ?_
            obtain ⟨fs, hr, hrun, hended, hW, hsame⟩ := X_5.leave (v := some (.ref (ad 4))) (fun h => by rw [Bd.returns] at h; cases h)
            refine ⟨_, _, ?_, hrun, hended, _, _, rfl, ?_, ⟨_, rfl⟩, hW, hsame.mono (by decide) (by decide)⟩
            · show Steps p.tables e below (T_5.setTop (mkF m 43 #[.val (.int p0)] [(.ref (ad 4))])) _
              jvm_step X_5.here [X_5.here.top, hx, (hb hby d1_43), X_5.method', Bd.returns, Value.isRef, FieldType.isReference]
              first | (intro acts; rw [hr _ acts rfl rfl rfl]) | rw [hr _ _ rfl rfl rfl]
              exact Steps.refl _
            · show Q1 Z p0 ad h0 n0 _ T_5.heap _
              rw [e_5]
              exact ⟨by simp only [own_pick, if_neg hc1, if_neg hc10, if_neg hc19, if_neg hc28, if_pos hc37], N0, rfl⟩
          · refine own_go (B := s₁.setTop (mkF m 44 #[.val (.int p0)] [])) (fun t k => ?_) ?_
            · show Steps p.tables e below (s₁.setTop (mkF m 37 #[.val (.int p0)] [(.int (4 : Int32)), (.int p0)])) _
              refine XS.icmpYes X0.here hx rfl (pc0 := 37) (pc' := 44) rfl (hb hby d1_37) rfl (feq hc37).2 (by decide) (by decide) ?_
              exact k
            refine own_go (B := s₁.setTop (mkF m 46 #[.val (.int p0)] [(.int (5 : Int32)), (.int p0)])) (fun t k => ?_) ?_
            · show Steps p.tables e below (s₁.setTop (mkF m 44 #[.val (.int p0)] [])) _
              refine XS.iloadN X0.here hx rfl (hb hby d1_44) rfl ?_
              show Steps p.tables e below (s₁.setTop (mkF m 45 #[.val (.int p0)] [(.int p0)])) _
              refine XS.iconst X0.here hx rfl (hb hby d1_45) ?_
              exact k
            by_cases hc46 : p0 = (5 : Int32)
            · refine own_go (B := s₁.setTop (mkF m 49 #[.val (.int p0)] [])) (fun t k => ?_) ?_
              · show Steps p.tables e below (s₁.setTop (mkF m 46 #[.val (.int p0)] [(.int (5 : Int32)), (.int p0)])) _
                refine XS.icmpNo X0.here hx rfl (hb hby d1_46) rfl (teq hc46).2 ?_
                exact k
              obtain ⟨T_6, X_6, e_6, st_6⟩ := getS2 X0 hx hZ hown (host := "") (Or.inl (hw _ (List.mem_of_getElem? (i := 30) rfl))) Via.refl e0 (hS.2.2.2.2.2.1) (g := (mkF m 49 #[.val (.int p0)] [])) rfl (hb hby d1_49)
              refine own_go (B := T_6.setTop (mkF m 52 #[.val (.int p0)] [(.ref (ad 5))])) (fun t k => st_6 t k) ?_
              obtain ⟨fs, hr, hrun, hended, hW, hsame⟩ := X_6.leave (v := some (.ref (ad 5))) (fun h => by rw [Bd.returns] at h; cases h)
              refine ⟨_, _, ?_, hrun, hended, _, _, rfl, ?_, ⟨_, rfl⟩, hW, hsame.mono (by decide) (by decide)⟩
              · show Steps p.tables e below (T_6.setTop (mkF m 52 #[.val (.int p0)] [(.ref (ad 5))])) _
                jvm_step X_6.here [X_6.here.top, hx, (hb hby d1_52), X_6.method', Bd.returns, Value.isRef, FieldType.isReference]
                first | (intro acts; rw [hr _ acts rfl rfl rfl]) | rw [hr _ _ rfl rfl rfl]
                exact Steps.refl _
              · show Q1 Z p0 ad h0 n0 _ T_6.heap _
                rw [e_6]
                exact ⟨by simp only [own_pick, if_neg hc1, if_neg hc10, if_neg hc19, if_neg hc28, if_neg hc37, if_pos hc46], N0, rfl⟩
            · refine own_go (B := s₁.setTop (mkF m 53 #[.val (.int p0)] [])) (fun t k => ?_) ?_
              · show Steps p.tables e below (s₁.setTop (mkF m 46 #[.val (.int p0)] [(.int (5 : Int32)), (.int p0)])) _
                refine XS.icmpYes X0.here hx rfl (pc0 := 46) (pc' := 53) rfl (hb hby d1_46) rfl (feq hc46).2 (by decide) (by decide) ?_
                exact k
              refine own_go (B := s₁.setTop (mkF m 56 #[.val (.int p0)] [(.int (6 : Int32)), (.int p0)])) (fun t k => ?_) ?_
              · show Steps p.tables e below (s₁.setTop (mkF m 53 #[.val (.int p0)] [])) _
                refine XS.iloadN X0.here hx rfl (hb hby d1_53) rfl ?_
                show Steps p.tables e below (s₁.setTop (mkF m 54 #[.val (.int p0)] [(.int p0)])) _
                refine XS.bipush X0.here hx rfl (hb hby d1_54) ?_
                exact k
              by_cases hc56 : p0 = (6 : Int32)
              · refine own_go (B := s₁.setTop (mkF m 59 #[.val (.int p0)] [])) (fun t k => ?_) ?_
                · show Steps p.tables e below (s₁.setTop (mkF m 56 #[.val (.int p0)] [(.int (6 : Int32)), (.int p0)])) _
                  refine XS.icmpNo X0.here hx rfl (hb hby d1_56) rfl (teq hc56).2 ?_
                  exact k
                obtain ⟨T_7, X_7, e_7, st_7⟩ := getS2 X0 hx hZ hown (host := "") (Or.inl (hw _ (List.mem_of_getElem? (i := 58) rfl))) Via.refl e0 (hS.2.2.2.2.2.2.1) (g := (mkF m 59 #[.val (.int p0)] [])) rfl (hb hby d1_59)
                refine own_go (B := T_7.setTop (mkF m 62 #[.val (.int p0)] [(.ref (ad 6))])) (fun t k => st_7 t k) ?_
                obtain ⟨fs, hr, hrun, hended, hW, hsame⟩ := X_7.leave (v := some (.ref (ad 6))) (fun h => by rw [Bd.returns] at h; cases h)
                refine ⟨_, _, ?_, hrun, hended, _, _, rfl, ?_, ⟨_, rfl⟩, hW, hsame.mono (by decide) (by decide)⟩
                · show Steps p.tables e below (T_7.setTop (mkF m 62 #[.val (.int p0)] [(.ref (ad 6))])) _
                  jvm_step X_7.here [X_7.here.top, hx, (hb hby d1_62), X_7.method', Bd.returns, Value.isRef, FieldType.isReference]
                  first | (intro acts; rw [hr _ acts rfl rfl rfl]) | rw [hr _ _ rfl rfl rfl]
                  exact Steps.refl _
                · show Q1 Z p0 ad h0 n0 _ T_7.heap _
                  rw [e_7]
                  exact ⟨by simp only [own_pick, if_neg hc1, if_neg hc10, if_neg hc19, if_neg hc28, if_neg hc37, if_neg hc46, if_pos hc56], N0, rfl⟩
              · refine own_go (B := s₁.setTop (mkF m 63 #[.val (.int p0)] [])) (fun t k => ?_) ?_
                · show Steps p.tables e below (s₁.setTop (mkF m 56 #[.val (.int p0)] [(.int (6 : Int32)), (.int p0)])) _
                  refine XS.icmpYes X0.here hx rfl (pc0 := 56) (pc' := 63) rfl (hb hby d1_56) rfl (feq hc56).2 (by decide) (by decide) ?_
                  exact k
                refine own_go (B := s₁.setTop (mkF m 66 #[.val (.int p0)] [(.int (7 : Int32)), (.int p0)])) (fun t k => ?_) ?_
                · show Steps p.tables e below (s₁.setTop (mkF m 63 #[.val (.int p0)] [])) _
                  refine XS.iloadN X0.here hx rfl (hb hby d1_63) rfl ?_
                  show Steps p.tables e below (s₁.setTop (mkF m 64 #[.val (.int p0)] [(.int p0)])) _
                  refine XS.bipush X0.here hx rfl (hb hby d1_64) ?_
                  exact k
                by_cases hc66 : p0 = (7 : Int32)
                · refine own_go (B := s₁.setTop (mkF m 69 #[.val (.int p0)] [])) (fun t k => ?_) ?_
                  · show Steps p.tables e below (s₁.setTop (mkF m 66 #[.val (.int p0)] [(.int (7 : Int32)), (.int p0)])) _
                    refine XS.icmpNo X0.here hx rfl (hb hby d1_66) rfl (teq hc66).2 ?_
                    exact k
                  obtain ⟨T_8, X_8, e_8, st_8⟩ := getS2 X0 hx hZ hown (host := "") (Or.inl (hw _ (List.mem_of_getElem? (i := 52) rfl))) Via.refl e0 (hS.2.2.2.2.2.2.2.1) (g := (mkF m 69 #[.val (.int p0)] [])) rfl (hb hby d1_69)
                  refine own_go (B := T_8.setTop (mkF m 72 #[.val (.int p0)] [(.ref (ad 7))])) (fun t k => st_8 t k) ?_
                  obtain ⟨fs, hr, hrun, hended, hW, hsame⟩ := X_8.leave (v := some (.ref (ad 7))) (fun h => by rw [Bd.returns] at h; cases h)
                  refine ⟨_, _, ?_, hrun, hended, _, _, rfl, ?_, ⟨_, rfl⟩, hW, hsame.mono (by decide) (by decide)⟩
                  · show Steps p.tables e below (T_8.setTop (mkF m 72 #[.val (.int p0)] [(.ref (ad 7))])) _
                    jvm_step X_8.here [X_8.here.top, hx, (hb hby d1_72), X_8.method', Bd.returns, Value.isRef, FieldType.isReference]
                    first | (intro acts; rw [hr _ acts rfl rfl rfl]) | rw [hr _ _ rfl rfl rfl]
                    exact Steps.refl _
                  · show Q1 Z p0 ad h0 n0 _ T_8.heap _
                    rw [e_8]
                    exact ⟨by simp only [own_pick, if_neg hc1, if_neg hc10, if_neg hc19, if_neg hc28, if_neg hc37, if_neg hc46, if_neg hc56, if_pos hc66], N0, rfl⟩
                · refine own_go (B := s₁.setTop (mkF m 73 #[.val (.int p0)] [])) (fun t k => ?_) ?_
                  · show Steps p.tables e below (s₁.setTop (mkF m 66 #[.val (.int p0)] [(.int (7 : Int32)), (.int p0)])) _
                    refine XS.icmpYes X0.here hx rfl (pc0 := 66) (pc' := 73) rfl (hb hby d1_66) rfl (feq hc66).2 (by decide) (by decide) ?_
                    exact k
                  refine own_go (B := s₁.setTop (mkF m 76 #[.val (.int p0)] [(.int (8 : Int32)), (.int p0)])) (fun t k => ?_) ?_
                  · show Steps p.tables e below (s₁.setTop (mkF m 73 #[.val (.int p0)] [])) _
                    refine XS.iloadN X0.here hx rfl (hb hby d1_73) rfl ?_
                    show Steps p.tables e below (s₁.setTop (mkF m 74 #[.val (.int p0)] [(.int p0)])) _
                    refine XS.bipush X0.here hx rfl (hb hby d1_74) ?_
                    exact k
                  by_cases hc76 : p0 = (8 : Int32)
                  · refine own_go (B := s₁.setTop (mkF m 79 #[.val (.int p0)] [])) (fun t k => ?_) ?_
                    · show Steps p.tables e below (s₁.setTop (mkF m 76 #[.val (.int p0)] [(.int (8 : Int32)), (.int p0)])) _
                      refine XS.icmpNo X0.here hx rfl (hb hby d1_76) rfl (teq hc76).2 ?_
                      exact k
                    obtain ⟨T_9, X_9, e_9, st_9⟩ := getS2 X0 hx hZ hown (host := "") (Or.inl (hw _ (List.mem_of_getElem? (i := 38) rfl))) Via.refl e0 (hS.2.2.2.2.2.2.2.2.1) (g := (mkF m 79 #[.val (.int p0)] [])) rfl (hb hby d1_79)
                    refine own_go (B := T_9.setTop (mkF m 82 #[.val (.int p0)] [(.ref (ad 8))])) (fun t k => st_9 t k) ?_
                    obtain ⟨fs, hr, hrun, hended, hW, hsame⟩ := X_9.leave (v := some (.ref (ad 8))) (fun h => by rw [Bd.returns] at h; cases h)
                    refine ⟨_, _, ?_, hrun, hended, _, _, rfl, ?_, ⟨_, rfl⟩, hW, hsame.mono (by decide) (by decide)⟩
                    · show Steps p.tables e below (T_9.setTop (mkF m 82 #[.val (.int p0)] [(.ref (ad 8))])) _
                      jvm_step X_9.here [X_9.here.top, hx, (hb hby d1_82), X_9.method', Bd.returns, Value.isRef, FieldType.isReference]
                      first | (intro acts; rw [hr _ acts rfl rfl rfl]) | rw [hr _ _ rfl rfl rfl]
                      exact Steps.refl _
                    · show Q1 Z p0 ad h0 n0 _ T_9.heap _
                      rw [e_9]
                      exact ⟨by simp only [own_pick, if_neg hc1, if_neg hc10, if_neg hc19, if_neg hc28, if_neg hc37, if_neg hc46, if_neg hc56, if_neg hc66, if_pos hc76], N0, rfl⟩
                  · refine own_go (B := s₁.setTop (mkF m 83 #[.val (.int p0)] [])) (fun t k => ?_) ?_
                    · show Steps p.tables e below (s₁.setTop (mkF m 76 #[.val (.int p0)] [(.int (8 : Int32)), (.int p0)])) _
                      refine XS.icmpYes X0.here hx rfl (pc0 := 76) (pc' := 83) rfl (hb hby d1_76) rfl (feq hc76).2 (by decide) (by decide) ?_
                      exact k
                    refine own_go (B := s₁.setTop (mkF m 86 #[.val (.int p0)] [(.int (9 : Int32)), (.int p0)])) (fun t k => ?_) ?_
                    · show Steps p.tables e below (s₁.setTop (mkF m 83 #[.val (.int p0)] [])) _
                      refine XS.iloadN X0.here hx rfl (hb hby d1_83) rfl ?_
                      show Steps p.tables e below (s₁.setTop (mkF m 84 #[.val (.int p0)] [(.int p0)])) _
                      refine XS.bipush X0.here hx rfl (hb hby d1_84) ?_
                      exact k
                    by_cases hc86 : p0 = (9 : Int32)
                    · refine own_go (B := s₁.setTop (mkF m 89 #[.val (.int p0)] [])) (fun t k => ?_) ?_
                      · show Steps p.tables e below (s₁.setTop (mkF m 86 #[.val (.int p0)] [(.int (9 : Int32)), (.int p0)])) _
                        refine XS.icmpNo X0.here hx rfl (hb hby d1_86) rfl (teq hc86).2 ?_
                        exact k
                      obtain ⟨T_10, X_10, e_10, st_10⟩ := getS2 X0 hx hZ hown (host := "") (Or.inl (hw _ (List.mem_of_getElem? (i := 34) rfl))) Via.refl e0 (hS.2.2.2.2.2.2.2.2.2.1) (g := (mkF m 89 #[.val (.int p0)] [])) rfl (hb hby d1_89)
                      refine own_go (B := T_10.setTop (mkF m 92 #[.val (.int p0)] [(.ref (ad 9))])) (fun t k => st_10 t k) ?_
                      obtain ⟨fs, hr, hrun, hended, hW, hsame⟩ := X_10.leave (v := some (.ref (ad 9))) (fun h => by rw [Bd.returns] at h; cases h)
                      refine ⟨_, _, ?_, hrun, hended, _, _, rfl, ?_, ⟨_, rfl⟩, hW, hsame.mono (by decide) (by decide)⟩
                      · show Steps p.tables e below (T_10.setTop (mkF m 92 #[.val (.int p0)] [(.ref (ad 9))])) _
                        jvm_step X_10.here [X_10.here.top, hx, (hb hby d1_92), X_10.method', Bd.returns, Value.isRef, FieldType.isReference]
                        first | (intro acts; rw [hr _ acts rfl rfl rfl]) | rw [hr _ _ rfl rfl rfl]
                        exact Steps.refl _
                      · show Q1 Z p0 ad h0 n0 _ T_10.heap _
                        rw [e_10]
                        exact ⟨by simp only [own_pick, if_neg hc1, if_neg hc10, if_neg hc19, if_neg hc28, if_neg hc37, if_neg hc46, if_neg hc56, if_neg hc66, if_neg hc76, if_pos hc86], N0, rfl⟩
                    · refine own_go (B := s₁.setTop (mkF m 93 #[.val (.int p0)] [])) (fun t k => ?_) ?_
                      · show Steps p.tables e below (s₁.setTop (mkF m 86 #[.val (.int p0)] [(.int (9 : Int32)), (.int p0)])) _
                        refine XS.icmpYes X0.here hx rfl (pc0 := 86) (pc' := 93) rfl (hb hby d1_86) rfl (feq hc86).2 (by decide) (by decide) ?_
                        exact k
                      refine own_go (B := s₁.setTop (mkF m 96 #[.val (.int p0)] [(.int (10 : Int32)), (.int p0)])) (fun t k => ?_) ?_
                      · show Steps p.tables e below (s₁.setTop (mkF m 93 #[.val (.int p0)] [])) _
                        refine XS.iloadN X0.here hx rfl (hb hby d1_93) rfl ?_
                        show Steps p.tables e below (s₁.setTop (mkF m 94 #[.val (.int p0)] [(.int p0)])) _
                        refine XS.bipush X0.here hx rfl (hb hby d1_94) ?_
                        exact k
                      by_cases hc96 : p0 = (10 : Int32)
                      · refine own_go (B := s₁.setTop (mkF m 99 #[.val (.int p0)] [])) (fun t k => ?_) ?_
                        · show Steps p.tables e below (s₁.setTop (mkF m 96 #[.val (.int p0)] [(.int (10 : Int32)), (.int p0)])) _
                          refine XS.icmpNo X0.here hx rfl (hb hby d1_96) rfl (teq hc96).2 ?_
                          exact k
                        obtain ⟨T_11, X_11, e_11, st_11⟩ := getS2 X0 hx hZ hown (host := "") (Or.inl (hw _ (List.mem_of_getElem? (i := 36) rfl))) Via.refl e0 (hS.2.2.2.2.2.2.2.2.2.2.1) (g := (mkF m 99 #[.val (.int p0)] [])) rfl (hb hby d1_99)
                        refine own_go (B := T_11.setTop (mkF m 102 #[.val (.int p0)] [(.ref (ad 10))])) (fun t k => st_11 t k) ?_
                        obtain ⟨fs, hr, hrun, hended, hW, hsame⟩ := X_11.leave (v := some (.ref (ad 10))) (fun h => by rw [Bd.returns] at h; cases h)
                        refine ⟨_, _, ?_, hrun, hended, _, _, rfl, ?_, ⟨_, rfl⟩, hW, hsame.mono (by decide) (by decide)⟩
                        · show Steps p.tables e below (T_11.setTop (mkF m 102 #[.val (.int p0)] [(.ref (ad 10))])) _
                          jvm_step X_11.here [X_11.here.top, hx, (hb hby d1_102), X_11.method', Bd.returns, Value.isRef, FieldType.isReference]
                          first | (intro acts; rw [hr _ acts rfl rfl rfl]) | rw [hr _ _ rfl rfl rfl]
                          exact Steps.refl _
                        · show Q1 Z p0 ad h0 n0 _ T_11.heap _
                          rw [e_11]
                          exact ⟨by simp only [own_pick, if_neg hc1, if_neg hc10, if_neg hc19, if_neg hc28, if_neg hc37, if_neg hc46, if_neg hc56, if_neg hc66, if_neg hc76, if_neg hc86, if_pos hc96], N0, rfl⟩
                      · refine own_go (B := s₁.setTop (mkF m 103 #[.val (.int p0)] [])) (fun t k => ?_) ?_
                        · show Steps p.tables e below (s₁.setTop (mkF m 96 #[.val (.int p0)] [(.int (10 : Int32)), (.int p0)])) _
                          refine XS.icmpYes X0.here hx rfl (pc0 := 96) (pc' := 103) rfl (hb hby d1_96) rfl (feq hc96).2 (by decide) (by decide) ?_
                          exact k
                        refine own_go (B := s₁.setTop (mkF m 106 #[.val (.int p0)] [(.int (11 : Int32)), (.int p0)])) (fun t k => ?_) ?_
                        · show Steps p.tables e below (s₁.setTop (mkF m 103 #[.val (.int p0)] [])) _
                          refine XS.iloadN X0.here hx rfl (hb hby d1_103) rfl ?_
                          show Steps p.tables e below (s₁.setTop (mkF m 104 #[.val (.int p0)] [(.int p0)])) _
                          refine XS.bipush X0.here hx rfl (hb hby d1_104) ?_
                          exact k
                        by_cases hc106 : p0 = (11 : Int32)
                        · refine own_go (B := s₁.setTop (mkF m 109 #[.val (.int p0)] [])) (fun t k => ?_) ?_
                          · show Steps p.tables e below (s₁.setTop (mkF m 106 #[.val (.int p0)] [(.int (11 : Int32)), (.int p0)])) _
                            refine XS.icmpNo X0.here hx rfl (hb hby d1_106) rfl (teq hc106).2 ?_
                            exact k
                          obtain ⟨T_12, X_12, e_12, st_12⟩ := getS2 X0 hx hZ hown (host := "") (Or.inl (hw _ (List.mem_of_getElem? (i := 48) rfl))) Via.refl e0 (hS.2.2.2.2.2.2.2.2.2.2.2.1) (g := (mkF m 109 #[.val (.int p0)] [])) rfl (hb hby d1_109)
                          refine own_go (B := T_12.setTop (mkF m 112 #[.val (.int p0)] [(.ref (ad 11))])) (fun t k => st_12 t k) ?_
                          obtain ⟨fs, hr, hrun, hended, hW, hsame⟩ := X_12.leave (v := some (.ref (ad 11))) (fun h => by rw [Bd.returns] at h; cases h)
                          refine ⟨_, _, ?_, hrun, hended, _, _, rfl, ?_, ⟨_, rfl⟩, hW, hsame.mono (by decide) (by decide)⟩
                          · show Steps p.tables e below (T_12.setTop (mkF m 112 #[.val (.int p0)] [(.ref (ad 11))])) _
                            jvm_step X_12.here [X_12.here.top, hx, (hb hby d1_112), X_12.method', Bd.returns, Value.isRef, FieldType.isReference]
                            first | (intro acts; rw [hr _ acts rfl rfl rfl]) | rw [hr _ _ rfl rfl rfl]
                            exact Steps.refl _
                          · show Q1 Z p0 ad h0 n0 _ T_12.heap _
                            rw [e_12]
                            exact ⟨by simp only [own_pick, if_neg hc1, if_neg hc10, if_neg hc19, if_neg hc28, if_neg hc37, if_neg hc46, if_neg hc56, if_neg hc66, if_neg hc76, if_neg hc86, if_neg hc96, if_pos hc106], N0, rfl⟩
                        · refine own_go (B := s₁.setTop (mkF m 113 #[.val (.int p0)] [])) (fun t k => ?_) ?_
                          · show Steps p.tables e below (s₁.setTop (mkF m 106 #[.val (.int p0)] [(.int (11 : Int32)), (.int p0)])) _
                            refine XS.icmpYes X0.here hx rfl (pc0 := 106) (pc' := 113) rfl (hb hby d1_106) rfl (feq hc106).2 (by decide) (by decide) ?_
                            exact k
                          refine own_go (B := s₁.setTop (mkF m 116 #[.val (.int p0)] [(.int (12 : Int32)), (.int p0)])) (fun t k => ?_) ?_
                          · show Steps p.tables e below (s₁.setTop (mkF m 113 #[.val (.int p0)] [])) _
                            refine XS.iloadN X0.here hx rfl (hb hby d1_113) rfl ?_
                            show Steps p.tables e below (s₁.setTop (mkF m 114 #[.val (.int p0)] [(.int p0)])) _
                            refine XS.bipush X0.here hx rfl (hb hby d1_114) ?_
                            exact k
                          by_cases hc116 : p0 = (12 : Int32)
                          · refine own_go (B := s₁.setTop (mkF m 119 #[.val (.int p0)] [])) (fun t k => ?_) ?_
                            · show Steps p.tables e below (s₁.setTop (mkF m 116 #[.val (.int p0)] [(.int (12 : Int32)), (.int p0)])) _
                              refine XS.icmpNo X0.here hx rfl (hb hby d1_116) rfl (teq hc116).2 ?_
                              exact k
                            obtain ⟨T_13, X_13, e_13, st_13⟩ := getS2 X0 hx hZ hown (host := "") (Or.inl (hw _ (List.mem_of_getElem? (i := 32) rfl))) Via.refl e0 (hS.2.2.2.2.2.2.2.2.2.2.2.2.1) (g := (mkF m 119 #[.val (.int p0)] [])) rfl (hb hby d1_119)
                            refine own_go (B := T_13.setTop (mkF m 122 #[.val (.int p0)] [(.ref (ad 12))])) (fun t k => st_13 t k) ?_
                            obtain ⟨fs, hr, hrun, hended, hW, hsame⟩ := X_13.leave (v := some (.ref (ad 12))) (fun h => by rw [Bd.returns] at h; cases h)
                            refine ⟨_, _, ?_, hrun, hended, _, _, rfl, ?_, ⟨_, rfl⟩, hW, hsame.mono (by decide) (by decide)⟩
                            · show Steps p.tables e below (T_13.setTop (mkF m 122 #[.val (.int p0)] [(.ref (ad 12))])) _
                              jvm_step X_13.here [X_13.here.top, hx, (hb hby d1_122), X_13.method', Bd.returns, Value.isRef, FieldType.isReference]
                              first | (intro acts; rw [hr _ acts rfl rfl rfl]) | rw [hr _ _ rfl rfl rfl]
                              exact Steps.refl _
                            · show Q1 Z p0 ad h0 n0 _ T_13.heap _
                              rw [e_13]
                              exact ⟨by simp only [own_pick, if_neg hc1, if_neg hc10, if_neg hc19, if_neg hc28, if_neg hc37, if_neg hc46, if_neg hc56, if_neg hc66, if_neg hc76, if_neg hc86, if_neg hc96, if_neg hc106, if_pos hc116], N0, rfl⟩
                          · refine own_go (B := s₁.setTop (mkF m 123 #[.val (.int p0)] [])) (fun t k => ?_) ?_
                            · show Steps p.tables e below (s₁.setTop (mkF m 116 #[.val (.int p0)] [(.int (12 : Int32)), (.int p0)])) _
                              refine XS.icmpYes X0.here hx rfl (pc0 := 116) (pc' := 123) rfl (hb hby d1_116) rfl (feq hc116).2 (by decide) (by decide) ?_
                              exact k
                            refine own_go (B := s₁.setTop (mkF m 126 #[.val (.int p0)] [(.int (13 : Int32)), (.int p0)])) (fun t k => ?_) ?_
                            · show Steps p.tables e below (s₁.setTop (mkF m 123 #[.val (.int p0)] [])) _
                              refine XS.iloadN X0.here hx rfl (hb hby d1_123) rfl ?_
                              show Steps p.tables e below (s₁.setTop (mkF m 124 #[.val (.int p0)] [(.int p0)])) _
                              refine XS.bipush X0.here hx rfl (hb hby d1_124) ?_
                              exact k
                            by_cases hc126 : p0 = (13 : Int32)
                            · refine own_go (B := s₁.setTop (mkF m 129 #[.val (.int p0)] [])) (fun t k => ?_) ?_
                              · show Steps p.tables e below (s₁.setTop (mkF m 126 #[.val (.int p0)] [(.int (13 : Int32)), (.int p0)])) _
                                refine XS.icmpNo X0.here hx rfl (hb hby d1_126) rfl (teq hc126).2 ?_
                                exact k
                              obtain ⟨T_14, X_14, e_14, st_14⟩ := getS2 X0 hx hZ hown (host := "") (Or.inl (hw _ (List.mem_of_getElem? (i := 22) rfl))) Via.refl e0 (hS.2.2.2.2.2.2.2.2.2.2.2.2.2.1) (g := (mkF m 129 #[.val (.int p0)] [])) rfl (hb hby d1_129)
                              refine own_go (B := T_14.setTop (mkF m 132 #[.val (.int p0)] [(.ref (ad 13))])) (fun t k => st_14 t k) ?_
                              obtain ⟨fs, hr, hrun, hended, hW, hsame⟩ := X_14.leave (v := some (.ref (ad 13))) (fun h => by rw [Bd.returns] at h; cases h)
                              refine ⟨_, _, ?_, hrun, hended, _, _, rfl, ?_, ⟨_, rfl⟩, hW, hsame.mono (by decide) (by decide)⟩
                              · show Steps p.tables e below (T_14.setTop (mkF m 132 #[.val (.int p0)] [(.ref (ad 13))])) _
                                jvm_step X_14.here [X_14.here.top, hx, (hb hby d1_132), X_14.method', Bd.returns, Value.isRef, FieldType.isReference]
                                first | (intro acts; rw [hr _ acts rfl rfl rfl]) | rw [hr _ _ rfl rfl rfl]
                                exact Steps.refl _
                              · show Q1 Z p0 ad h0 n0 _ T_14.heap _
                                rw [e_14]
                                exact ⟨by simp only [own_pick, if_neg hc1, if_neg hc10, if_neg hc19, if_neg hc28, if_neg hc37, if_neg hc46, if_neg hc56, if_neg hc66, if_neg hc76, if_neg hc86, if_neg hc96, if_neg hc106, if_neg hc116, if_pos hc126], N0, rfl⟩
                            · refine own_go (B := s₁.setTop (mkF m 133 #[.val (.int p0)] [])) (fun t k => ?_) ?_
                              · show Steps p.tables e below (s₁.setTop (mkF m 126 #[.val (.int p0)] [(.int (13 : Int32)), (.int p0)])) _
                                refine XS.icmpYes X0.here hx rfl (pc0 := 126) (pc' := 133) rfl (hb hby d1_126) rfl (feq hc126).2 (by decide) (by decide) ?_
                                exact k
                              refine own_go (B := s₁.setTop (mkF m 136 #[.val (.int p0)] [(.int (14 : Int32)), (.int p0)])) (fun t k => ?_) ?_
                              · show Steps p.tables e below (s₁.setTop (mkF m 133 #[.val (.int p0)] [])) _
                                refine XS.iloadN X0.here hx rfl (hb hby d1_133) rfl ?_
                                show Steps p.tables e below (s₁.setTop (mkF m 134 #[.val (.int p0)] [(.int p0)])) _
                                refine XS.bipush X0.here hx rfl (hb hby d1_134) ?_
                                exact k
                              by_cases hc136 : p0 = (14 : Int32)
                              · refine own_go (B := s₁.setTop (mkF m 139 #[.val (.int p0)] [])) (fun t k => ?_) ?_
                                · show Steps p.tables e below (s₁.setTop (mkF m 136 #[.val (.int p0)] [(.int (14 : Int32)), (.int p0)])) _
                                  refine XS.icmpNo X0.here hx rfl (hb hby d1_136) rfl (teq hc136).2 ?_
                                  exact k
                                obtain ⟨T_15, X_15, e_15, st_15⟩ := getS2 X0 hx hZ hown (host := "") (Or.inl (hw _ (List.mem_of_getElem? (i := 54) rfl))) Via.refl e0 (hS.2.2.2.2.2.2.2.2.2.2.2.2.2.2.1) (g := (mkF m 139 #[.val (.int p0)] [])) rfl (hb hby d1_139)
                                refine own_go (B := T_15.setTop (mkF m 142 #[.val (.int p0)] [(.ref (ad 14))])) (fun t k => st_15 t k) ?_
                                obtain ⟨fs, hr, hrun, hended, hW, hsame⟩ := X_15.leave (v := some (.ref (ad 14))) (fun h => by rw [Bd.returns] at h; cases h)
                                refine ⟨_, _, ?_, hrun, hended, _, _, rfl, ?_, ⟨_, rfl⟩, hW, hsame.mono (by decide) (by decide)⟩
                                · show Steps p.tables e below (T_15.setTop (mkF m 142 #[.val (.int p0)] [(.ref (ad 14))])) _
                                  jvm_step X_15.here [X_15.here.top, hx, (hb hby d1_142), X_15.method', Bd.returns, Value.isRef, FieldType.isReference]
                                  first | (intro acts; rw [hr _ acts rfl rfl rfl]) | rw [hr _ _ rfl rfl rfl]
                                  exact Steps.refl _
                                · show Q1 Z p0 ad h0 n0 _ T_15.heap _
                                  rw [e_15]
                                  exact ⟨by simp only [own_pick, if_neg hc1, if_neg hc10, if_neg hc19, if_neg hc28, if_neg hc37, if_neg hc46, if_neg hc56, if_neg hc66, if_neg hc76, if_neg hc86, if_neg hc96, if_neg hc106, if_neg hc116, if_neg hc126, if_pos hc136], N0, rfl⟩
                              · refine own_go (B := s₁.setTop (mkF m 143 #[.val (.int p0)] [])) (fun t k => ?_) ?_
                                · show Steps p.tables e below (s₁.setTop (mkF m 136 #[.val (.int p0)] [(.int (14 : Int32)), (.int p0)])) _
                                  refine XS.icmpYes X0.here hx rfl (pc0 := 136) (pc' := 143) rfl (hb hby d1_136) rfl (feq hc136).2 (by decide) (by decide) ?_
                                  exact k
                                refine own_go (B := s₁.setTop (mkF m 146 #[.val (.int p0)] [(.int (15 : Int32)), (.int p0)])) (fun t k => ?_) ?_
                                · show Steps p.tables e below (s₁.setTop (mkF m 143 #[.val (.int p0)] [])) _
                                  refine XS.iloadN X0.here hx rfl (hb hby d1_143) rfl ?_
                                  show Steps p.tables e below (s₁.setTop (mkF m 144 #[.val (.int p0)] [(.int p0)])) _
                                  refine XS.bipush X0.here hx rfl (hb hby d1_144) ?_
                                  exact k
                                by_cases hc146 : p0 = (15 : Int32)
                                · refine own_go (B := s₁.setTop (mkF m 149 #[.val (.int p0)] [])) (fun t k => ?_) ?_
                                  · show Steps p.tables e below (s₁.setTop (mkF m 146 #[.val (.int p0)] [(.int (15 : Int32)), (.int p0)])) _
                                    refine XS.icmpNo X0.here hx rfl (hb hby d1_146) rfl (teq hc146).2 ?_
                                    exact k
                                  obtain ⟨T_16, X_16, e_16, st_16⟩ := getS2 X0 hx hZ hown (host := "") (Or.inl (hw _ (List.mem_of_getElem? (i := 56) rfl))) Via.refl e0 (hS.2.2.2.2.2.2.2.2.2.2.2.2.2.2.2.1) (g := (mkF m 149 #[.val (.int p0)] [])) rfl (hb hby d1_149)
                                  refine own_go (B := T_16.setTop (mkF m 152 #[.val (.int p0)] [(.ref (ad 15))])) (fun t k => st_16 t k) ?_
                                  obtain ⟨fs, hr, hrun, hended, hW, hsame⟩ := X_16.leave (v := some (.ref (ad 15))) (fun h => by rw [Bd.returns] at h; cases h)
                                  refine ⟨_, _, ?_, hrun, hended, _, _, rfl, ?_, ⟨_, rfl⟩, hW, hsame.mono (by decide) (by decide)⟩
                                  · show Steps p.tables e below (T_16.setTop (mkF m 152 #[.val (.int p0)] [(.ref (ad 15))])) _
                                    jvm_step X_16.here [X_16.here.top, hx, (hb hby d1_152), X_16.method', Bd.returns, Value.isRef, FieldType.isReference]
                                    first | (intro acts; rw [hr _ acts rfl rfl rfl]) | rw [hr _ _ rfl rfl rfl]
                                    exact Steps.refl _
                                  · show Q1 Z p0 ad h0 n0 _ T_16.heap _
                                    rw [e_16]
                                    exact ⟨by simp only [own_pick, if_neg hc1, if_neg hc10, if_neg hc19, if_neg hc28, if_neg hc37, if_neg hc46, if_neg hc56, if_neg hc66, if_neg hc76, if_neg hc86, if_neg hc96, if_neg hc106, if_neg hc116, if_neg hc126, if_neg hc136, if_pos hc146], N0, rfl⟩
                                · refine own_go (B := s₁.setTop (mkF m 153 #[.val (.int p0)] [])) (fun t k => ?_) ?_
                                  · show Steps p.tables e below (s₁.setTop (mkF m 146 #[.val (.int p0)] [(.int (15 : Int32)), (.int p0)])) _
                                    refine XS.icmpYes X0.here hx rfl (pc0 := 146) (pc' := 153) rfl (hb hby d1_146) rfl (feq hc146).2 (by decide) (by decide) ?_
                                    exact k
                                  refine own_go (B := s₁.setTop (mkF m 156 #[.val (.int p0)] [(.int (16 : Int32)), (.int p0)])) (fun t k => ?_) ?_
                                  · show Steps p.tables e below (s₁.setTop (mkF m 153 #[.val (.int p0)] [])) _
                                    refine XS.iloadN X0.here hx rfl (hb hby d1_153) rfl ?_
                                    show Steps p.tables e below (s₁.setTop (mkF m 154 #[.val (.int p0)] [(.int p0)])) _
                                    refine XS.bipush X0.here hx rfl (hb hby d1_154) ?_
                                    exact k
                                  by_cases hc156 : p0 = (16 : Int32)
                                  · refine own_go (B := s₁.setTop (mkF m 159 #[.val (.int p0)] [])) (fun t k => ?_) ?_
                                    · show Steps p.tables e below (s₁.setTop (mkF m 156 #[.val (.int p0)] [(.int (16 : Int32)), (.int p0)])) _
                                      refine XS.icmpNo X0.here hx rfl (hb hby d1_156) rfl (teq hc156).2 ?_
                                      exact k
                                    obtain ⟨T_17, X_17, e_17, st_17⟩ := getS2 X0 hx hZ hown (host := "") (Or.inl (hw _ (List.mem_of_getElem? (i := 42) rfl))) Via.refl e0 (hS.2.2.2.2.2.2.2.2.2.2.2.2.2.2.2.2.1) (g := (mkF m 159 #[.val (.int p0)] [])) rfl (hb hby d1_159)
                                    refine own_go (B := T_17.setTop (mkF m 162 #[.val (.int p0)] [(.ref (ad 16))])) (fun t k => st_17 t k) ?_
                                    obtain ⟨fs, hr, hrun, hended, hW, hsame⟩ := X_17.leave (v := some (.ref (ad 16))) (fun h => by rw [Bd.returns] at h; cases h)
                                    refine ⟨_, _, ?_, hrun, hended, _, _, rfl, ?_, ⟨_, rfl⟩, hW, hsame.mono (by decide) (by decide)⟩
                                    · show Steps p.tables e below (T_17.setTop (mkF m 162 #[.val (.int p0)] [(.ref (ad 16))])) _
                                      jvm_step X_17.here [X_17.here.top, hx, (hb hby d1_162), X_17.method', Bd.returns, Value.isRef, FieldType.isReference]
                                      first | (intro acts; rw [hr _ acts rfl rfl rfl]) | rw [hr _ _ rfl rfl rfl]
                                      exact Steps.refl _
                                    · show Q1 Z p0 ad h0 n0 _ T_17.heap _
                                      rw [e_17]
                                      exact ⟨by simp only [own_pick, if_neg hc1, if_neg hc10, if_neg hc19, if_neg hc28, if_neg hc37, if_neg hc46, if_neg hc56, if_neg hc66, if_neg hc76, if_neg hc86, if_neg hc96, if_neg hc106, if_neg hc116, if_neg hc126, if_neg hc136, if_neg hc146, if_pos hc156], N0, rfl⟩
                                  · refine own_go (B := s₁.setTop (mkF m 163 #[.val (.int p0)] [])) (fun t k => ?_) ?_
                                    · show Steps p.tables e below (s₁.setTop (mkF m 156 #[.val (.int p0)] [(.int (16 : Int32)), (.int p0)])) _
                                      refine XS.icmpYes X0.here hx rfl (pc0 := 156) (pc' := 163) rfl (hb hby d1_156) rfl (feq hc156).2 (by decide) (by decide) ?_
                                      exact k
                                    refine own_go (B := s₁.setTop (mkF m 166 #[.val (.int p0)] [(.int (17 : Int32)), (.int p0)])) (fun t k => ?_) ?_
                                    · show Steps p.tables e below (s₁.setTop (mkF m 163 #[.val (.int p0)] [])) _
                                      refine XS.iloadN X0.here hx rfl (hb hby d1_163) rfl ?_
                                      show Steps p.tables e below (s₁.setTop (mkF m 164 #[.val (.int p0)] [(.int p0)])) _
                                      refine XS.bipush X0.here hx rfl (hb hby d1_164) ?_
                                      exact k
                                    by_cases hc166 : p0 = (17 : Int32)
                                    · refine own_go (B := s₁.setTop (mkF m 169 #[.val (.int p0)] [])) (fun t k => ?_) ?_
                                      · show Steps p.tables e below (s₁.setTop (mkF m 166 #[.val (.int p0)] [(.int (17 : Int32)), (.int p0)])) _
                                        refine XS.icmpNo X0.here hx rfl (hb hby d1_166) rfl (teq hc166).2 ?_
                                        exact k
                                      obtain ⟨T_18, X_18, e_18, st_18⟩ := getS2 X0 hx hZ hown (host := "") (Or.inl (hw _ (List.mem_of_getElem? (i := 44) rfl))) Via.refl e0 (hS.2.2.2.2.2.2.2.2.2.2.2.2.2.2.2.2.2.1) (g := (mkF m 169 #[.val (.int p0)] [])) rfl (hb hby d1_169)
                                      refine own_go (B := T_18.setTop (mkF m 172 #[.val (.int p0)] [(.ref (ad 17))])) (fun t k => st_18 t k) ?_
                                      obtain ⟨fs, hr, hrun, hended, hW, hsame⟩ := X_18.leave (v := some (.ref (ad 17))) (fun h => by rw [Bd.returns] at h; cases h)
                                      refine ⟨_, _, ?_, hrun, hended, _, _, rfl, ?_, ⟨_, rfl⟩, hW, hsame.mono (by decide) (by decide)⟩
                                      · show Steps p.tables e below (T_18.setTop (mkF m 172 #[.val (.int p0)] [(.ref (ad 17))])) _
                                        jvm_step X_18.here [X_18.here.top, hx, (hb hby d1_172), X_18.method', Bd.returns, Value.isRef, FieldType.isReference]
                                        first | (intro acts; rw [hr _ acts rfl rfl rfl]) | rw [hr _ _ rfl rfl rfl]
                                        exact Steps.refl _
                                      · show Q1 Z p0 ad h0 n0 _ T_18.heap _
                                        rw [e_18]
                                        exact ⟨by simp only [own_pick, if_neg hc1, if_neg hc10, if_neg hc19, if_neg hc28, if_neg hc37, if_neg hc46, if_neg hc56, if_neg hc66, if_neg hc76, if_neg hc86, if_neg hc96, if_neg hc106, if_neg hc116, if_neg hc126, if_neg hc136, if_neg hc146, if_neg hc156, if_pos hc166], N0, rfl⟩
                                    · refine own_go (B := s₁.setTop (mkF m 173 #[.val (.int p0)] [])) (fun t k => ?_) ?_
                                      · show Steps p.tables e below (s₁.setTop (mkF m 166 #[.val (.int p0)] [(.int (17 : Int32)), (.int p0)])) _
                                        refine XS.icmpYes X0.here hx rfl (pc0 := 166) (pc' := 173) rfl (hb hby d1_166) rfl (feq hc166).2 (by decide) (by decide) ?_
                                        exact k
                                      refine own_go (B := s₁.setTop (mkF m 176 #[.val (.int p0)] [(.int (18 : Int32)), (.int p0)])) (fun t k => ?_) ?_
                                      · show Steps p.tables e below (s₁.setTop (mkF m 173 #[.val (.int p0)] [])) _
                                        refine XS.iloadN X0.here hx rfl (hb hby d1_173) rfl ?_
                                        show Steps p.tables e below (s₁.setTop (mkF m 174 #[.val (.int p0)] [(.int p0)])) _
                                        refine XS.bipush X0.here hx rfl (hb hby d1_174) ?_
                                        exact k
                                      by_cases hc176 : p0 = (18 : Int32)
                                      · refine own_go (B := s₁.setTop (mkF m 179 #[.val (.int p0)] [])) (fun t k => ?_) ?_
                                        · show Steps p.tables e below (s₁.setTop (mkF m 176 #[.val (.int p0)] [(.int (18 : Int32)), (.int p0)])) _
                                          refine XS.icmpNo X0.here hx rfl (hb hby d1_176) rfl (teq hc176).2 ?_
                                          exact k
                                        obtain ⟨T_19, X_19, e_19, st_19⟩ := getS2 X0 hx hZ hown (host := "") (Or.inl (hw _ (List.mem_of_getElem? (i := 50) rfl))) Via.refl e0 (hS.2.2.2.2.2.2.2.2.2.2.2.2.2.2.2.2.2.2.1) (g := (mkF m 179 #[.val (.int p0)] [])) rfl (hb hby d1_179)
                                        refine own_go (B := T_19.setTop (mkF m 182 #[.val (.int p0)] [(.ref (ad 18))])) (fun t k => st_19 t k) ?_
                                        obtain ⟨fs, hr, hrun, hended, hW, hsame⟩ := X_19.leave (v := some (.ref (ad 18))) (fun h => by rw [Bd.returns] at h; cases h)
                                        refine ⟨_, _, ?_, hrun, hended, _, _, rfl, ?_, ⟨_, rfl⟩, hW, hsame.mono (by decide) (by decide)⟩
                                        · show Steps p.tables e below (T_19.setTop (mkF m 182 #[.val (.int p0)] [(.ref (ad 18))])) _
                                          jvm_step X_19.here [X_19.here.top, hx, (hb hby d1_182), X_19.method', Bd.returns, Value.isRef, FieldType.isReference]
                                          first | (intro acts; rw [hr _ acts rfl rfl rfl]) | rw [hr _ _ rfl rfl rfl]
                                          exact Steps.refl _
                                        · show Q1 Z p0 ad h0 n0 _ T_19.heap _
                                          rw [e_19]
                                          exact ⟨by simp only [own_pick, if_neg hc1, if_neg hc10, if_neg hc19, if_neg hc28, if_neg hc37, if_neg hc46, if_neg hc56, if_neg hc66, if_neg hc76, if_neg hc86, if_neg hc96, if_neg hc106, if_neg hc116, if_neg hc126, if_neg hc136, if_neg hc146, if_neg hc156, if_neg hc166, if_pos hc176], N0, rfl⟩
                                      · refine own_go (B := s₁.setTop (mkF m 183 #[.val (.int p0)] [])) (fun t k => ?_) ?_
                                        · show Steps p.tables e below (s₁.setTop (mkF m 176 #[.val (.int p0)] [(.int (18 : Int32)), (.int p0)])) _
                                          refine XS.icmpYes X0.here hx rfl (pc0 := 176) (pc' := 183) rfl (hb hby d1_176) rfl (feq hc176).2 (by decide) (by decide) ?_
                                          exact k
                                        refine own_go (B := s₁.setTop (mkF m 186 #[.val (.int p0)] [(.int (19 : Int32)), (.int p0)])) (fun t k => ?_) ?_
                                        · show Steps p.tables e below (s₁.setTop (mkF m 183 #[.val (.int p0)] [])) _
                                          refine XS.iloadN X0.here hx rfl (hb hby d1_183) rfl ?_
                                          show Steps p.tables e below (s₁.setTop (mkF m 184 #[.val (.int p0)] [(.int p0)])) _
                                          refine XS.bipush X0.here hx rfl (hb hby d1_184) ?_
                                          exact k
                                        by_cases hc186 : p0 = (19 : Int32)
                                        · refine own_go (B := s₁.setTop (mkF m 189 #[.val (.int p0)] [])) (fun t k => ?_) ?_
                                          · show Steps p.tables e below (s₁.setTop (mkF m 186 #[.val (.int p0)] [(.int (19 : Int32)), (.int p0)])) _
                                            refine XS.icmpNo X0.here hx rfl (hb hby d1_186) rfl (teq hc186).2 ?_
                                            exact k
                                          obtain ⟨T_20, X_20, e_20, st_20⟩ := getS2 X0 hx hZ hown (host := "") (Or.inl (hw _ (List.mem_of_getElem? (i := 24) rfl))) Via.refl e0 (hS.2.2.2.2.2.2.2.2.2.2.2.2.2.2.2.2.2.2.2.1) (g := (mkF m 189 #[.val (.int p0)] [])) rfl (hb hby d1_189)
                                          refine own_go (B := T_20.setTop (mkF m 192 #[.val (.int p0)] [(.ref (ad 19))])) (fun t k => st_20 t k) ?_
                                          obtain ⟨fs, hr, hrun, hended, hW, hsame⟩ := X_20.leave (v := some (.ref (ad 19))) (fun h => by rw [Bd.returns] at h; cases h)
                                          refine ⟨_, _, ?_, hrun, hended, _, _, rfl, ?_, ⟨_, rfl⟩, hW, hsame.mono (by decide) (by decide)⟩
                                          · show Steps p.tables e below (T_20.setTop (mkF m 192 #[.val (.int p0)] [(.ref (ad 19))])) _
                                            jvm_step X_20.here [X_20.here.top, hx, (hb hby d1_192), X_20.method', Bd.returns, Value.isRef, FieldType.isReference]
                                            first | (intro acts; rw [hr _ acts rfl rfl rfl]) | rw [hr _ _ rfl rfl rfl]
                                            exact Steps.refl _
                                          · show Q1 Z p0 ad h0 n0 _ T_20.heap _
                                            rw [e_20]
                                            exact ⟨by simp only [own_pick, if_neg hc1, if_neg hc10, if_neg hc19, if_neg hc28, if_neg hc37, if_neg hc46, if_neg hc56, if_neg hc66, if_neg hc76, if_neg hc86, if_neg hc96, if_neg hc106, if_neg hc116, if_neg hc126, if_neg hc136, if_neg hc146, if_neg hc156, if_neg hc166, if_neg hc176, if_pos hc186], N0, rfl⟩
                                        · refine own_go (B := s₁.setTop (mkF m 193 #[.val (.int p0)] [])) (fun t k => ?_) ?_
                                          · show Steps p.tables e below (s₁.setTop (mkF m 186 #[.val (.int p0)] [(.int (19 : Int32)), (.int p0)])) _
                                            refine XS.icmpYes X0.here hx rfl (pc0 := 186) (pc' := 193) rfl (hb hby d1_186) rfl (feq hc186).2 (by decide) (by decide) ?_
                                            exact k
                                          refine own_go (B := s₁.setTop (mkF m 196 #[.val (.int p0)] [(.int (20 : Int32)), (.int p0)])) (fun t k => ?_) ?_
                                          · show Steps p.tables e below (s₁.setTop (mkF m 193 #[.val (.int p0)] [])) _
                                            refine XS.iloadN X0.here hx rfl (hb hby d1_193) rfl ?_
                                            show Steps p.tables e below (s₁.setTop (mkF m 194 #[.val (.int p0)] [(.int p0)])) _
                                            refine XS.bipush X0.here hx rfl (hb hby d1_194) ?_
                                            exact k
                                          by_cases hc196 : p0 = (20 : Int32)
                                          · refine own_go (B := s₁.setTop (mkF m 199 #[.val (.int p0)] [])) (fun t k => ?_) ?_
                                            · show Steps p.tables e below (s₁.setTop (mkF m 196 #[.val (.int p0)] [(.int (20 : Int32)), (.int p0)])) _
                                              refine XS.icmpNo X0.here hx rfl (hb hby d1_196) rfl (teq hc196).2 ?_
                                              exact k
                                            obtain ⟨T_21, X_21, e_21, st_21⟩ := getS2 X0 hx hZ hown (host := "") (Or.inl (hw _ (List.mem_of_getElem? (i := 26) rfl))) Via.refl e0 (hS.2.2.2.2.2.2.2.2.2.2.2.2.2.2.2.2.2.2.2.2.1) (g := (mkF m 199 #[.val (.int p0)] [])) rfl (hb hby d1_199)
                                            refine own_go (B := T_21.setTop (mkF m 202 #[.val (.int p0)] [(.ref (ad 20))])) (fun t k => st_21 t k) ?_
                                            obtain ⟨fs, hr, hrun, hended, hW, hsame⟩ := X_21.leave (v := some (.ref (ad 20))) (fun h => by rw [Bd.returns] at h; cases h)
                                            refine ⟨_, _, ?_, hrun, hended, _, _, rfl, ?_, ⟨_, rfl⟩, hW, hsame.mono (by decide) (by decide)⟩
                                            · show Steps p.tables e below (T_21.setTop (mkF m 202 #[.val (.int p0)] [(.ref (ad 20))])) _
                                              jvm_step X_21.here [X_21.here.top, hx, (hb hby d1_202), X_21.method', Bd.returns, Value.isRef, FieldType.isReference]
                                              first | (intro acts; rw [hr _ acts rfl rfl rfl]) | rw [hr _ _ rfl rfl rfl]
                                              exact Steps.refl _
                                            · show Q1 Z p0 ad h0 n0 _ T_21.heap _
                                              rw [e_21]
                                              exact ⟨by simp only [own_pick, if_neg hc1, if_neg hc10, if_neg hc19, if_neg hc28, if_neg hc37, if_neg hc46, if_neg hc56, if_neg hc66, if_neg hc76, if_neg hc86, if_neg hc96, if_neg hc106, if_neg hc116, if_neg hc126, if_neg hc136, if_neg hc146, if_neg hc156, if_neg hc166, if_neg hc176, if_neg hc186, if_pos hc196], N0, rfl⟩
                                          · refine own_go (B := s₁.setTop (mkF m 203 #[.val (.int p0)] [])) (fun t k => ?_) ?_
                                            · show Steps p.tables e below (s₁.setTop (mkF m 196 #[.val (.int p0)] [(.int (20 : Int32)), (.int p0)])) _
                                              refine XS.icmpYes X0.here hx rfl (pc0 := 196) (pc' := 203) rfl (hb hby d1_196) rfl (feq hc196).2 (by decide) (by decide) ?_
                                              exact k
                                            obtain ⟨T_22, X_22, e_22, st_22⟩ := getS2 X0 hx hZ hown (host := "") (Or.inl (hw _ (List.mem_of_getElem? (i := 28) rfl))) Via.refl e0 (hS.2.2.2.2.2.2.2.2.2.2.2.2.2.2.2.2.2.2.2.2.2) (g := (mkF m 203 #[.val (.int p0)] [])) rfl (hb hby d1_203)
                                            refine own_go (B := T_22.setTop (mkF m 206 #[.val (.int p0)] [(.ref (ad 21))])) (fun t k => st_22 t k) ?_
                                            obtain ⟨fs, hr, hrun, hended, hW, hsame⟩ := X_22.leave (v := some (.ref (ad 21))) (fun h => by rw [Bd.returns] at h; cases h)
                                            refine ⟨_, _, ?_, hrun, hended, _, _, rfl, ?_, ⟨_, rfl⟩, hW, hsame.mono (by decide) (by decide)⟩
                                            · show Steps p.tables e below (T_22.setTop (mkF m 206 #[.val (.int p0)] [(.ref (ad 21))])) _
                                              jvm_step X_22.here [X_22.here.top, hx, (hb hby d1_206), X_22.method', Bd.returns, Value.isRef, FieldType.isReference]
                                              first | (intro acts; rw [hr _ acts rfl rfl rfl]) | rw [hr _ _ rfl rfl rfl]
                                              exact Steps.refl _
                                            · show Q1 Z p0 ad h0 n0 _ T_22.heap _
                                              rw [e_22]
                                              exact ⟨by simp only [own_pick, if_neg hc1, if_neg hc10, if_neg hc19, if_neg hc28, if_neg hc37, if_neg hc46, if_neg hc56, if_neg hc66, if_neg hc76, if_neg hc86, if_neg hc96, if_neg hc106, if_neg hc116, if_neg hc126, if_neg hc136, if_neg hc146, if_neg hc156, if_neg hc166, if_neg hc176, if_neg hc186, if_neg hc196], N0, rfl⟩
theorem d2_0 : decode prog_71_method_8_code 0 = .ok (.iload_n 1, 1) := by decide +kernel
theorem d2_1 : decode prog_71_method_8_code 1 = .ok (.aload_n 0, 1) := by decide +kernel
theorem d2_2 : decode prog_71_method_8_code 2 = .ok (.getfield 93, 3) := by decide +kernel
theorem d2_5 : decode prog_71_method_8_code 5 = .ok (.if_icmp .lt 15, 3) := by decide +kernel
theorem d2_8 : decode prog_71_method_8_code 8 = .ok (.iload_n 1, 1) := by decide +kernel
theorem d2_9 : decode prog_71_method_8_code 9 = .ok (.aload_n 0, 1) := by decide +kernel
theorem d2_10 : decode prog_71_method_8_code 10 = .ok (.getfield 97, 3) := by decide +kernel
theorem d2_13 : decode prog_71_method_8_code 13 = .ok (.if_icmp .gt 7, 3) := by decide +kernel
theorem d2_16 : decode prog_71_method_8_code 16 = .ok (.iconst 1, 1) := by decide +kernel
theorem d2_17 : decode prog_71_method_8_code 17 = .ok (.goto 4, 3) := by decide +kernel
theorem d2_20 : decode prog_71_method_8_code 20 = .ok (.iconst 0, 1) := by decide +kernel
theorem d2_21 : decode prog_71_method_8_code 21 = .ok (.ireturn, 1) := by decide +kernel
theorem pn_2 : plainName "com/example/symvane/symvane/term/Operator" = true := by first | (simp [plainName, overriddenIn]; done) | decide +kernel
theorem ef_2 (m : MethodId) (a0 : Addr) (p1 : Int32) : entryFrame m #[(.ref a0), (.int p1)] 2 = mkF m 0 #[.val (.ref a0), .val (.int p1)] [] := by first | (simp [entryFrame, mkF, argsToLocals, Value.category]; done) | rfl
def Q2 (Z : State) (a0 : Addr) (p1 : Int32) (mn : Int32) (mx : Int32) (h0 : Heap) (n0 : Nat) (v : Option Value) (h : Heap) (L : List Loc) : Prop := v = some (.int (own_takes mn mx p1)) ∧ Fr n0 L ∧ h = h0
set_option maxRecDepth 65536 in
set_option maxHeartbeats 40000000 in
theorem rm2 (l : Launch) (Z : State) (av0 : Array Value) (hw : ∀ d ∈ tables_1, d.before av0 Z = true) (ws : List Jvm.Cond) (a0 : Addr) (p1 : Int32) (mn : Int32) (mx : Int32) (h0 : Heap) (n0 : Nat) (Z0 : n0 ≤ h0.size) (F_minArgs_a0 : Fld Z h0 a0 "com/example/symvane/symvane/term/Operator" "minArgs" "I" (.int mn)) (F_maxArgs_a0 : Fld Z h0 a0 "com/example/symvane/symvane/term/Operator" "maxArgs" "I" (.int mx)) :
    MetFree l (⟨"com/example/symvane/symvane/term/Operator", "takes", "(I)Z"⟩ : MethodName) (head1 (Jvm.Cond.code (⟨"com/example/symvane/symvane/term/Operator", "takes", "(I)Z"⟩ : MethodName) prog_71_method_8_code 2 (some .boolean) :: ws) ({ frames := 0, cells := 0, slots := 0, locals := 0 } : Room)) (fun a U => a = #[(.ref a0), (.int p1)] ∧ Z.Warmed39 U.vm ∧ U.heap = h0) (fun _ _ _ _ _ => True) (fun _ U o U' => ∃ v L, o = .returned v ∧ Q2 Z a0 p1 mn mx h0 n0 v U'.heap L ∧ FrameEnd U o U' L ({ frames := 0, cells := 0, slots := 0, locals := 0 } : Room).cells ({ frames := 0, cells := 0, slots := 0, locals := 0 } : Room).slots) := by
  refine MetFree.of_bodySF (plainFor_of_name pn_2) hisR ?_
  intro p e s m args below meth c s₁ Bd hml0 hP hK
  obtain ⟨rfl, hZ, hh⟩ := hP
  have hx := Bd.exec
  have hby := Bd.bytes
  have hml : c.maxLocals = 2 := hml0
  have hown : s.vm.findClass "com/example/symvane/symvane/term/Operator" = some m.cls := findClass_of_methodNamed Bd.named
  have hnm := (name_of_methodNamed Bd.named Bd.method).1
  have X0 : Stand p l e ({ frames := 0, cells := 0, slots := 0, locals := 0 } : Room) s m #[(.ref a0), (.int p1)] below meth c s₁ [] 0 0 := Stand.of_body Bd
  have e0 : s₁.heap = h0 := by rw [← hh, Bd.state]; rfl
  have N0 := Fr.nil n0
  have K0 : Keep h0 h0 [] := Keep.refl h0 []
  refine own_go (B := s₁.setTop (mkF m 0 #[.val (.ref a0), .val (.int p1)] [])) (fun t k => castTop (ef_2 m a0 p1) k) ?_
  refine own_go (B := s₁.setTop (mkF m 2 #[.val (.ref a0), .val (.int p1)] [(.ref a0), (.int p1)])) (fun t k => ?_) ?_
  · show Steps p.tables e below (s₁.setTop (mkF m 0 #[.val (.ref a0), .val (.int p1)] [])) _
    refine XS.iloadN X0.here hx rfl (hb hby d2_0) rfl ?_
    show Steps p.tables e below (s₁.setTop (mkF m 1 #[.val (.ref a0), .val (.int p1)] [(.int p1)])) _
    refine XS.aloadN X0.here hx rfl (hb hby d2_1) rfl rfl ?_
    exact k
  obtain ⟨T_1, X_1, e_1, st_1⟩ := getF X0 hx hZ hown (host := "") (Or.inl (hw _ (List.mem_of_getElem? (i := 13) rfl))) Via.refl e0 F_minArgs_a0 (g := (mkF m 2 #[.val (.ref a0), .val (.int p1)] [(.ref a0), (.int p1)])) rfl rfl (hb hby d2_2)
  refine own_go (B := T_1.setTop (mkF m 5 #[.val (.ref a0), .val (.int p1)] [(.int mn), (.int p1)])) (fun t k => st_1 t k) ?_
  by_cases hc5 : p1 < mn
  · refine own_go (B := T_1.setTop (mkF m 20 #[.val (.ref a0), .val (.int p1)] [])) (fun t k => ?_) ?_
    · show Steps p.tables e below (T_1.setTop (mkF m 5 #[.val (.ref a0), .val (.int p1)] [(.int mn), (.int p1)])) _
      refine XS.icmpYes X_1.here hx rfl (pc0 := 5) (pc' := 20) rfl (hb hby d2_5) rfl (tlt hc5).1 (by decide) (by decide) ?_
      exact k
    refine own_go (B := T_1.setTop (mkF m 21 #[.val (.ref a0), .val (.int p1)] [(.int (0 : Int32))])) (fun t k => ?_) ?_
    · show Steps p.tables e below (T_1.setTop (mkF m 20 #[.val (.ref a0), .val (.int p1)] [])) _
      refine XS.iconst X_1.here hx rfl (hb hby d2_20) ?_
      exact k
    obtain ⟨fs, hr, hrun, hended, hW, hsame⟩ := X_1.leave (v := some (.int (0 : Int32))) (fun h => by rw [Bd.returns] at h; cases h)
    refine ⟨_, _, ?_, hrun, hended, _, _, rfl, ?_, ⟨_, rfl⟩, hW, hsame.mono (by decide) (by decide)⟩
    · show Steps p.tables e below (T_1.setTop (mkF m 21 #[.val (.ref a0), .val (.int p1)] [(.int (0 : Int32))])) _
      exact retN X_1 hx (t := .boolean) Bd.returns (by simp) (hb hby d2_21) hr
    · show Q2 Z a0 p1 mn mx h0 n0 _ T_1.heap _
      rw [e_1]
      exact ⟨by simp only [own_takes, if_pos hc5], N0, rfl⟩
  · refine own_go (B := T_1.setTop (mkF m 8 #[.val (.ref a0), .val (.int p1)] [])) (fun t k => ?_) ?_
    · show Steps p.tables e below (T_1.setTop (mkF m 5 #[.val (.ref a0), .val (.int p1)] [(.int mn), (.int p1)])) _
      refine XS.icmpNo X_1.here hx rfl (hb hby d2_5) rfl (flt hc5).1 ?_
      exact k
    refine own_go (B := T_1.setTop (mkF m 10 #[.val (.ref a0), .val (.int p1)] [(.ref a0), (.int p1)])) (fun t k => ?_) ?_
    · show Steps p.tables e below (T_1.setTop (mkF m 8 #[.val (.ref a0), .val (.int p1)] [])) _
      refine XS.iloadN X_1.here hx rfl (hb hby d2_8) rfl ?_
      show Steps p.tables e below (T_1.setTop (mkF m 9 #[.val (.ref a0), .val (.int p1)] [(.int p1)])) _
      refine XS.aloadN X_1.here hx rfl (hb hby d2_9) rfl rfl ?_
      exact k
    obtain ⟨T_2, X_2, e_2, st_2⟩ := getF X_1 hx hZ hown (host := "") (Or.inl (hw _ (List.mem_of_getElem? (i := 15) rfl))) Via.refl e_1 F_maxArgs_a0 (g := (mkF m 10 #[.val (.ref a0), .val (.int p1)] [(.ref a0), (.int p1)])) rfl rfl (hb hby d2_10)
    refine own_go (B := T_2.setTop (mkF m 13 #[.val (.ref a0), .val (.int p1)] [(.int mx), (.int p1)])) (fun t k => st_2 t k) ?_
    by_cases hc13 : mx < p1
    · refine own_go (B := T_2.setTop (mkF m 20 #[.val (.ref a0), .val (.int p1)] [])) (fun t k => ?_) ?_
      · show Steps p.tables e below (T_2.setTop (mkF m 13 #[.val (.ref a0), .val (.int p1)] [(.int mx), (.int p1)])) _
        refine XS.icmpYes X_2.here hx rfl (pc0 := 13) (pc' := 20) rfl (hb hby d2_13) rfl (tlt hc13).2.2.1 (by decide) (by decide) ?_
        exact k
      refine own_go (B := T_2.setTop (mkF m 21 #[.val (.ref a0), .val (.int p1)] [(.int (0 : Int32))])) (fun t k => ?_) ?_
      · show Steps p.tables e below (T_2.setTop (mkF m 20 #[.val (.ref a0), .val (.int p1)] [])) _
        refine XS.iconst X_2.here hx rfl (hb hby d2_20) ?_
        exact k
      obtain ⟨fs, hr, hrun, hended, hW, hsame⟩ := X_2.leave (v := some (.int (0 : Int32))) (fun h => by rw [Bd.returns] at h; cases h)
      refine ⟨_, _, ?_, hrun, hended, _, _, rfl, ?_, ⟨_, rfl⟩, hW, hsame.mono (by decide) (by decide)⟩
      · show Steps p.tables e below (T_2.setTop (mkF m 21 #[.val (.ref a0), .val (.int p1)] [(.int (0 : Int32))])) _
        exact retN X_2 hx (t := .boolean) Bd.returns (by simp) (hb hby d2_21) hr
      · show Q2 Z a0 p1 mn mx h0 n0 _ T_2.heap _
        rw [e_2]
        exact ⟨by simp only [own_takes, if_neg hc5, if_pos hc13], N0, rfl⟩
    · refine own_go (B := T_2.setTop (mkF m 16 #[.val (.ref a0), .val (.int p1)] [])) (fun t k => ?_) ?_
      · show Steps p.tables e below (T_2.setTop (mkF m 13 #[.val (.ref a0), .val (.int p1)] [(.int mx), (.int p1)])) _
        refine XS.icmpNo X_2.here hx rfl (hb hby d2_13) rfl (flt hc13).2.2.1 ?_
        exact k
      refine own_go (B := T_2.setTop (mkF m 21 #[.val (.ref a0), .val (.int p1)] [(.int (1 : Int32))])) (fun t k => ?_) ?_
      · show Steps p.tables e below (T_2.setTop (mkF m 16 #[.val (.ref a0), .val (.int p1)] [])) _
        refine XS.iconst X_2.here hx rfl (hb hby d2_16) ?_
        show Steps p.tables e below (T_2.setTop (mkF m 17 #[.val (.ref a0), .val (.int p1)] [(.int (1 : Int32))])) _
        refine XS.goto X_2.here hx rfl (pc0 := 17) (pc' := 21) rfl (hb hby d2_17) (by decide) (by decide) ?_
        exact k
      obtain ⟨fs, hr, hrun, hended, hW, hsame⟩ := X_2.leave (v := some (.int (1 : Int32))) (fun h => by rw [Bd.returns] at h; cases h)
      refine ⟨_, _, ?_, hrun, hended, _, _, rfl, ?_, ⟨_, rfl⟩, hW, hsame.mono (by decide) (by decide)⟩
      · show Steps p.tables e below (T_2.setTop (mkF m 21 #[.val (.ref a0), .val (.int p1)] [(.int (1 : Int32))])) _
        exact retN X_2 hx (t := .boolean) Bd.returns (by simp) (hb hby d2_21) hr
      · show Q2 Z a0 p1 mn mx h0 n0 _ T_2.heap _
        rw [e_2]
        exact ⟨by simp only [own_takes, if_neg hc5, if_neg hc13], N0, rfl⟩
theorem d3_0 : decode method_3_code 0 = .ok (.aload_n 0, 1) := by decide +kernel
theorem d3_1 : decode method_3_code 1 = .ok (.getstatic 7, 3) := by decide +kernel
theorem d3_4 : decode method_3_code 4 = .ok (.if_acmp .eq 31, 3) := by decide +kernel
theorem d3_7 : decode method_3_code 7 = .ok (.aload_n 0, 1) := by decide +kernel
theorem d3_8 : decode method_3_code 8 = .ok (.getstatic 49, 3) := by decide +kernel
theorem d3_11 : decode method_3_code 11 = .ok (.if_acmp .eq 24, 3) := by decide +kernel
theorem d3_14 : decode method_3_code 14 = .ok (.aload_n 0, 1) := by decide +kernel
theorem d3_15 : decode method_3_code 15 = .ok (.getstatic 67, 3) := by decide +kernel
theorem d3_18 : decode method_3_code 18 = .ok (.if_acmp .eq 17, 3) := by decide +kernel
theorem d3_21 : decode method_3_code 21 = .ok (.aload_n 0, 1) := by decide +kernel
theorem d3_22 : decode method_3_code 22 = .ok (.getstatic 70, 3) := by decide +kernel
theorem d3_25 : decode method_3_code 25 = .ok (.if_acmp .eq 10, 3) := by decide +kernel
theorem d3_28 : decode method_3_code 28 = .ok (.aload_n 0, 1) := by decide +kernel
theorem d3_29 : decode method_3_code 29 = .ok (.getstatic 73, 3) := by decide +kernel
theorem d3_32 : decode method_3_code 32 = .ok (.if_acmp .ne 14, 3) := by decide +kernel
theorem d3_35 : decode method_3_code 35 = .ok (.iload_n 1, 1) := by decide +kernel
theorem d3_36 : decode method_3_code 36 = .ok (.iconst 1, 1) := by decide +kernel
theorem d3_37 : decode method_3_code 37 = .ok (.if_icmp .ne 7, 3) := by decide +kernel
theorem d3_40 : decode method_3_code 40 = .ok (.iconst 1, 1) := by decide +kernel
theorem d3_41 : decode method_3_code 41 = .ok (.goto 4, 3) := by decide +kernel
theorem d3_44 : decode method_3_code 44 = .ok (.iconst 0, 1) := by decide +kernel
theorem d3_45 : decode method_3_code 45 = .ok (.ireturn, 1) := by decide +kernel
theorem d3_46 : decode method_3_code 46 = .ok (.aload_n 0, 1) := by decide +kernel
theorem d3_47 : decode method_3_code 47 = .ok (.getstatic 25, 3) := by decide +kernel
theorem d3_50 : decode method_3_code 50 = .ok (.if_acmp .ne 14, 3) := by decide +kernel
theorem d3_53 : decode method_3_code 53 = .ok (.iload_n 1, 1) := by decide +kernel
theorem d3_54 : decode method_3_code 54 = .ok (.iconst 3, 1) := by decide +kernel
theorem d3_55 : decode method_3_code 55 = .ok (.if_icmp .ne 7, 3) := by decide +kernel
theorem d3_58 : decode method_3_code 58 = .ok (.iconst 1, 1) := by decide +kernel
theorem d3_59 : decode method_3_code 59 = .ok (.goto 4, 3) := by decide +kernel
theorem d3_62 : decode method_3_code 62 = .ok (.iconst 0, 1) := by decide +kernel
theorem d3_63 : decode method_3_code 63 = .ok (.ireturn, 1) := by decide +kernel
theorem d3_64 : decode method_3_code 64 = .ok (.aload_n 0, 1) := by decide +kernel
theorem d3_65 : decode method_3_code 65 = .ok (.getstatic 46, 3) := by decide +kernel
theorem d3_68 : decode method_3_code 68 = .ok (.if_acmp .ne 14, 3) := by decide +kernel
theorem d3_71 : decode method_3_code 71 = .ok (.iload_n 1, 1) := by decide +kernel
theorem d3_72 : decode method_3_code 72 = .ok (.iconst 2, 1) := by decide +kernel
theorem d3_73 : decode method_3_code 73 = .ok (.if_icmp .ne 7, 3) := by decide +kernel
theorem d3_76 : decode method_3_code 76 = .ok (.iconst 1, 1) := by decide +kernel
theorem d3_77 : decode method_3_code 77 = .ok (.goto 4, 3) := by decide +kernel
theorem d3_80 : decode method_3_code 80 = .ok (.iconst 0, 1) := by decide +kernel
theorem d3_81 : decode method_3_code 81 = .ok (.ireturn, 1) := by decide +kernel
theorem d3_82 : decode method_3_code 82 = .ok (.aload_n 0, 1) := by decide +kernel
theorem d3_83 : decode method_3_code 83 = .ok (.getstatic 37, 3) := by decide +kernel
theorem d3_86 : decode method_3_code 86 = .ok (.if_acmp .ne 14, 3) := by decide +kernel
theorem d3_89 : decode method_3_code 89 = .ok (.iload_n 1, 1) := by decide +kernel
theorem d3_90 : decode method_3_code 90 = .ok (.iconst 1, 1) := by decide +kernel
theorem d3_91 : decode method_3_code 91 = .ok (.if_icmp .lt 7, 3) := by decide +kernel
theorem d3_94 : decode method_3_code 94 = .ok (.iconst 1, 1) := by decide +kernel
theorem d3_95 : decode method_3_code 95 = .ok (.goto 4, 3) := by decide +kernel
theorem d3_98 : decode method_3_code 98 = .ok (.iconst 0, 1) := by decide +kernel
theorem d3_99 : decode method_3_code 99 = .ok (.ireturn, 1) := by decide +kernel
theorem d3_100 : decode method_3_code 100 = .ok (.iload_n 1, 1) := by decide +kernel
theorem d3_101 : decode method_3_code 101 = .ok (.iconst 2, 1) := by decide +kernel
theorem d3_102 : decode method_3_code 102 = .ok (.if_icmp .lt 7, 3) := by decide +kernel
theorem d3_105 : decode method_3_code 105 = .ok (.iconst 1, 1) := by decide +kernel
theorem d3_106 : decode method_3_code 106 = .ok (.goto 4, 3) := by decide +kernel
theorem d3_109 : decode method_3_code 109 = .ok (.iconst 0, 1) := by decide +kernel
theorem d3_110 : decode method_3_code 110 = .ok (.ireturn, 1) := by decide +kernel
theorem pn_3 : plainName "com/example/symvane/symvane/term/OperatorTakesPinLaw" = true := by first | (simp [plainName, overriddenIn]; done) | decide +kernel
theorem ef_3 (m : MethodId) (a0 : Addr) (p1 : Int32) : entryFrame m #[(.ref a0), (.int p1)] 2 = mkF m 0 #[.val (.ref a0), .val (.int p1)] [] := by first | (simp [entryFrame, mkF, argsToLocals, Value.category]; done) | rfl
def Q3 (Z : State) (a0 : Addr) (p1 : Int32) (ad : Nat → Addr) (h0 : Heap) (n0 : Nat) (v : Option Value) (h : Heap) (L : List Loc) : Prop := v = some (.int (own_expd ad a0 p1)) ∧ Fr n0 L ∧ h = h0
set_option maxRecDepth 65536 in
set_option maxHeartbeats 40000000 in
theorem rm3 (l : Launch) (Z : State) (av0 : Array Value) (hw : ∀ d ∈ tables_1, d.before av0 Z = true) (ws : List Jvm.Cond) (a0 : Addr) (p1 : Int32) (ad : Nat → Addr) (h0 : Heap) (n0 : Nat) (Z0 : n0 ≤ h0.size) (hS : own_S Z h0 ad) :
    MetFree l (⟨"com/example/symvane/symvane/term/OperatorTakesPinLaw", "expected", "(Lcom/example/symvane/symvane/term/Operator;I)Z"⟩ : MethodName) (head1 (Jvm.Cond.code (⟨"com/example/symvane/symvane/term/OperatorTakesPinLaw", "expected", "(Lcom/example/symvane/symvane/term/Operator;I)Z"⟩ : MethodName) method_3_code 2 (some .boolean) :: ws) ({ frames := 0, cells := 0, slots := 0, locals := 0 } : Room)) (fun a U => a = #[(.ref a0), (.int p1)] ∧ Z.Warmed39 U.vm ∧ U.heap = h0) (fun _ _ _ _ _ => True) (fun _ U o U' => ∃ v L, o = .returned v ∧ Q3 Z a0 p1 ad h0 n0 v U'.heap L ∧ FrameEnd U o U' L ({ frames := 0, cells := 0, slots := 0, locals := 0 } : Room).cells ({ frames := 0, cells := 0, slots := 0, locals := 0 } : Room).slots) := by
  refine MetFree.of_bodySF (plainFor_of_name pn_3) hisR ?_
  intro p e s m args below meth c s₁ Bd hml0 hP hK
  obtain ⟨rfl, hZ, hh⟩ := hP
  have hx := Bd.exec
  have hby := Bd.bytes
  have hml : c.maxLocals = 2 := hml0
  have hown : s.vm.findClass "com/example/symvane/symvane/term/OperatorTakesPinLaw" = some m.cls := findClass_of_methodNamed Bd.named
  have hnm := (name_of_methodNamed Bd.named Bd.method).1
  have X0 : Stand p l e ({ frames := 0, cells := 0, slots := 0, locals := 0 } : Room) s m #[(.ref a0), (.int p1)] below meth c s₁ [] 0 0 := Stand.of_body Bd
  have e0 : s₁.heap = h0 := by rw [← hh, Bd.state]; rfl
  have N0 := Fr.nil n0
  have K0 : Keep h0 h0 [] := Keep.refl h0 []
  refine own_go (B := s₁.setTop (mkF m 0 #[.val (.ref a0), .val (.int p1)] [])) (fun t k => castTop (ef_3 m a0 p1) k) ?_
  refine own_go (B := s₁.setTop (mkF m 1 #[.val (.ref a0), .val (.int p1)] [(.ref a0)])) (fun t k => ?_) ?_
  · show Steps p.tables e below (s₁.setTop (mkF m 0 #[.val (.ref a0), .val (.int p1)] [])) _
    refine XS.aloadN X0.here hx rfl (hb hby d3_0) rfl rfl ?_
    exact k
  obtain ⟨T_1, X_1, e_1, st_1⟩ := getS2 X0 hx hZ hown (host := "") (Or.inl (hw _ (List.mem_of_getElem? (i := 5) rfl))) Via.refl e0 (hS.1) (g := (mkF m 1 #[.val (.ref a0), .val (.int p1)] [(.ref a0)])) rfl (hb hby d3_1)
  refine own_go (B := T_1.setTop (mkF m 4 #[.val (.ref a0), .val (.int p1)] [(.ref (ad 0)), (.ref a0)])) (fun t k => st_1 t k) ?_
  by_cases hc4 : a0 = (ad 0)
  · refine own_go (B := T_1.setTop (mkF m 35 #[.val (.ref a0), .val (.int p1)] [])) (fun t k => ?_) ?_
    · show Steps p.tables e below (T_1.setTop (mkF m 4 #[.val (.ref a0), .val (.int p1)] [(.ref (ad 0)), (.ref a0)])) _
      refine Jvm.RoadKit.acmp (g := (mkF m 4 #[.val (.ref a0), .val (.int p1)] [(.ref (ad 0)), (.ref a0)])) X_1 hx rfl rfl rfl (pc0 := 4) (pc' := 35) (same := true) rfl (hb hby d3_4) rfl (decide_eq_true (congrArg Value.ref hc4)) (by decide) (by decide) ?_
      exact k
    refine own_go (B := T_1.setTop (mkF m 37 #[.val (.ref a0), .val (.int p1)] [(.int (1 : Int32)), (.int p1)])) (fun t k => ?_) ?_
    · show Steps p.tables e below (T_1.setTop (mkF m 35 #[.val (.ref a0), .val (.int p1)] [])) _
      refine XS.iloadN X_1.here hx rfl (hb hby d3_35) rfl ?_
      show Steps p.tables e below (T_1.setTop (mkF m 36 #[.val (.ref a0), .val (.int p1)] [(.int p1)])) _
      refine XS.iconst X_1.here hx rfl (hb hby d3_36) ?_
      exact k
    by_cases hc37 : p1 = (1 : Int32)
    · refine own_go (B := T_1.setTop (mkF m 40 #[.val (.ref a0), .val (.int p1)] [])) (fun t k => ?_) ?_
      · show Steps p.tables e below (T_1.setTop (mkF m 37 #[.val (.ref a0), .val (.int p1)] [(.int (1 : Int32)), (.int p1)])) _
        refine XS.icmpNo X_1.here hx rfl (hb hby d3_37) rfl (teq hc37).2 ?_
        exact k
      refine own_go (B := T_1.setTop (mkF m 45 #[.val (.ref a0), .val (.int p1)] [(.int (1 : Int32))])) (fun t k => ?_) ?_
      · show Steps p.tables e below (T_1.setTop (mkF m 40 #[.val (.ref a0), .val (.int p1)] [])) _
        refine XS.iconst X_1.here hx rfl (hb hby d3_40) ?_
        show Steps p.tables e below (T_1.setTop (mkF m 41 #[.val (.ref a0), .val (.int p1)] [(.int (1 : Int32))])) _
        refine XS.goto X_1.here hx rfl (pc0 := 41) (pc' := 45) rfl (hb hby d3_41) (by decide) (by decide) ?_
        exact k
      obtain ⟨fs, hr, hrun, hended, hW, hsame⟩ := X_1.leave (v := some (.int (1 : Int32))) (fun h => by rw [Bd.returns] at h; cases h)
      refine ⟨_, _, ?_, hrun, hended, _, _, rfl, ?_, ⟨_, rfl⟩, hW, hsame.mono (by decide) (by decide)⟩
      · show Steps p.tables e below (T_1.setTop (mkF m 45 #[.val (.ref a0), .val (.int p1)] [(.int (1 : Int32))])) _
        exact retN X_1 hx (t := .boolean) Bd.returns (by simp) (hb hby d3_45) hr
      · show Q3 Z a0 p1 ad h0 n0 _ T_1.heap _
        rw [e_1]
        exact ⟨by simp only [own_expd, if_pos hc4, if_pos hc37], N0, rfl⟩
    · refine own_go (B := T_1.setTop (mkF m 44 #[.val (.ref a0), .val (.int p1)] [])) (fun t k => ?_) ?_
      · show Steps p.tables e below (T_1.setTop (mkF m 37 #[.val (.ref a0), .val (.int p1)] [(.int (1 : Int32)), (.int p1)])) _
        refine XS.icmpYes X_1.here hx rfl (pc0 := 37) (pc' := 44) rfl (hb hby d3_37) rfl (feq hc37).2 (by decide) (by decide) ?_
        exact k
      refine own_go (B := T_1.setTop (mkF m 45 #[.val (.ref a0), .val (.int p1)] [(.int (0 : Int32))])) (fun t k => ?_) ?_
      · show Steps p.tables e below (T_1.setTop (mkF m 44 #[.val (.ref a0), .val (.int p1)] [])) _
        refine XS.iconst X_1.here hx rfl (hb hby d3_44) ?_
        exact k
      obtain ⟨fs, hr, hrun, hended, hW, hsame⟩ := X_1.leave (v := some (.int (0 : Int32))) (fun h => by rw [Bd.returns] at h; cases h)
      refine ⟨_, _, ?_, hrun, hended, _, _, rfl, ?_, ⟨_, rfl⟩, hW, hsame.mono (by decide) (by decide)⟩
      · show Steps p.tables e below (T_1.setTop (mkF m 45 #[.val (.ref a0), .val (.int p1)] [(.int (0 : Int32))])) _
        exact retN X_1 hx (t := .boolean) Bd.returns (by simp) (hb hby d3_45) hr
      · show Q3 Z a0 p1 ad h0 n0 _ T_1.heap _
        rw [e_1]
        exact ⟨by simp only [own_expd, if_pos hc4, if_neg hc37], N0, rfl⟩
  · refine own_go (B := T_1.setTop (mkF m 7 #[.val (.ref a0), .val (.int p1)] [])) (fun t k => ?_) ?_
    · show Steps p.tables e below (T_1.setTop (mkF m 4 #[.val (.ref a0), .val (.int p1)] [(.ref (ad 0)), (.ref a0)])) _
      refine Jvm.RoadKit.acmp (g := (mkF m 4 #[.val (.ref a0), .val (.int p1)] [(.ref (ad 0)), (.ref a0)])) X_1 hx rfl rfl rfl (pc0 := 4) (pc' := 7) (same := false) rfl (hb hby d3_4) rfl (decide_eq_false fun q => hc4 (Value.ref.inj q)) (by decide) (by decide) ?_
      exact k
    refine own_go (B := T_1.setTop (mkF m 8 #[.val (.ref a0), .val (.int p1)] [(.ref a0)])) (fun t k => ?_) ?_
    · show Steps p.tables e below (T_1.setTop (mkF m 7 #[.val (.ref a0), .val (.int p1)] [])) _
      refine XS.aloadN X_1.here hx rfl (hb hby d3_7) rfl rfl ?_
      exact k
    obtain ⟨T_2, X_2, e_2, st_2⟩ := getS2 X_1 hx hZ hown (host := "") (Or.inl (hw _ (List.mem_of_getElem? (i := 22) rfl))) Via.refl e_1 (hS.2.2.2.2.2.2.2.2.2.2.2.2.2.1) (g := (mkF m 8 #[.val (.ref a0), .val (.int p1)] [(.ref a0)])) rfl (hb hby d3_8)
    refine own_go (B := T_2.setTop (mkF m 11 #[.val (.ref a0), .val (.int p1)] [(.ref (ad 13)), (.ref a0)])) (fun t k => st_2 t k) ?_
    by_cases hc11 : a0 = (ad 13)
    · refine own_go (B := T_2.setTop (mkF m 35 #[.val (.ref a0), .val (.int p1)] [])) (fun t k => ?_) ?_
      · show Steps p.tables e below (T_2.setTop (mkF m 11 #[.val (.ref a0), .val (.int p1)] [(.ref (ad 13)), (.ref a0)])) _
        refine Jvm.RoadKit.acmp (g := (mkF m 11 #[.val (.ref a0), .val (.int p1)] [(.ref (ad 13)), (.ref a0)])) X_2 hx rfl rfl rfl (pc0 := 11) (pc' := 35) (same := true) rfl (hb hby d3_11) rfl (decide_eq_true (congrArg Value.ref hc11)) (by decide) (by decide) ?_
        exact k
      refine own_go (B := T_2.setTop (mkF m 37 #[.val (.ref a0), .val (.int p1)] [(.int (1 : Int32)), (.int p1)])) (fun t k => ?_) ?_
      · show Steps p.tables e below (T_2.setTop (mkF m 35 #[.val (.ref a0), .val (.int p1)] [])) _
        refine XS.iloadN X_2.here hx rfl (hb hby d3_35) rfl ?_
        show Steps p.tables e below (T_2.setTop (mkF m 36 #[.val (.ref a0), .val (.int p1)] [(.int p1)])) _
        refine XS.iconst X_2.here hx rfl (hb hby d3_36) ?_
        exact k
      by_cases hc37 : p1 = (1 : Int32)
      · refine own_go (B := T_2.setTop (mkF m 40 #[.val (.ref a0), .val (.int p1)] [])) (fun t k => ?_) ?_
        · show Steps p.tables e below (T_2.setTop (mkF m 37 #[.val (.ref a0), .val (.int p1)] [(.int (1 : Int32)), (.int p1)])) _
          refine XS.icmpNo X_2.here hx rfl (hb hby d3_37) rfl (teq hc37).2 ?_
          exact k
        refine own_go (B := T_2.setTop (mkF m 45 #[.val (.ref a0), .val (.int p1)] [(.int (1 : Int32))])) (fun t k => ?_) ?_
        · show Steps p.tables e below (T_2.setTop (mkF m 40 #[.val (.ref a0), .val (.int p1)] [])) _
          refine XS.iconst X_2.here hx rfl (hb hby d3_40) ?_
          show Steps p.tables e below (T_2.setTop (mkF m 41 #[.val (.ref a0), .val (.int p1)] [(.int (1 : Int32))])) _
          refine XS.goto X_2.here hx rfl (pc0 := 41) (pc' := 45) rfl (hb hby d3_41) (by decide) (by decide) ?_
          exact k
        obtain ⟨fs, hr, hrun, hended, hW, hsame⟩ := X_2.leave (v := some (.int (1 : Int32))) (fun h => by rw [Bd.returns] at h; cases h)
        refine ⟨_, _, ?_, hrun, hended, _, _, rfl, ?_, ⟨_, rfl⟩, hW, hsame.mono (by decide) (by decide)⟩
        · show Steps p.tables e below (T_2.setTop (mkF m 45 #[.val (.ref a0), .val (.int p1)] [(.int (1 : Int32))])) _
          exact retN X_2 hx (t := .boolean) Bd.returns (by simp) (hb hby d3_45) hr
        · show Q3 Z a0 p1 ad h0 n0 _ T_2.heap _
          rw [e_2]
          exact ⟨by simp only [own_expd, if_neg hc4, if_pos hc11, if_pos hc37], N0, rfl⟩
      · refine own_go (B := T_2.setTop (mkF m 44 #[.val (.ref a0), .val (.int p1)] [])) (fun t k => ?_) ?_
        · show Steps p.tables e below (T_2.setTop (mkF m 37 #[.val (.ref a0), .val (.int p1)] [(.int (1 : Int32)), (.int p1)])) _
          refine XS.icmpYes X_2.here hx rfl (pc0 := 37) (pc' := 44) rfl (hb hby d3_37) rfl (feq hc37).2 (by decide) (by decide) ?_
          exact k
        refine own_go (B := T_2.setTop (mkF m 45 #[.val (.ref a0), .val (.int p1)] [(.int (0 : Int32))])) (fun t k => ?_) ?_
        · show Steps p.tables e below (T_2.setTop (mkF m 44 #[.val (.ref a0), .val (.int p1)] [])) _
          refine XS.iconst X_2.here hx rfl (hb hby d3_44) ?_
          exact k
        obtain ⟨fs, hr, hrun, hended, hW, hsame⟩ := X_2.leave (v := some (.int (0 : Int32))) (fun h => by rw [Bd.returns] at h; cases h)
        refine ⟨_, _, ?_, hrun, hended, _, _, rfl, ?_, ⟨_, rfl⟩, hW, hsame.mono (by decide) (by decide)⟩
        · show Steps p.tables e below (T_2.setTop (mkF m 45 #[.val (.ref a0), .val (.int p1)] [(.int (0 : Int32))])) _
          exact retN X_2 hx (t := .boolean) Bd.returns (by simp) (hb hby d3_45) hr
        · show Q3 Z a0 p1 ad h0 n0 _ T_2.heap _
          rw [e_2]
          exact ⟨by simp only [own_expd, if_neg hc4, if_pos hc11, if_neg hc37], N0, rfl⟩
    · refine own_go (B := T_2.setTop (mkF m 14 #[.val (.ref a0), .val (.int p1)] [])) (fun t k => ?_) ?_
      · show Steps p.tables e below (T_2.setTop (mkF m 11 #[.val (.ref a0), .val (.int p1)] [(.ref (ad 13)), (.ref a0)])) _
        refine Jvm.RoadKit.acmp (g := (mkF m 11 #[.val (.ref a0), .val (.int p1)] [(.ref (ad 13)), (.ref a0)])) X_2 hx rfl rfl rfl (pc0 := 11) (pc' := 14) (same := false) rfl (hb hby d3_11) rfl (decide_eq_false fun q => hc11 (Value.ref.inj q)) (by decide) (by decide) ?_
        exact k
      refine own_go (B := T_2.setTop (mkF m 15 #[.val (.ref a0), .val (.int p1)] [(.ref a0)])) (fun t k => ?_) ?_
      · show Steps p.tables e below (T_2.setTop (mkF m 14 #[.val (.ref a0), .val (.int p1)] [])) _
        refine XS.aloadN X_2.here hx rfl (hb hby d3_14) rfl rfl ?_
        exact k
      obtain ⟨T_3, X_3, e_3, st_3⟩ := getS2 X_2 hx hZ hown (host := "") (Or.inl (hw _ (List.mem_of_getElem? (i := 24) rfl))) Via.refl e_2 (hS.2.2.2.2.2.2.2.2.2.2.2.2.2.2.2.2.2.2.2.1) (g := (mkF m 15 #[.val (.ref a0), .val (.int p1)] [(.ref a0)])) rfl (hb hby d3_15)
      refine own_go (B := T_3.setTop (mkF m 18 #[.val (.ref a0), .val (.int p1)] [(.ref (ad 19)), (.ref a0)])) (fun t k => st_3 t k) ?_
      by_cases hc18 : a0 = (ad 19)
      · refine own_go (B := T_3.setTop (mkF m 35 #[.val (.ref a0), .val (.int p1)] [])) (fun t k => ?_) ?_
        · show Steps p.tables e below (T_3.setTop (mkF m 18 #[.val (.ref a0), .val (.int p1)] [(.ref (ad 19)), (.ref a0)])) _
          refine Jvm.RoadKit.acmp (g := (mkF m 18 #[.val (.ref a0), .val (.int p1)] [(.ref (ad 19)), (.ref a0)])) X_3 hx rfl rfl rfl (pc0 := 18) (pc' := 35) (same := true) rfl (hb hby d3_18) rfl (decide_eq_true (congrArg Value.ref hc18)) (by decide) (by decide) ?_
          exact k
        refine own_go (B := T_3.setTop (mkF m 37 #[.val (.ref a0), .val (.int p1)] [(.int (1 : Int32)), (.int p1)])) (fun t k => ?_) ?_
        · show Steps p.tables e below (T_3.setTop (mkF m 35 #[.val (.ref a0), .val (.int p1)] [])) _
          refine XS.iloadN X_3.here hx rfl (hb hby d3_35) rfl ?_
          show Steps p.tables e below (T_3.setTop (mkF m 36 #[.val (.ref a0), .val (.int p1)] [(.int p1)])) _
          refine XS.iconst X_3.here hx rfl (hb hby d3_36) ?_
          exact k
        by_cases hc37 : p1 = (1 : Int32)
        · refine own_go (B := T_3.setTop (mkF m 40 #[.val (.ref a0), .val (.int p1)] [])) (fun t k => ?_) ?_
          · show Steps p.tables e below (T_3.setTop (mkF m 37 #[.val (.ref a0), .val (.int p1)] [(.int (1 : Int32)), (.int p1)])) _
            refine XS.icmpNo X_3.here hx rfl (hb hby d3_37) rfl (teq hc37).2 ?_
            exact k
          refine own_go (B := T_3.setTop (mkF m 45 #[.val (.ref a0), .val (.int p1)] [(.int (1 : Int32))])) (fun t k => ?_) ?_
          · show Steps p.tables e below (T_3.setTop (mkF m 40 #[.val (.ref a0), .val (.int p1)] [])) _
            refine XS.iconst X_3.here hx rfl (hb hby d3_40) ?_
            show Steps p.tables e below (T_3.setTop (mkF m 41 #[.val (.ref a0), .val (.int p1)] [(.int (1 : Int32))])) _
            refine XS.goto X_3.here hx rfl (pc0 := 41) (pc' := 45) rfl (hb hby d3_41) (by decide) (by decide) ?_
            exact k
          obtain ⟨fs, hr, hrun, hended, hW, hsame⟩ := X_3.leave (v := some (.int (1 : Int32))) (fun h => by rw [Bd.returns] at h; cases h)
          refine ⟨_, _, ?_, hrun, hended, _, _, rfl, ?_, ⟨_, rfl⟩, hW, hsame.mono (by decide) (by decide)⟩
          · show Steps p.tables e below (T_3.setTop (mkF m 45 #[.val (.ref a0), .val (.int p1)] [(.int (1 : Int32))])) _
            exact retN X_3 hx (t := .boolean) Bd.returns (by simp) (hb hby d3_45) hr
          · show Q3 Z a0 p1 ad h0 n0 _ T_3.heap _
            rw [e_3]
            exact ⟨by simp only [own_expd, if_neg hc4, if_neg hc11, if_pos hc18, if_pos hc37], N0, rfl⟩
        · refine own_go (B := T_3.setTop (mkF m 44 #[.val (.ref a0), .val (.int p1)] [])) (fun t k => ?_) ?_
          · show Steps p.tables e below (T_3.setTop (mkF m 37 #[.val (.ref a0), .val (.int p1)] [(.int (1 : Int32)), (.int p1)])) _
            refine XS.icmpYes X_3.here hx rfl (pc0 := 37) (pc' := 44) rfl (hb hby d3_37) rfl (feq hc37).2 (by decide) (by decide) ?_
            exact k
          refine own_go (B := T_3.setTop (mkF m 45 #[.val (.ref a0), .val (.int p1)] [(.int (0 : Int32))])) (fun t k => ?_) ?_
          · show Steps p.tables e below (T_3.setTop (mkF m 44 #[.val (.ref a0), .val (.int p1)] [])) _
            refine XS.iconst X_3.here hx rfl (hb hby d3_44) ?_
            exact k
          obtain ⟨fs, hr, hrun, hended, hW, hsame⟩ := X_3.leave (v := some (.int (0 : Int32))) (fun h => by rw [Bd.returns] at h; cases h)
          refine ⟨_, _, ?_, hrun, hended, _, _, rfl, ?_, ⟨_, rfl⟩, hW, hsame.mono (by decide) (by decide)⟩
          · show Steps p.tables e below (T_3.setTop (mkF m 45 #[.val (.ref a0), .val (.int p1)] [(.int (0 : Int32))])) _
            exact retN X_3 hx (t := .boolean) Bd.returns (by simp) (hb hby d3_45) hr
          · show Q3 Z a0 p1 ad h0 n0 _ T_3.heap _
            rw [e_3]
            exact ⟨by simp only [own_expd, if_neg hc4, if_neg hc11, if_pos hc18, if_neg hc37], N0, rfl⟩
      · refine own_go (B := T_3.setTop (mkF m 21 #[.val (.ref a0), .val (.int p1)] [])) (fun t k => ?_) ?_
        · show Steps p.tables e below (T_3.setTop (mkF m 18 #[.val (.ref a0), .val (.int p1)] [(.ref (ad 19)), (.ref a0)])) _
          refine Jvm.RoadKit.acmp (g := (mkF m 18 #[.val (.ref a0), .val (.int p1)] [(.ref (ad 19)), (.ref a0)])) X_3 hx rfl rfl rfl (pc0 := 18) (pc' := 21) (same := false) rfl (hb hby d3_18) rfl (decide_eq_false fun q => hc18 (Value.ref.inj q)) (by decide) (by decide) ?_
          exact k
        refine own_go (B := T_3.setTop (mkF m 22 #[.val (.ref a0), .val (.int p1)] [(.ref a0)])) (fun t k => ?_) ?_
        · show Steps p.tables e below (T_3.setTop (mkF m 21 #[.val (.ref a0), .val (.int p1)] [])) _
          refine XS.aloadN X_3.here hx rfl (hb hby d3_21) rfl rfl ?_
          exact k
        obtain ⟨T_4, X_4, e_4, st_4⟩ := getS2 X_3 hx hZ hown (host := "") (Or.inl (hw _ (List.mem_of_getElem? (i := 26) rfl))) Via.refl e_3 (hS.2.2.2.2.2.2.2.2.2.2.2.2.2.2.2.2.2.2.2.2.1) (g := (mkF m 22 #[.val (.ref a0), .val (.int p1)] [(.ref a0)])) rfl (hb hby d3_22)
        refine own_go (B := T_4.setTop (mkF m 25 #[.val (.ref a0), .val (.int p1)] [(.ref (ad 20)), (.ref a0)])) (fun t k => st_4 t k) ?_
        by_cases hc25 : a0 = (ad 20)
        · refine own_go (B := T_4.setTop (mkF m 35 #[.val (.ref a0), .val (.int p1)] [])) (fun t k => ?_) ?_
          · show Steps p.tables e below (T_4.setTop (mkF m 25 #[.val (.ref a0), .val (.int p1)] [(.ref (ad 20)), (.ref a0)])) _
            refine Jvm.RoadKit.acmp (g := (mkF m 25 #[.val (.ref a0), .val (.int p1)] [(.ref (ad 20)), (.ref a0)])) X_4 hx rfl rfl rfl (pc0 := 25) (pc' := 35) (same := true) rfl (hb hby d3_25) rfl (decide_eq_true (congrArg Value.ref hc25)) (by decide) (by decide) ?_
            exact k
          refine own_go (B := T_4.setTop (mkF m 37 #[.val (.ref a0), .val (.int p1)] [(.int (1 : Int32)), (.int p1)])) (fun t k => ?_) ?_
          · show Steps p.tables e below (T_4.setTop (mkF m 35 #[.val (.ref a0), .val (.int p1)] [])) _
            refine XS.iloadN X_4.here hx rfl (hb hby d3_35) rfl ?_
            show Steps p.tables e below (T_4.setTop (mkF m 36 #[.val (.ref a0), .val (.int p1)] [(.int p1)])) _
            refine XS.iconst X_4.here hx rfl (hb hby d3_36) ?_
            exact k
          by_cases hc37 : p1 = (1 : Int32)
          · refine own_go (B := T_4.setTop (mkF m 40 #[.val (.ref a0), .val (.int p1)] [])) (fun t k => ?_) ?_
            · show Steps p.tables e below (T_4.setTop (mkF m 37 #[.val (.ref a0), .val (.int p1)] [(.int (1 : Int32)), (.int p1)])) _
              refine XS.icmpNo X_4.here hx rfl (hb hby d3_37) rfl (teq hc37).2 ?_
              exact k
            refine own_go (B := T_4.setTop (mkF m 45 #[.val (.ref a0), .val (.int p1)] [(.int (1 : Int32))])) (fun t k => ?_) ?_
            · show Steps p.tables e below (T_4.setTop (mkF m 40 #[.val (.ref a0), .val (.int p1)] [])) _
              refine XS.iconst X_4.here hx rfl (hb hby d3_40) ?_
              show Steps p.tables e below (T_4.setTop (mkF m 41 #[.val (.ref a0), .val (.int p1)] [(.int (1 : Int32))])) _
              refine XS.goto X_4.here hx rfl (pc0 := 41) (pc' := 45) rfl (hb hby d3_41) (by decide) (by decide) ?_
              exact k
            obtain ⟨fs, hr, hrun, hended, hW, hsame⟩ := X_4.leave (v := some (.int (1 : Int32))) (fun h => by rw [Bd.returns] at h; cases h)
            refine ⟨_, _, ?_, hrun, hended, _, _, rfl, ?_, ⟨_, rfl⟩, hW, hsame.mono (by decide) (by decide)⟩
            · show Steps p.tables e below (T_4.setTop (mkF m 45 #[.val (.ref a0), .val (.int p1)] [(.int (1 : Int32))])) _
              exact retN X_4 hx (t := .boolean) Bd.returns (by simp) (hb hby d3_45) hr
            · show Q3 Z a0 p1 ad h0 n0 _ T_4.heap _
              rw [e_4]
              exact ⟨by simp only [own_expd, if_neg hc4, if_neg hc11, if_neg hc18, if_pos hc25, if_pos hc37], N0, rfl⟩
          · refine own_go (B := T_4.setTop (mkF m 44 #[.val (.ref a0), .val (.int p1)] [])) (fun t k => ?_) ?_
            · show Steps p.tables e below (T_4.setTop (mkF m 37 #[.val (.ref a0), .val (.int p1)] [(.int (1 : Int32)), (.int p1)])) _
              refine XS.icmpYes X_4.here hx rfl (pc0 := 37) (pc' := 44) rfl (hb hby d3_37) rfl (feq hc37).2 (by decide) (by decide) ?_
              exact k
            refine own_go (B := T_4.setTop (mkF m 45 #[.val (.ref a0), .val (.int p1)] [(.int (0 : Int32))])) (fun t k => ?_) ?_
            · show Steps p.tables e below (T_4.setTop (mkF m 44 #[.val (.ref a0), .val (.int p1)] [])) _
              refine XS.iconst X_4.here hx rfl (hb hby d3_44) ?_
              exact k
            obtain ⟨fs, hr, hrun, hended, hW, hsame⟩ := X_4.leave (v := some (.int (0 : Int32))) (fun h => by rw [Bd.returns] at h; cases h)
            refine ⟨_, _, ?_, hrun, hended, _, _, rfl, ?_, ⟨_, rfl⟩, hW, hsame.mono (by decide) (by decide)⟩
            · show Steps p.tables e below (T_4.setTop (mkF m 45 #[.val (.ref a0), .val (.int p1)] [(.int (0 : Int32))])) _
              exact retN X_4 hx (t := .boolean) Bd.returns (by simp) (hb hby d3_45) hr
            · show Q3 Z a0 p1 ad h0 n0 _ T_4.heap _
              rw [e_4]
              exact ⟨by simp only [own_expd, if_neg hc4, if_neg hc11, if_neg hc18, if_pos hc25, if_neg hc37], N0, rfl⟩
        · refine own_go (B := T_4.setTop (mkF m 28 #[.val (.ref a0), .val (.int p1)] [])) (fun t k => ?_) ?_
          · show Steps p.tables e below (T_4.setTop (mkF m 25 #[.val (.ref a0), .val (.int p1)] [(.ref (ad 20)), (.ref a0)])) _
            refine Jvm.RoadKit.acmp (g := (mkF m 25 #[.val (.ref a0), .val (.int p1)] [(.ref (ad 20)), (.ref a0)])) X_4 hx rfl rfl rfl (pc0 := 25) (pc' := 28) (same := false) rfl (hb hby d3_25) rfl (decide_eq_false fun q => hc25 (Value.ref.inj q)) (by decide) (by decide) ?_
            exact k
          refine own_go (B := T_4.setTop (mkF m 29 #[.val (.ref a0), .val (.int p1)] [(.ref a0)])) (fun t k => ?_) ?_
          · show Steps p.tables e below (T_4.setTop (mkF m 28 #[.val (.ref a0), .val (.int p1)] [])) _
            refine XS.aloadN X_4.here hx rfl (hb hby d3_28) rfl rfl ?_
            exact k
          obtain ⟨T_5, X_5, e_5, st_5⟩ := getS2 X_4 hx hZ hown (host := "") (Or.inl (hw _ (List.mem_of_getElem? (i := 28) rfl))) Via.refl e_4 (hS.2.2.2.2.2.2.2.2.2.2.2.2.2.2.2.2.2.2.2.2.2) (g := (mkF m 29 #[.val (.ref a0), .val (.int p1)] [(.ref a0)])) rfl (hb hby d3_29)
          refine own_go (B := T_5.setTop (mkF m 32 #[.val (.ref a0), .val (.int p1)] [(.ref (ad 21)), (.ref a0)])) (fun t k => st_5 t k) ?_
          by_cases hc32 : a0 = (ad 21)
          · refine own_go (B := T_5.setTop (mkF m 35 #[.val (.ref a0), .val (.int p1)] [])) (fun t k => ?_) ?_
            · show Steps p.tables e below (T_5.setTop (mkF m 32 #[.val (.ref a0), .val (.int p1)] [(.ref (ad 21)), (.ref a0)])) _
              refine Jvm.RoadKit.acmp (g := (mkF m 32 #[.val (.ref a0), .val (.int p1)] [(.ref (ad 21)), (.ref a0)])) X_5 hx rfl rfl rfl (pc0 := 32) (pc' := 35) (same := true) rfl (hb hby d3_32) rfl (decide_eq_true (congrArg Value.ref hc32)) (by decide) (by decide) ?_
              exact k
            refine own_go (B := T_5.setTop (mkF m 37 #[.val (.ref a0), .val (.int p1)] [(.int (1 : Int32)), (.int p1)])) (fun t k => ?_) ?_
            · show Steps p.tables e below (T_5.setTop (mkF m 35 #[.val (.ref a0), .val (.int p1)] [])) _
              refine XS.iloadN X_5.here hx rfl (hb hby d3_35) rfl ?_
              show Steps p.tables e below (T_5.setTop (mkF m 36 #[.val (.ref a0), .val (.int p1)] [(.int p1)])) _
              refine XS.iconst X_5.here hx rfl (hb hby d3_36) ?_
              exact k
            by_cases hc37 : p1 = (1 : Int32)
            · refine own_go (B := T_5.setTop (mkF m 40 #[.val (.ref a0), .val (.int p1)] [])) (fun t k => ?_) ?_
              · show Steps p.tables e below (T_5.setTop (mkF m 37 #[.val (.ref a0), .val (.int p1)] [(.int (1 : Int32)), (.int p1)])) _
                refine XS.icmpNo X_5.here hx rfl (hb hby d3_37) rfl (teq hc37).2 ?_
                exact k
              refine own_go (B := T_5.setTop (mkF m 45 #[.val (.ref a0), .val (.int p1)] [(.int (1 : Int32))])) (fun t k => ?_) ?_
              · show Steps p.tables e below (T_5.setTop (mkF m 40 #[.val (.ref a0), .val (.int p1)] [])) _
                refine XS.iconst X_5.here hx rfl (hb hby d3_40) ?_
                show Steps p.tables e below (T_5.setTop (mkF m 41 #[.val (.ref a0), .val (.int p1)] [(.int (1 : Int32))])) _
                refine XS.goto X_5.here hx rfl (pc0 := 41) (pc' := 45) rfl (hb hby d3_41) (by decide) (by decide) ?_
                exact k
              obtain ⟨fs, hr, hrun, hended, hW, hsame⟩ := X_5.leave (v := some (.int (1 : Int32))) (fun h => by rw [Bd.returns] at h; cases h)
              refine ⟨_, _, ?_, hrun, hended, _, _, rfl, ?_, ⟨_, rfl⟩, hW, hsame.mono (by decide) (by decide)⟩
              · show Steps p.tables e below (T_5.setTop (mkF m 45 #[.val (.ref a0), .val (.int p1)] [(.int (1 : Int32))])) _
                exact retN X_5 hx (t := .boolean) Bd.returns (by simp) (hb hby d3_45) hr
              · show Q3 Z a0 p1 ad h0 n0 _ T_5.heap _
                rw [e_5]
                exact ⟨by simp only [own_expd, if_neg hc4, if_neg hc11, if_neg hc18, if_neg hc25, if_pos hc32, if_pos hc37], N0, rfl⟩
            · refine own_go (B := T_5.setTop (mkF m 44 #[.val (.ref a0), .val (.int p1)] [])) (fun t k => ?_) ?_
              · show Steps p.tables e below (T_5.setTop (mkF m 37 #[.val (.ref a0), .val (.int p1)] [(.int (1 : Int32)), (.int p1)])) _
                refine XS.icmpYes X_5.here hx rfl (pc0 := 37) (pc' := 44) rfl (hb hby d3_37) rfl (feq hc37).2 (by decide) (by decide) ?_
                exact k
              refine own_go (B := T_5.setTop (mkF m 45 #[.val (.ref a0), .val (.int p1)] [(.int (0 : Int32))])) (fun t k => ?_) ?_
              · show Steps p.tables e below (T_5.setTop (mkF m 44 #[.val (.ref a0), .val (.int p1)] [])) _
                refine XS.iconst X_5.here hx rfl (hb hby d3_44) ?_
                exact k
              obtain ⟨fs, hr, hrun, hended, hW, hsame⟩ := X_5.leave (v := some (.int (0 : Int32))) (fun h => by rw [Bd.returns] at h; cases h)
              refine ⟨_, _, ?_, hrun, hended, _, _, rfl, ?_, ⟨_, rfl⟩, hW, hsame.mono (by decide) (by decide)⟩
              · show Steps p.tables e below (T_5.setTop (mkF m 45 #[.val (.ref a0), .val (.int p1)] [(.int (0 : Int32))])) _
                exact retN X_5 hx (t := .boolean) Bd.returns (by simp) (hb hby d3_45) hr
              · show Q3 Z a0 p1 ad h0 n0 _ T_5.heap _
                rw [e_5]
                exact ⟨by simp only [own_expd, if_neg hc4, if_neg hc11, if_neg hc18, if_neg hc25, if_pos hc32, if_neg hc37], N0, rfl⟩
          · refine own_go (B := T_5.setTop (mkF m 46 #[.val (.ref a0), .val (.int p1)] [])) (fun t k => ?_) ?_
            · show Steps p.tables e below (T_5.setTop (mkF m 32 #[.val (.ref a0), .val (.int p1)] [(.ref (ad 21)), (.ref a0)])) _
              refine Jvm.RoadKit.acmp (g := (mkF m 32 #[.val (.ref a0), .val (.int p1)] [(.ref (ad 21)), (.ref a0)])) X_5 hx rfl rfl rfl (pc0 := 32) (pc' := 46) (same := false) rfl (hb hby d3_32) rfl (decide_eq_false fun q => hc32 (Value.ref.inj q)) (by decide) (by decide) ?_
              exact k
            refine own_go (B := T_5.setTop (mkF m 47 #[.val (.ref a0), .val (.int p1)] [(.ref a0)])) (fun t k => ?_) ?_
            · show Steps p.tables e below (T_5.setTop (mkF m 46 #[.val (.ref a0), .val (.int p1)] [])) _
              refine XS.aloadN X_5.here hx rfl (hb hby d3_46) rfl rfl ?_
              exact k
            obtain ⟨T_6, X_6, e_6, st_6⟩ := getS2 X_5 hx hZ hown (host := "") (Or.inl (hw _ (List.mem_of_getElem? (i := 30) rfl))) Via.refl e_5 (hS.2.2.2.2.2.1) (g := (mkF m 47 #[.val (.ref a0), .val (.int p1)] [(.ref a0)])) rfl (hb hby d3_47)
            refine own_go (B := T_6.setTop (mkF m 50 #[.val (.ref a0), .val (.int p1)] [(.ref (ad 5)), (.ref a0)])) (fun t k => st_6 t k) ?_
            by_cases hc50 : a0 = (ad 5)
            · refine own_go (B := T_6.setTop (mkF m 53 #[.val (.ref a0), .val (.int p1)] [])) (fun t k => ?_) ?_
              · show Steps p.tables e below (T_6.setTop (mkF m 50 #[.val (.ref a0), .val (.int p1)] [(.ref (ad 5)), (.ref a0)])) _
                refine Jvm.RoadKit.acmp (g := (mkF m 50 #[.val (.ref a0), .val (.int p1)] [(.ref (ad 5)), (.ref a0)])) X_6 hx rfl rfl rfl (pc0 := 50) (pc' := 53) (same := true) rfl (hb hby d3_50) rfl (decide_eq_true (congrArg Value.ref hc50)) (by decide) (by decide) ?_
                exact k
              refine own_go (B := T_6.setTop (mkF m 55 #[.val (.ref a0), .val (.int p1)] [(.int (3 : Int32)), (.int p1)])) (fun t k => ?_) ?_
              · show Steps p.tables e below (T_6.setTop (mkF m 53 #[.val (.ref a0), .val (.int p1)] [])) _
                refine XS.iloadN X_6.here hx rfl (hb hby d3_53) rfl ?_
                show Steps p.tables e below (T_6.setTop (mkF m 54 #[.val (.ref a0), .val (.int p1)] [(.int p1)])) _
                refine XS.iconst X_6.here hx rfl (hb hby d3_54) ?_
                exact k
              by_cases hc55 : p1 = (3 : Int32)
              · refine own_go (B := T_6.setTop (mkF m 58 #[.val (.ref a0), .val (.int p1)] [])) (fun t k => ?_) ?_
                · show Steps p.tables e below (T_6.setTop (mkF m 55 #[.val (.ref a0), .val (.int p1)] [(.int (3 : Int32)), (.int p1)])) _
                  refine XS.icmpNo X_6.here hx rfl (hb hby d3_55) rfl (teq hc55).2 ?_
                  exact k
                refine own_go (B := T_6.setTop (mkF m 63 #[.val (.ref a0), .val (.int p1)] [(.int (1 : Int32))])) (fun t k => ?_) ?_
                · show Steps p.tables e below (T_6.setTop (mkF m 58 #[.val (.ref a0), .val (.int p1)] [])) _
                  refine XS.iconst X_6.here hx rfl (hb hby d3_58) ?_
                  show Steps p.tables e below (T_6.setTop (mkF m 59 #[.val (.ref a0), .val (.int p1)] [(.int (1 : Int32))])) _
                  refine XS.goto X_6.here hx rfl (pc0 := 59) (pc' := 63) rfl (hb hby d3_59) (by decide) (by decide) ?_
                  exact k
                obtain ⟨fs, hr, hrun, hended, hW, hsame⟩ := X_6.leave (v := some (.int (1 : Int32))) (fun h => by rw [Bd.returns] at h; cases h)
                refine ⟨_, _, ?_, hrun, hended, _, _, rfl, ?_, ⟨_, rfl⟩, hW, hsame.mono (by decide) (by decide)⟩
                · show Steps p.tables e below (T_6.setTop (mkF m 63 #[.val (.ref a0), .val (.int p1)] [(.int (1 : Int32))])) _
                  exact retN X_6 hx (t := .boolean) Bd.returns (by simp) (hb hby d3_63) hr
                · show Q3 Z a0 p1 ad h0 n0 _ T_6.heap _
                  rw [e_6]
                  exact ⟨by simp only [own_expd, if_neg hc4, if_neg hc11, if_neg hc18, if_neg hc25, if_neg hc32, if_pos hc50, if_pos hc55], N0, rfl⟩
              · refine own_go (B := T_6.setTop (mkF m 62 #[.val (.ref a0), .val (.int p1)] [])) (fun t k => ?_) ?_
                · show Steps p.tables e below (T_6.setTop (mkF m 55 #[.val (.ref a0), .val (.int p1)] [(.int (3 : Int32)), (.int p1)])) _
                  refine XS.icmpYes X_6.here hx rfl (pc0 := 55) (pc' := 62) rfl (hb hby d3_55) rfl (feq hc55).2 (by decide) (by decide) ?_
                  exact k
                refine own_go (B := T_6.setTop (mkF m 63 #[.val (.ref a0), .val (.int p1)] [(.int (0 : Int32))])) (fun t k => ?_) ?_
                · show Steps p.tables e below (T_6.setTop (mkF m 62 #[.val (.ref a0), .val (.int p1)] [])) _
                  refine XS.iconst X_6.here hx rfl (hb hby d3_62) ?_
                  exact k
                obtain ⟨fs, hr, hrun, hended, hW, hsame⟩ := X_6.leave (v := some (.int (0 : Int32))) (fun h => by rw [Bd.returns] at h; cases h)
                refine ⟨_, _, ?_, hrun, hended, _, _, rfl, ?_, ⟨_, rfl⟩, hW, hsame.mono (by decide) (by decide)⟩
                · show Steps p.tables e below (T_6.setTop (mkF m 63 #[.val (.ref a0), .val (.int p1)] [(.int (0 : Int32))])) _
                  exact retN X_6 hx (t := .boolean) Bd.returns (by simp) (hb hby d3_63) hr
                · show Q3 Z a0 p1 ad h0 n0 _ T_6.heap _
                  rw [e_6]
                  exact ⟨by simp only [own_expd, if_neg hc4, if_neg hc11, if_neg hc18, if_neg hc25, if_neg hc32, if_pos hc50, if_neg hc55], N0, rfl⟩
            · refine own_go (B := T_6.setTop (mkF m 64 #[.val (.ref a0), .val (.int p1)] [])) (fun t k => ?_) ?_
              · show Steps p.tables e below (T_6.setTop (mkF m 50 #[.val (.ref a0), .val (.int p1)] [(.ref (ad 5)), (.ref a0)])) _
                refine Jvm.RoadKit.acmp (g := (mkF m 50 #[.val (.ref a0), .val (.int p1)] [(.ref (ad 5)), (.ref a0)])) X_6 hx rfl rfl rfl (pc0 := 50) (pc' := 64) (same := false) rfl (hb hby d3_50) rfl (decide_eq_false fun q => hc50 (Value.ref.inj q)) (by decide) (by decide) ?_
                exact k
              refine own_go (B := T_6.setTop (mkF m 65 #[.val (.ref a0), .val (.int p1)] [(.ref a0)])) (fun t k => ?_) ?_
              · show Steps p.tables e below (T_6.setTop (mkF m 64 #[.val (.ref a0), .val (.int p1)] [])) _
                refine XS.aloadN X_6.here hx rfl (hb hby d3_64) rfl rfl ?_
                exact k
              obtain ⟨T_7, X_7, e_7, st_7⟩ := getS2 X_6 hx hZ hown (host := "") (Or.inl (hw _ (List.mem_of_getElem? (i := 32) rfl))) Via.refl e_6 (hS.2.2.2.2.2.2.2.2.2.2.2.2.1) (g := (mkF m 65 #[.val (.ref a0), .val (.int p1)] [(.ref a0)])) rfl (hb hby d3_65)
              refine own_go (B := T_7.setTop (mkF m 68 #[.val (.ref a0), .val (.int p1)] [(.ref (ad 12)), (.ref a0)])) (fun t k => st_7 t k) ?_
              by_cases hc68 : a0 = (ad 12)
              · refine own_go (B := T_7.setTop (mkF m 71 #[.val (.ref a0), .val (.int p1)] [])) (fun t k => ?_) ?_
                · show Steps p.tables e below (T_7.setTop (mkF m 68 #[.val (.ref a0), .val (.int p1)] [(.ref (ad 12)), (.ref a0)])) _
                  refine Jvm.RoadKit.acmp (g := (mkF m 68 #[.val (.ref a0), .val (.int p1)] [(.ref (ad 12)), (.ref a0)])) X_7 hx rfl rfl rfl (pc0 := 68) (pc' := 71) (same := true) rfl (hb hby d3_68) rfl (decide_eq_true (congrArg Value.ref hc68)) (by decide) (by decide) ?_
                  exact k
                refine own_go (B := T_7.setTop (mkF m 73 #[.val (.ref a0), .val (.int p1)] [(.int (2 : Int32)), (.int p1)])) (fun t k => ?_) ?_
                · show Steps p.tables e below (T_7.setTop (mkF m 71 #[.val (.ref a0), .val (.int p1)] [])) _
                  refine XS.iloadN X_7.here hx rfl (hb hby d3_71) rfl ?_
                  show Steps p.tables e below (T_7.setTop (mkF m 72 #[.val (.ref a0), .val (.int p1)] [(.int p1)])) _
                  refine XS.iconst X_7.here hx rfl (hb hby d3_72) ?_
                  exact k
                by_cases hc73 : p1 = (2 : Int32)
                · refine own_go (B := T_7.setTop (mkF m 76 #[.val (.ref a0), .val (.int p1)] [])) (fun t k => ?_) ?_
                  · show Steps p.tables e below (T_7.setTop (mkF m 73 #[.val (.ref a0), .val (.int p1)] [(.int (2 : Int32)), (.int p1)])) _
                    refine XS.icmpNo X_7.here hx rfl (hb hby d3_73) rfl (teq hc73).2 ?_
                    exact k
                  refine own_go (B := T_7.setTop (mkF m 81 #[.val (.ref a0), .val (.int p1)] [(.int (1 : Int32))])) (fun t k => ?_) ?_
                  · show Steps p.tables e below (T_7.setTop (mkF m 76 #[.val (.ref a0), .val (.int p1)] [])) _
                    refine XS.iconst X_7.here hx rfl (hb hby d3_76) ?_
                    show Steps p.tables e below (T_7.setTop (mkF m 77 #[.val (.ref a0), .val (.int p1)] [(.int (1 : Int32))])) _
                    refine XS.goto X_7.here hx rfl (pc0 := 77) (pc' := 81) rfl (hb hby d3_77) (by decide) (by decide) ?_
                    exact k
                  obtain ⟨fs, hr, hrun, hended, hW, hsame⟩ := X_7.leave (v := some (.int (1 : Int32))) (fun h => by rw [Bd.returns] at h; cases h)
                  refine ⟨_, _, ?_, hrun, hended, _, _, rfl, ?_, ⟨_, rfl⟩, hW, hsame.mono (by decide) (by decide)⟩
                  · show Steps p.tables e below (T_7.setTop (mkF m 81 #[.val (.ref a0), .val (.int p1)] [(.int (1 : Int32))])) _
                    exact retN X_7 hx (t := .boolean) Bd.returns (by simp) (hb hby d3_81) hr
                  · show Q3 Z a0 p1 ad h0 n0 _ T_7.heap _
                    rw [e_7]
                    exact ⟨by simp only [own_expd, if_neg hc4, if_neg hc11, if_neg hc18, if_neg hc25, if_neg hc32, if_neg hc50, if_pos hc68, if_pos hc73], N0, rfl⟩
                · refine own_go (B := T_7.setTop (mkF m 80 #[.val (.ref a0), .val (.int p1)] [])) (fun t k => ?_) ?_
                  · show Steps p.tables e below (T_7.setTop (mkF m 73 #[.val (.ref a0), .val (.int p1)] [(.int (2 : Int32)), (.int p1)])) _
                    refine XS.icmpYes X_7.here hx rfl (pc0 := 73) (pc' := 80) rfl (hb hby d3_73) rfl (feq hc73).2 (by decide) (by decide) ?_
                    exact k
                  refine own_go (B := T_7.setTop (mkF m 81 #[.val (.ref a0), .val (.int p1)] [(.int (0 : Int32))])) (fun t k => ?_) ?_
                  · show Steps p.tables e below (T_7.setTop (mkF m 80 #[.val (.ref a0), .val (.int p1)] [])) _
                    refine XS.iconst X_7.here hx rfl (hb hby d3_80) ?_
                    exact k
                  obtain ⟨fs, hr, hrun, hended, hW, hsame⟩ := X_7.leave (v := some (.int (0 : Int32))) (fun h => by rw [Bd.returns] at h; cases h)
                  refine ⟨_, _, ?_, hrun, hended, _, _, rfl, ?_, ⟨_, rfl⟩, hW, hsame.mono (by decide) (by decide)⟩
                  · show Steps p.tables e below (T_7.setTop (mkF m 81 #[.val (.ref a0), .val (.int p1)] [(.int (0 : Int32))])) _
                    exact retN X_7 hx (t := .boolean) Bd.returns (by simp) (hb hby d3_81) hr
                  · show Q3 Z a0 p1 ad h0 n0 _ T_7.heap _
                    rw [e_7]
                    exact ⟨by simp only [own_expd, if_neg hc4, if_neg hc11, if_neg hc18, if_neg hc25, if_neg hc32, if_neg hc50, if_pos hc68, if_neg hc73], N0, rfl⟩
              · refine own_go (B := T_7.setTop (mkF m 82 #[.val (.ref a0), .val (.int p1)] [])) (fun t k => ?_) ?_
                · show Steps p.tables e below (T_7.setTop (mkF m 68 #[.val (.ref a0), .val (.int p1)] [(.ref (ad 12)), (.ref a0)])) _
                  refine Jvm.RoadKit.acmp (g := (mkF m 68 #[.val (.ref a0), .val (.int p1)] [(.ref (ad 12)), (.ref a0)])) X_7 hx rfl rfl rfl (pc0 := 68) (pc' := 82) (same := false) rfl (hb hby d3_68) rfl (decide_eq_false fun q => hc68 (Value.ref.inj q)) (by decide) (by decide) ?_
                  exact k
                refine own_go (B := T_7.setTop (mkF m 83 #[.val (.ref a0), .val (.int p1)] [(.ref a0)])) (fun t k => ?_) ?_
                · show Steps p.tables e below (T_7.setTop (mkF m 82 #[.val (.ref a0), .val (.int p1)] [])) _
                  refine XS.aloadN X_7.here hx rfl (hb hby d3_82) rfl rfl ?_
                  exact k
                obtain ⟨T_8, X_8, e_8, st_8⟩ := getS2 X_7 hx hZ hown (host := "") (Or.inl (hw _ (List.mem_of_getElem? (i := 34) rfl))) Via.refl e_7 (hS.2.2.2.2.2.2.2.2.2.1) (g := (mkF m 83 #[.val (.ref a0), .val (.int p1)] [(.ref a0)])) rfl (hb hby d3_83)
                refine own_go (B := T_8.setTop (mkF m 86 #[.val (.ref a0), .val (.int p1)] [(.ref (ad 9)), (.ref a0)])) (fun t k => st_8 t k) ?_
                by_cases hc86 : a0 = (ad 9)
                · refine own_go (B := T_8.setTop (mkF m 89 #[.val (.ref a0), .val (.int p1)] [])) (fun t k => ?_) ?_
                  · show Steps p.tables e below (T_8.setTop (mkF m 86 #[.val (.ref a0), .val (.int p1)] [(.ref (ad 9)), (.ref a0)])) _
                    refine Jvm.RoadKit.acmp (g := (mkF m 86 #[.val (.ref a0), .val (.int p1)] [(.ref (ad 9)), (.ref a0)])) X_8 hx rfl rfl rfl (pc0 := 86) (pc' := 89) (same := true) rfl (hb hby d3_86) rfl (decide_eq_true (congrArg Value.ref hc86)) (by decide) (by decide) ?_
                    exact k
                  refine own_go (B := T_8.setTop (mkF m 91 #[.val (.ref a0), .val (.int p1)] [(.int (1 : Int32)), (.int p1)])) (fun t k => ?_) ?_
                  · show Steps p.tables e below (T_8.setTop (mkF m 89 #[.val (.ref a0), .val (.int p1)] [])) _
                    refine XS.iloadN X_8.here hx rfl (hb hby d3_89) rfl ?_
                    show Steps p.tables e below (T_8.setTop (mkF m 90 #[.val (.ref a0), .val (.int p1)] [(.int p1)])) _
                    refine XS.iconst X_8.here hx rfl (hb hby d3_90) ?_
                    exact k
                  by_cases hc91 : p1 < (1 : Int32)
                  · refine own_go (B := T_8.setTop (mkF m 98 #[.val (.ref a0), .val (.int p1)] [])) (fun t k => ?_) ?_
                    · show Steps p.tables e below (T_8.setTop (mkF m 91 #[.val (.ref a0), .val (.int p1)] [(.int (1 : Int32)), (.int p1)])) _
                      refine XS.icmpYes X_8.here hx rfl (pc0 := 91) (pc' := 98) rfl (hb hby d3_91) rfl (tlt hc91).1 (by decide) (by decide) ?_
                      exact k
                    refine own_go (B := T_8.setTop (mkF m 99 #[.val (.ref a0), .val (.int p1)] [(.int (0 : Int32))])) (fun t k => ?_) ?_
                    · show Steps p.tables e below (T_8.setTop (mkF m 98 #[.val (.ref a0), .val (.int p1)] [])) _
                      refine XS.iconst X_8.here hx rfl (hb hby d3_98) ?_
                      exact k
                    obtain ⟨fs, hr, hrun, hended, hW, hsame⟩ := X_8.leave (v := some (.int (0 : Int32))) (fun h => by rw [Bd.returns] at h; cases h)
                    refine ⟨_, _, ?_, hrun, hended, _, _, rfl, ?_, ⟨_, rfl⟩, hW, hsame.mono (by decide) (by decide)⟩
                    · show Steps p.tables e below (T_8.setTop (mkF m 99 #[.val (.ref a0), .val (.int p1)] [(.int (0 : Int32))])) _
                      exact retN X_8 hx (t := .boolean) Bd.returns (by simp) (hb hby d3_99) hr
                    · show Q3 Z a0 p1 ad h0 n0 _ T_8.heap _
                      rw [e_8]
                      exact ⟨by simp only [own_expd, if_neg hc4, if_neg hc11, if_neg hc18, if_neg hc25, if_neg hc32, if_neg hc50, if_neg hc68, if_pos hc86, if_pos hc91], N0, rfl⟩
                  · refine own_go (B := T_8.setTop (mkF m 94 #[.val (.ref a0), .val (.int p1)] [])) (fun t k => ?_) ?_
                    · show Steps p.tables e below (T_8.setTop (mkF m 91 #[.val (.ref a0), .val (.int p1)] [(.int (1 : Int32)), (.int p1)])) _
                      refine XS.icmpNo X_8.here hx rfl (hb hby d3_91) rfl (flt hc91).1 ?_
                      exact k
                    refine own_go (B := T_8.setTop (mkF m 99 #[.val (.ref a0), .val (.int p1)] [(.int (1 : Int32))])) (fun t k => ?_) ?_
                    · show Steps p.tables e below (T_8.setTop (mkF m 94 #[.val (.ref a0), .val (.int p1)] [])) _
                      refine XS.iconst X_8.here hx rfl (hb hby d3_94) ?_
                      show Steps p.tables e below (T_8.setTop (mkF m 95 #[.val (.ref a0), .val (.int p1)] [(.int (1 : Int32))])) _
                      refine XS.goto X_8.here hx rfl (pc0 := 95) (pc' := 99) rfl (hb hby d3_95) (by decide) (by decide) ?_
                      exact k
                    obtain ⟨fs, hr, hrun, hended, hW, hsame⟩ := X_8.leave (v := some (.int (1 : Int32))) (fun h => by rw [Bd.returns] at h; cases h)
                    refine ⟨_, _, ?_, hrun, hended, _, _, rfl, ?_, ⟨_, rfl⟩, hW, hsame.mono (by decide) (by decide)⟩
                    · show Steps p.tables e below (T_8.setTop (mkF m 99 #[.val (.ref a0), .val (.int p1)] [(.int (1 : Int32))])) _
                      exact retN X_8 hx (t := .boolean) Bd.returns (by simp) (hb hby d3_99) hr
                    · show Q3 Z a0 p1 ad h0 n0 _ T_8.heap _
                      rw [e_8]
                      exact ⟨by simp only [own_expd, if_neg hc4, if_neg hc11, if_neg hc18, if_neg hc25, if_neg hc32, if_neg hc50, if_neg hc68, if_pos hc86, if_neg hc91], N0, rfl⟩
                · refine own_go (B := T_8.setTop (mkF m 100 #[.val (.ref a0), .val (.int p1)] [])) (fun t k => ?_) ?_
                  · show Steps p.tables e below (T_8.setTop (mkF m 86 #[.val (.ref a0), .val (.int p1)] [(.ref (ad 9)), (.ref a0)])) _
                    refine Jvm.RoadKit.acmp (g := (mkF m 86 #[.val (.ref a0), .val (.int p1)] [(.ref (ad 9)), (.ref a0)])) X_8 hx rfl rfl rfl (pc0 := 86) (pc' := 100) (same := false) rfl (hb hby d3_86) rfl (decide_eq_false fun q => hc86 (Value.ref.inj q)) (by decide) (by decide) ?_
                    exact k
                  refine own_go (B := T_8.setTop (mkF m 102 #[.val (.ref a0), .val (.int p1)] [(.int (2 : Int32)), (.int p1)])) (fun t k => ?_) ?_
                  · show Steps p.tables e below (T_8.setTop (mkF m 100 #[.val (.ref a0), .val (.int p1)] [])) _
                    refine XS.iloadN X_8.here hx rfl (hb hby d3_100) rfl ?_
                    show Steps p.tables e below (T_8.setTop (mkF m 101 #[.val (.ref a0), .val (.int p1)] [(.int p1)])) _
                    refine XS.iconst X_8.here hx rfl (hb hby d3_101) ?_
                    exact k
                  by_cases hc102 : p1 < (2 : Int32)
                  · refine own_go (B := T_8.setTop (mkF m 109 #[.val (.ref a0), .val (.int p1)] [])) (fun t k => ?_) ?_
                    · show Steps p.tables e below (T_8.setTop (mkF m 102 #[.val (.ref a0), .val (.int p1)] [(.int (2 : Int32)), (.int p1)])) _
                      refine XS.icmpYes X_8.here hx rfl (pc0 := 102) (pc' := 109) rfl (hb hby d3_102) rfl (tlt hc102).1 (by decide) (by decide) ?_
                      exact k
                    refine own_go (B := T_8.setTop (mkF m 110 #[.val (.ref a0), .val (.int p1)] [(.int (0 : Int32))])) (fun t k => ?_) ?_
                    · show Steps p.tables e below (T_8.setTop (mkF m 109 #[.val (.ref a0), .val (.int p1)] [])) _
                      refine XS.iconst X_8.here hx rfl (hb hby d3_109) ?_
                      exact k
                    obtain ⟨fs, hr, hrun, hended, hW, hsame⟩ := X_8.leave (v := some (.int (0 : Int32))) (fun h => by rw [Bd.returns] at h; cases h)
                    refine ⟨_, _, ?_, hrun, hended, _, _, rfl, ?_, ⟨_, rfl⟩, hW, hsame.mono (by decide) (by decide)⟩
                    · show Steps p.tables e below (T_8.setTop (mkF m 110 #[.val (.ref a0), .val (.int p1)] [(.int (0 : Int32))])) _
                      exact retN X_8 hx (t := .boolean) Bd.returns (by simp) (hb hby d3_110) hr
                    · show Q3 Z a0 p1 ad h0 n0 _ T_8.heap _
                      rw [e_8]
                      exact ⟨by simp only [own_expd, if_neg hc4, if_neg hc11, if_neg hc18, if_neg hc25, if_neg hc32, if_neg hc50, if_neg hc68, if_neg hc86, if_pos hc102], N0, rfl⟩
                  · refine own_go (B := T_8.setTop (mkF m 105 #[.val (.ref a0), .val (.int p1)] [])) (fun t k => ?_) ?_
                    · show Steps p.tables e below (T_8.setTop (mkF m 102 #[.val (.ref a0), .val (.int p1)] [(.int (2 : Int32)), (.int p1)])) _
                      refine XS.icmpNo X_8.here hx rfl (hb hby d3_102) rfl (flt hc102).1 ?_
                      exact k
                    refine own_go (B := T_8.setTop (mkF m 110 #[.val (.ref a0), .val (.int p1)] [(.int (1 : Int32))])) (fun t k => ?_) ?_
                    · show Steps p.tables e below (T_8.setTop (mkF m 105 #[.val (.ref a0), .val (.int p1)] [])) _
                      refine XS.iconst X_8.here hx rfl (hb hby d3_105) ?_
                      show Steps p.tables e below (T_8.setTop (mkF m 106 #[.val (.ref a0), .val (.int p1)] [(.int (1 : Int32))])) _
                      refine XS.goto X_8.here hx rfl (pc0 := 106) (pc' := 110) rfl (hb hby d3_106) (by decide) (by decide) ?_
                      exact k
                    obtain ⟨fs, hr, hrun, hended, hW, hsame⟩ := X_8.leave (v := some (.int (1 : Int32))) (fun h => by rw [Bd.returns] at h; cases h)
                    refine ⟨_, _, ?_, hrun, hended, _, _, rfl, ?_, ⟨_, rfl⟩, hW, hsame.mono (by decide) (by decide)⟩
                    · show Steps p.tables e below (T_8.setTop (mkF m 110 #[.val (.ref a0), .val (.int p1)] [(.int (1 : Int32))])) _
                      exact retN X_8 hx (t := .boolean) Bd.returns (by simp) (hb hby d3_110) hr
                    · show Q3 Z a0 p1 ad h0 n0 _ T_8.heap _
                      rw [e_8]
                      exact ⟨by simp only [own_expd, if_neg hc4, if_neg hc11, if_neg hc18, if_neg hc25, if_neg hc32, if_neg hc50, if_neg hc68, if_neg hc86, if_neg hc102], N0, rfl⟩
theorem own_pickL (i : Int32) : own_pick i < 22 := by
  by_cases h0 : i = (0 : Int32)
  · simp only [own_pick, if_pos h0]; decide
  by_cases h1 : i = (1 : Int32)
  · simp only [own_pick, if_neg h0, if_pos h1]; decide
  by_cases h2 : i = (2 : Int32)
  · simp only [own_pick, if_neg h0, if_neg h1, if_pos h2]; decide
  by_cases h3 : i = (3 : Int32)
  · simp only [own_pick, if_neg h0, if_neg h1, if_neg h2, if_pos h3]; decide
  by_cases h4 : i = (4 : Int32)
  · simp only [own_pick, if_neg h0, if_neg h1, if_neg h2, if_neg h3, if_pos h4]; decide
  by_cases h5 : i = (5 : Int32)
  · simp only [own_pick, if_neg h0, if_neg h1, if_neg h2, if_neg h3, if_neg h4, if_pos h5]; decide
  by_cases h6 : i = (6 : Int32)
  · simp only [own_pick, if_neg h0, if_neg h1, if_neg h2, if_neg h3, if_neg h4, if_neg h5, if_pos h6]; decide
  by_cases h7 : i = (7 : Int32)
  · simp only [own_pick, if_neg h0, if_neg h1, if_neg h2, if_neg h3, if_neg h4, if_neg h5, if_neg h6, if_pos h7]; decide
  by_cases h8 : i = (8 : Int32)
  · simp only [own_pick, if_neg h0, if_neg h1, if_neg h2, if_neg h3, if_neg h4, if_neg h5, if_neg h6, if_neg h7, if_pos h8]; decide
  by_cases h9 : i = (9 : Int32)
  · simp only [own_pick, if_neg h0, if_neg h1, if_neg h2, if_neg h3, if_neg h4, if_neg h5, if_neg h6, if_neg h7, if_neg h8, if_pos h9]; decide
  by_cases h10 : i = (10 : Int32)
  · simp only [own_pick, if_neg h0, if_neg h1, if_neg h2, if_neg h3, if_neg h4, if_neg h5, if_neg h6, if_neg h7, if_neg h8, if_neg h9, if_pos h10]; decide
  by_cases h11 : i = (11 : Int32)
  · simp only [own_pick, if_neg h0, if_neg h1, if_neg h2, if_neg h3, if_neg h4, if_neg h5, if_neg h6, if_neg h7, if_neg h8, if_neg h9, if_neg h10, if_pos h11]; decide
  by_cases h12 : i = (12 : Int32)
  · simp only [own_pick, if_neg h0, if_neg h1, if_neg h2, if_neg h3, if_neg h4, if_neg h5, if_neg h6, if_neg h7, if_neg h8, if_neg h9, if_neg h10, if_neg h11, if_pos h12]; decide
  by_cases h13 : i = (13 : Int32)
  · simp only [own_pick, if_neg h0, if_neg h1, if_neg h2, if_neg h3, if_neg h4, if_neg h5, if_neg h6, if_neg h7, if_neg h8, if_neg h9, if_neg h10, if_neg h11, if_neg h12, if_pos h13]; decide
  by_cases h14 : i = (14 : Int32)
  · simp only [own_pick, if_neg h0, if_neg h1, if_neg h2, if_neg h3, if_neg h4, if_neg h5, if_neg h6, if_neg h7, if_neg h8, if_neg h9, if_neg h10, if_neg h11, if_neg h12, if_neg h13, if_pos h14]; decide
  by_cases h15 : i = (15 : Int32)
  · simp only [own_pick, if_neg h0, if_neg h1, if_neg h2, if_neg h3, if_neg h4, if_neg h5, if_neg h6, if_neg h7, if_neg h8, if_neg h9, if_neg h10, if_neg h11, if_neg h12, if_neg h13, if_neg h14, if_pos h15]; decide
  by_cases h16 : i = (16 : Int32)
  · simp only [own_pick, if_neg h0, if_neg h1, if_neg h2, if_neg h3, if_neg h4, if_neg h5, if_neg h6, if_neg h7, if_neg h8, if_neg h9, if_neg h10, if_neg h11, if_neg h12, if_neg h13, if_neg h14, if_neg h15, if_pos h16]; decide
  by_cases h17 : i = (17 : Int32)
  · simp only [own_pick, if_neg h0, if_neg h1, if_neg h2, if_neg h3, if_neg h4, if_neg h5, if_neg h6, if_neg h7, if_neg h8, if_neg h9, if_neg h10, if_neg h11, if_neg h12, if_neg h13, if_neg h14, if_neg h15, if_neg h16, if_pos h17]; decide
  by_cases h18 : i = (18 : Int32)
  · simp only [own_pick, if_neg h0, if_neg h1, if_neg h2, if_neg h3, if_neg h4, if_neg h5, if_neg h6, if_neg h7, if_neg h8, if_neg h9, if_neg h10, if_neg h11, if_neg h12, if_neg h13, if_neg h14, if_neg h15, if_neg h16, if_neg h17, if_pos h18]; decide
  by_cases h19 : i = (19 : Int32)
  · simp only [own_pick, if_neg h0, if_neg h1, if_neg h2, if_neg h3, if_neg h4, if_neg h5, if_neg h6, if_neg h7, if_neg h8, if_neg h9, if_neg h10, if_neg h11, if_neg h12, if_neg h13, if_neg h14, if_neg h15, if_neg h16, if_neg h17, if_neg h18, if_pos h19]; decide
  by_cases h20 : i = (20 : Int32)
  · simp only [own_pick, if_neg h0, if_neg h1, if_neg h2, if_neg h3, if_neg h4, if_neg h5, if_neg h6, if_neg h7, if_neg h8, if_neg h9, if_neg h10, if_neg h11, if_neg h12, if_neg h13, if_neg h14, if_neg h15, if_neg h16, if_neg h17, if_neg h18, if_neg h19, if_pos h20]; decide
  simp only [own_pick, if_neg h0, if_neg h1, if_neg h2, if_neg h3, if_neg h4, if_neg h5, if_neg h6, if_neg h7, if_neg h8, if_neg h9, if_neg h10, if_neg h11, if_neg h12, if_neg h13, if_neg h14, if_neg h15, if_neg h16, if_neg h17, if_neg h18, if_neg h19, if_neg h20]; decide
theorem own_top (c : Int32) : ¬ (2147483647 : Int32) < c := by
  rw [Int32.lt_iff_toInt_lt]
  have := c.toInt_lt
  have e : (2147483647 : Int32).toInt = 2147483647 := rfl
  omega
theorem own_one (v c : Int32) : own_takes v v c = if c = v then (1 : Int32) else (0 : Int32) := by
  unfold own_takes
  by_cases h : c = v
  · subst h; simp [Int32.lt_irrefl]
  · by_cases h1 : c < v
    · simp [h, h1]
    · have h2 : v < c := by
        rw [Int32.lt_iff_toInt_lt] at h1 ⊢
        have : c.toInt ≠ v.toInt := fun q => h (Int32.toInt_inj.mp q)
        omega
      simp [h, h1, h2]
theorem own_many (v c : Int32) : own_takes v 2147483647 c = if c < v then (0 : Int32) else (1 : Int32) := by
  unfold own_takes
  simp [own_top]
theorem own_law (ad : Nat → Addr) (hi : ∀ i j, i < 22 → j < 22 → ad i = ad j → i = j) (j : Nat) (hj : j < 22) (c : Int32) : own_expd ad (ad j) c = own_takes (own_mn j) (own_mx j) c := by
  have q : ∀ k, k < 22 → ((ad j = ad k) = (j = k)) := fun k hk => propext ⟨hi j k hj hk, fun z => z ▸ rfl⟩
  simp only [own_expd, q 0 (by decide), q 13 (by decide), q 19 (by decide), q 20 (by decide), q 21 (by decide), q 5 (by decide), q 12 (by decide), q 9 (by decide)]
  have hj' : j = 0 ∨ j = 1 ∨ j = 2 ∨ j = 3 ∨ j = 4 ∨ j = 5 ∨ j = 6 ∨ j = 7 ∨ j = 8 ∨ j = 9 ∨ j = 10 ∨ j = 11 ∨ j = 12 ∨ j = 13 ∨ j = 14 ∨ j = 15 ∨ j = 16 ∨ j = 17 ∨ j = 18 ∨ j = 19 ∨ j = 20 ∨ j = 21 := by omega
  rcases hj' with rfl | rfl | rfl | rfl | rfl | rfl | rfl | rfl | rfl | rfl | rfl | rfl | rfl | rfl | rfl | rfl | rfl | rfl | rfl | rfl | rfl | rfl
  · exact (own_one 1 c).symm
  · exact (own_many 2 c).symm
  · exact (own_many 2 c).symm
  · exact (own_many 2 c).symm
  · exact (own_many 2 c).symm
  · exact (own_one 3 c).symm
  · exact (own_many 2 c).symm
  · exact (own_many 2 c).symm
  · exact (own_many 2 c).symm
  · exact (own_many 1 c).symm
  · exact (own_many 2 c).symm
  · exact (own_many 2 c).symm
  · exact (own_one 2 c).symm
  · exact (own_one 1 c).symm
  · exact (own_many 2 c).symm
  · exact (own_many 2 c).symm
  · exact (own_many 2 c).symm
  · exact (own_many 2 c).symm
  · exact (own_many 2 c).symm
  · exact (own_one 1 c).symm
  · exact (own_one 1 c).symm
  · exact (own_one 1 c).symm
theorem pn_0 : plainName "com/example/symvane/symvane/term/OperatorTakesPinLaw" = true := by first | (simp [plainName, overriddenIn]; done) | decide +kernel
theorem ef_0 (m : MethodId) (p0 : Int32) (p1 : Int32) (p2 : Int32) : entryFrame m #[(.int p0), (.int p1), (.int p2)] maxLocals = mkF m 0 #[.val (.int p0), .val (.int p1), .val (.int p2), .unset, .unset] [] := by first | (simp [entryFrame, mkF, argsToLocals, Value.category, maxLocals]; done) | rfl
theorem pd_0 : parseMethodDescriptor "(I)Lcom/example/symvane/symvane/term/Operator;" = some ⟨[.int], some (.object "com/example/symvane/symvane/term/Operator")⟩ := by decide +kernel
theorem pd_1 : parseMethodDescriptor "(I)Z" = some ⟨[.int], some .boolean⟩ := by decide +kernel
theorem pd_2 : parseMethodDescriptor "(Lcom/example/symvane/symvane/term/Operator;I)Z" = some ⟨[(.object "com/example/symvane/symvane/term/Operator"), .int], some .boolean⟩ := by decide +kernel
def Q0 (Z : State) (p0 : Int32) (p1 : Int32) (p2 : Int32) (ad : Nat → Addr) (h0 : Heap) (n0 : Nat) (v : Option Value) (h : Heap) (L : List Loc) : Prop := v = some (.int 1) ∧ Fr n0 L ∧ True
set_option maxRecDepth 65536 in
set_option maxHeartbeats 40000000 in
theorem rm0 (l : Launch) (Z : State) (av0 : Array Value) (hw : ∀ d ∈ tables_1, d.before av0 Z = true) (ws : List Jvm.Cond) (p0 : Int32) (p1 : Int32) (p2 : Int32) (ad : Nat → Addr) (h0 : Heap) (n0 : Nat) (Z0 : n0 ≤ h0.size) (hS : own_S Z h0 ad) (hI : ∀ i j, i < 22 → j < 22 → ad i = ad j → i = j) (hE : ∀ j, j < 22 → Exa Z h0 (ad j) "com/example/symvane/symvane/term/Operator") (hF : ∀ j, j < 22 → Fld Z h0 (ad j) "com/example/symvane/symvane/term/Operator" "minArgs" "I" (.int (own_mn j)) ∧ Fld Z h0 (ad j) "com/example/symvane/symvane/term/Operator" "maxArgs" "I" (.int (own_mx j))) :
    MetFree l x (head1 (Jvm.Cond.code x code maxLocals ret :: ws) room_1) (fun a U => a = #[(.int p0), (.int p1), (.int p2)] ∧ Z.Warmed39 U.vm ∧ U.heap = h0) (fun _ _ _ _ _ => True) (fun _ U o U' => ∃ v L, o = .returned v ∧ Q0 Z p0 p1 p2 ad h0 n0 v U'.heap L ∧ FrameEnd U o U' L room_1.cells room_1.slots) := by
  refine MetFree.of_bodySF (plainFor_of_name pn_0) hisR ?_
  intro p e s m args below meth c s₁ Bd hml0 hP hK
  obtain ⟨rfl, hZ, hh⟩ := hP
  have hx := Bd.exec
  have hby := Bd.bytes
  have hml : c.maxLocals = 5 := hml0
  have hown : s.vm.findClass "com/example/symvane/symvane/term/OperatorTakesPinLaw" = some m.cls := findClass_of_methodNamed Bd.named
  have hnm := (name_of_methodNamed Bd.named Bd.method).1
  have X0 : Stand p l e room_1 s m #[(.int p0), (.int p1), (.int p2)] below meth c s₁ [] 0 0 := Stand.of_body Bd
  have e0 : s₁.heap = h0 := by rw [← hh, Bd.state]; rfl
  have N0 := Fr.nil n0
  have K0 : Keep h0 h0 [] := Keep.refl h0 []
  refine own_go (B := s₁.setTop (mkF m 0 #[.val (.int p0), .val (.int p1), .val (.int p2), .unset, .unset] [])) (fun t k => castTop (ef_0 m p0 p1 p2) k) ?_
  refine own_go (B := s₁.setTop (mkF m 7 #[.val (.int p0), .val (.int p1), .val (.int p2), .unset, .unset] [(.int ((p0 &&& (2147483647 : Int32)) - ((p0 &&& (2147483647 : Int32)) / (22 : Int32)) * (22 : Int32)))])) (fun t k => ?_) ?_
  · show Steps p.tables e below (s₁.setTop (mkF m 0 #[.val (.int p0), .val (.int p1), .val (.int p2), .unset, .unset] [])) _
    refine XS.iloadN X0.here hx rfl (hb hby at_0) rfl ?_
    show Steps p.tables e below (s₁.setTop (mkF m 1 #[.val (.int p0), .val (.int p1), .val (.int p2), .unset, .unset] [(.int p0)])) _
    refine X0.ldcInt hx hown (mvT hZ (hw _ (List.mem_of_getElem? (i := 0) rfl))) (g := (mkF m 1 #[.val (.int p0), .val (.int p1), .val (.int p2), .unset, .unset] [(.int p0)])) rfl (hb hby at_1) _ ?_
    show Steps p.tables e below (s₁.setTop (mkF m 3 #[.val (.int p0), .val (.int p1), .val (.int p2), .unset, .unset] [(.int (2147483647 : Int32)), (.int p0)])) _
    refine XS.iand X0.here hx rfl (hb hby at_3) rfl ?_
    show Steps p.tables e below (s₁.setTop (mkF m 4 #[.val (.int p0), .val (.int p1), .val (.int p2), .unset, .unset] [(.int (p0 &&& (2147483647 : Int32)))])) _
    refine XS.bipush X0.here hx rfl (hb hby at_4) ?_
    show Steps p.tables e below (s₁.setTop (mkF m 6 #[.val (.int p0), .val (.int p1), .val (.int p2), .unset, .unset] [(.int (22 : Int32)), (.int (p0 &&& (2147483647 : Int32)))])) _
    refine XS.irem X0.here hx rfl (hb hby at_6) rfl (by decide) ?_
    exact k
  obtain ⟨_, _, ⟨T_1, L_1, k_1, n_1⟩, -, X_1, ⟨Lc_1, hQ_1, l_1, y_1, z_1⟩, st_1⟩ := Jvm.LawKit.callS X0 hx (y := (⟨"com/example/symvane/symvane/term/OperatorTakesPinLaw", "pick", "(I)Lcom/example/symvane/symvane/term/Operator;"⟩ : MethodName)) hown (mvT hZ (hw _ (List.mem_of_getElem? (i := 1) rfl))) (mvT hZ (hw _ (List.mem_of_getElem? (i := 2) rfl))) (mvT hZ (hw _ (List.mem_of_getElem? (i := 3) rfl))) (mvT hZ (hw _ (List.mem_of_getElem? (i := 4) rfl))) (by decide) (backOf (W := 0) (rm1 l Z av0 hw [] ((p0 &&& (2147483647 : Int32)) - ((p0 &&& (2147483647 : Int32)) / (22 : Int32)) * (22 : Int32)) ad h0 n0 Z0 hS) hZ (hw _ (List.mem_of_getElem? (i := 4) rfl)) (hw _ (List.mem_of_getElem? (i := 3) rfl)) (by decide) (by decide)) (g := (mkF m 7 #[.val (.int p0), .val (.int p1), .val (.int p2), .unset, .unset] [(.int ((p0 &&& (2147483647 : Int32)) - ((p0 &&& (2147483647 : Int32)) / (22 : Int32)) * (22 : Int32)))])) rfl (by rw [hml]; rfl) (argsL := [(.int ((p0 &&& (2147483647 : Int32)) - ((p0 &&& (2147483647 : Int32)) / (22 : Int32)) * (22 : Int32)))]) (rest := []) (lenOf pd_0 rfl) rfl (by show 2 * 0 + _ ≤ _; exact Nat.le_of_eq rfl) (hb hby at_7) (fun _ _ => ⟨rfl, e0, (by decide : 0 + 0 ≤ _), (by decide : 0 + 0 ≤ _)⟩)
  dsimp only [Pt.U, Pt.locs, Pt.cells, Pt.slots] at X_1 l_1 y_1 z_1 st_1 hQ_1
  subst l_1 y_1 z_1
  obtain ⟨rfl, N_1q, e_1⟩ := hQ_1
  have N_1 := Fr.app N0 N_1q
  refine own_go (B := T_1.setTop (mkF m 10 #[.val (.int p0), .val (.int p1), .val (.int p2), .unset, .unset] [(.ref (ad (own_pick ((p0 &&& (2147483647 : Int32)) - ((p0 &&& (2147483647 : Int32)) / (22 : Int32)) * (22 : Int32)))))])) (fun t k => st_1 t k) ?_
  refine own_go (B := T_1.setTop (mkF m 14 #[.val (.int p0), .val (.int p1), .val (.int p2), .val (.ref (ad (own_pick ((p0 &&& (2147483647 : Int32)) - ((p0 &&& (2147483647 : Int32)) / (22 : Int32)) * (22 : Int32))))), .unset] [(.int (p2 &&& (1 : Int32)))])) (fun t k => ?_) ?_
  · show Steps p.tables e below (T_1.setTop (mkF m 10 #[.val (.int p0), .val (.int p1), .val (.int p2), .unset, .unset] [(.ref (ad (own_pick ((p0 &&& (2147483647 : Int32)) - ((p0 &&& (2147483647 : Int32)) / (22 : Int32)) * (22 : Int32)))))])) _
    refine XS.astoreN X_1.here hx rfl (hb hby at_10) rfl rfl (l' := #[.val (.int p0), .val (.int p1), .val (.int p2), .val (.ref (ad (own_pick ((p0 &&& (2147483647 : Int32)) - ((p0 &&& (2147483647 : Int32)) / (22 : Int32)) * (22 : Int32))))), .unset]) rfl ?_
    show Steps p.tables e below (T_1.setTop (mkF m 11 #[.val (.int p0), .val (.int p1), .val (.int p2), .val (.ref (ad (own_pick ((p0 &&& (2147483647 : Int32)) - ((p0 &&& (2147483647 : Int32)) / (22 : Int32)) * (22 : Int32))))), .unset] [])) _
    refine XS.iloadN X_1.here hx rfl (hb hby at_11) rfl ?_
    show Steps p.tables e below (T_1.setTop (mkF m 12 #[.val (.int p0), .val (.int p1), .val (.int p2), .val (.ref (ad (own_pick ((p0 &&& (2147483647 : Int32)) - ((p0 &&& (2147483647 : Int32)) / (22 : Int32)) * (22 : Int32))))), .unset] [(.int p2)])) _
    refine XS.iconst X_1.here hx rfl (hb hby at_12) ?_
    show Steps p.tables e below (T_1.setTop (mkF m 13 #[.val (.int p0), .val (.int p1), .val (.int p2), .val (.ref (ad (own_pick ((p0 &&& (2147483647 : Int32)) - ((p0 &&& (2147483647 : Int32)) / (22 : Int32)) * (22 : Int32))))), .unset] [(.int (1 : Int32)), (.int p2)])) _
    refine XS.iand X_1.here hx rfl (hb hby at_13) rfl ?_
    exact k
  obtain ⟨zv1, hzv1⟩ : ∃ z : Int32, z = (if (p2 &&& (1 : Int32)) = (0 : Int32) then p1 else (p1 - (p1 / (6 : Int32)) * (6 : Int32))) := ⟨_, rfl⟩
  refine own_go (B := T_1.setTop (mkF m 25 #[.val (.int p0), .val (.int p1), .val (.int p2), .val (.ref (ad (own_pick ((p0 &&& (2147483647 : Int32)) - ((p0 &&& (2147483647 : Int32)) / (22 : Int32)) * (22 : Int32))))), .unset] [(.int zv1)])) (fun t k => ?_) ?_
  · show Steps p.tables e below (T_1.setTop (mkF m 14 #[.val (.int p0), .val (.int p1), .val (.int p2), .val (.ref (ad (own_pick ((p0 &&& (2147483647 : Int32)) - ((p0 &&& (2147483647 : Int32)) / (22 : Int32)) * (22 : Int32))))), .unset] [(.int (p2 &&& (1 : Int32)))])) _
    by_cases hc14 : (p2 &&& (1 : Int32)) = (0 : Int32)
    · refine XS.ifYes X_1.here hx rfl (pc0 := 14) (pc' := 24) rfl (hb hby at_14) rfl ((if0 _ _).trans (teq hc14).1) (by decide) (by decide) ?_
      show Steps p.tables e below (T_1.setTop (mkF m 24 #[.val (.int p0), .val (.int p1), .val (.int p2), .val (.ref (ad (own_pick ((p0 &&& (2147483647 : Int32)) - ((p0 &&& (2147483647 : Int32)) / (22 : Int32)) * (22 : Int32))))), .unset] [])) _
      refine XS.iloadN X_1.here hx rfl (hb hby at_24) rfl ?_
      show Steps p.tables e below (T_1.setTop (mkF m 25 #[.val (.int p0), .val (.int p1), .val (.int p2), .val (.ref (ad (own_pick ((p0 &&& (2147483647 : Int32)) - ((p0 &&& (2147483647 : Int32)) / (22 : Int32)) * (22 : Int32))))), .unset] [(.int p1)])) _
      rw [show zv1 = p1 from by simp only [hzv1, if_pos hc14]] at k
      exact k
    · refine XS.ifNo X_1.here hx rfl (hb hby at_14) rfl ((if0 _ _).trans (feq hc14).1) ?_
      show Steps p.tables e below (T_1.setTop (mkF m 17 #[.val (.int p0), .val (.int p1), .val (.int p2), .val (.ref (ad (own_pick ((p0 &&& (2147483647 : Int32)) - ((p0 &&& (2147483647 : Int32)) / (22 : Int32)) * (22 : Int32))))), .unset] [])) _
      refine XS.iloadN X_1.here hx rfl (hb hby at_17) rfl ?_
      show Steps p.tables e below (T_1.setTop (mkF m 18 #[.val (.int p0), .val (.int p1), .val (.int p2), .val (.ref (ad (own_pick ((p0 &&& (2147483647 : Int32)) - ((p0 &&& (2147483647 : Int32)) / (22 : Int32)) * (22 : Int32))))), .unset] [(.int p1)])) _
      refine XS.bipush X_1.here hx rfl (hb hby at_18) ?_
      show Steps p.tables e below (T_1.setTop (mkF m 20 #[.val (.int p0), .val (.int p1), .val (.int p2), .val (.ref (ad (own_pick ((p0 &&& (2147483647 : Int32)) - ((p0 &&& (2147483647 : Int32)) / (22 : Int32)) * (22 : Int32))))), .unset] [(.int (6 : Int32)), (.int p1)])) _
      refine XS.irem X_1.here hx rfl (hb hby at_20) rfl (by decide) ?_
      show Steps p.tables e below (T_1.setTop (mkF m 21 #[.val (.int p0), .val (.int p1), .val (.int p2), .val (.ref (ad (own_pick ((p0 &&& (2147483647 : Int32)) - ((p0 &&& (2147483647 : Int32)) / (22 : Int32)) * (22 : Int32))))), .unset] [(.int (p1 - (p1 / (6 : Int32)) * (6 : Int32)))])) _
      refine XS.goto X_1.here hx rfl (pc0 := 21) (pc' := 25) rfl (hb hby at_21) (by decide) (by decide) ?_
      show Steps p.tables e below (T_1.setTop (mkF m 25 #[.val (.int p0), .val (.int p1), .val (.int p2), .val (.ref (ad (own_pick ((p0 &&& (2147483647 : Int32)) - ((p0 &&& (2147483647 : Int32)) / (22 : Int32)) * (22 : Int32))))), .unset] [(.int (p1 - (p1 / (6 : Int32)) * (6 : Int32)))])) _
      rw [show zv1 = (p1 - (p1 / (6 : Int32)) * (6 : Int32)) from by simp only [hzv1, if_neg hc14]] at k
      exact k
  refine own_go (B := T_1.setTop (mkF m 30 #[.val (.int p0), .val (.int p1), .val (.int p2), .val (.ref (ad (own_pick ((p0 &&& (2147483647 : Int32)) - ((p0 &&& (2147483647 : Int32)) / (22 : Int32)) * (22 : Int32))))), .val (.int zv1)] [(.int zv1), (.ref (ad (own_pick ((p0 &&& (2147483647 : Int32)) - ((p0 &&& (2147483647 : Int32)) / (22 : Int32)) * (22 : Int32)))))])) (fun t k => ?_) ?_
  · show Steps p.tables e below (T_1.setTop (mkF m 25 #[.val (.int p0), .val (.int p1), .val (.int p2), .val (.ref (ad (own_pick ((p0 &&& (2147483647 : Int32)) - ((p0 &&& (2147483647 : Int32)) / (22 : Int32)) * (22 : Int32))))), .unset] [(.int zv1)])) _
    refine XS.istore X_1.here hx rfl (hb hby at_25) rfl (l' := #[.val (.int p0), .val (.int p1), .val (.int p2), .val (.ref (ad (own_pick ((p0 &&& (2147483647 : Int32)) - ((p0 &&& (2147483647 : Int32)) / (22 : Int32)) * (22 : Int32))))), .val (.int zv1)]) rfl ?_
    show Steps p.tables e below (T_1.setTop (mkF m 27 #[.val (.int p0), .val (.int p1), .val (.int p2), .val (.ref (ad (own_pick ((p0 &&& (2147483647 : Int32)) - ((p0 &&& (2147483647 : Int32)) / (22 : Int32)) * (22 : Int32))))), .val (.int zv1)] [])) _
    refine XS.aloadN X_1.here hx rfl (hb hby at_27) rfl rfl ?_
    show Steps p.tables e below (T_1.setTop (mkF m 28 #[.val (.int p0), .val (.int p1), .val (.int p2), .val (.ref (ad (own_pick ((p0 &&& (2147483647 : Int32)) - ((p0 &&& (2147483647 : Int32)) / (22 : Int32)) * (22 : Int32))))), .val (.int zv1)] [(.ref (ad (own_pick ((p0 &&& (2147483647 : Int32)) - ((p0 &&& (2147483647 : Int32)) / (22 : Int32)) * (22 : Int32)))))])) _
    refine XS.iload X_1.here hx rfl (hb hby at_28) rfl ?_
    exact k
  obtain ⟨cq_2, kq_2, q_2a, q_2b, q_2c⟩ := isOf hZ e_1 (hE _ (own_pickL _))
  obtain ⟨_, _, ⟨T_2, L_2, k_2, n_2⟩, -, X_2, ⟨Lc_2, hQ_2, l_2, y_2, z_2⟩, st_2⟩ := X_1.virtualBack hx (y := (⟨"com/example/symvane/symvane/term/Operator", "takes", "(I)Z"⟩ : MethodName)) (z := (⟨"com/example/symvane/symvane/term/Operator", "takes", "(I)Z"⟩ : MethodName)) hown (mvT hZ (hw _ (List.mem_of_getElem? (i := 8) rfl))) (mvT hZ (hw _ (List.mem_of_getElem? (i := 9) rfl))) (notFace_of_selects (args := #[]) (mvT hZ (hw _ (List.mem_of_getElem? (i := 11) rfl)))) (mvT hZ (hw _ (List.mem_of_getElem? (i := 11) rfl))) (mvT hZ (hw _ (List.mem_of_getElem? (i := 10) rfl))) (by decide) (backOf (W := 0) (rm2 l Z av0 hw [] (ad (own_pick ((p0 &&& (2147483647 : Int32)) - ((p0 &&& (2147483647 : Int32)) / (22 : Int32)) * (22 : Int32)))) zv1 (own_mn (own_pick ((p0 &&& (2147483647 : Int32)) - ((p0 &&& (2147483647 : Int32)) / (22 : Int32)) * (22 : Int32)))) (own_mx (own_pick ((p0 &&& (2147483647 : Int32)) - ((p0 &&& (2147483647 : Int32)) / (22 : Int32)) * (22 : Int32)))) h0 n0 Z0 (hF _ (own_pickL _)).1 (hF _ (own_pickL _)).2) hZ (hw _ (List.mem_of_getElem? (i := 12) rfl)) (hw _ (List.mem_of_getElem? (i := 6) rfl)) (by decide) (by decide)) q_2a q_2c (g := (mkF m 30 #[.val (.int p0), .val (.int p1), .val (.int p2), .val (.ref (ad (own_pick ((p0 &&& (2147483647 : Int32)) - ((p0 &&& (2147483647 : Int32)) / (22 : Int32)) * (22 : Int32))))), .val (.int zv1)] [(.int zv1), (.ref (ad (own_pick ((p0 &&& (2147483647 : Int32)) - ((p0 &&& (2147483647 : Int32)) / (22 : Int32)) * (22 : Int32)))))])) rfl (by rw [hml]; rfl) (Steps.refl _) (argsL := [(.int zv1)]) (rest := []) (lenOf pd_1 rfl) rfl (by show 2 * 0 + _ ≤ _; exact Nat.le_of_eq rfl) (hb hby at_30) (fun _ _ => ⟨rfl, e_1, (by decide : 0 + 0 ≤ _), (by decide : 0 + 0 ≤ _)⟩)
  dsimp only [Pt.U, Pt.locs, Pt.cells, Pt.slots] at X_2 l_2 y_2 z_2 st_2 hQ_2
  subst l_2 y_2 z_2
  obtain ⟨rfl, N_2q, e_2⟩ := hQ_2
  have N_2 := Fr.app N_1 N_2q
  refine own_go (B := T_2.setTop (mkF m 33 #[.val (.int p0), .val (.int p1), .val (.int p2), .val (.ref (ad (own_pick ((p0 &&& (2147483647 : Int32)) - ((p0 &&& (2147483647 : Int32)) / (22 : Int32)) * (22 : Int32))))), .val (.int zv1)] [(.int (own_takes (own_mn (own_pick ((p0 &&& (2147483647 : Int32)) - ((p0 &&& (2147483647 : Int32)) / (22 : Int32)) * (22 : Int32)))) (own_mx (own_pick ((p0 &&& (2147483647 : Int32)) - ((p0 &&& (2147483647 : Int32)) / (22 : Int32)) * (22 : Int32)))) zv1))])) (fun t k => st_2.trans k) ?_
  refine own_go (B := T_2.setTop (mkF m 36 #[.val (.int p0), .val (.int p1), .val (.int p2), .val (.ref (ad (own_pick ((p0 &&& (2147483647 : Int32)) - ((p0 &&& (2147483647 : Int32)) / (22 : Int32)) * (22 : Int32))))), .val (.int zv1)] [(.int zv1), (.ref (ad (own_pick ((p0 &&& (2147483647 : Int32)) - ((p0 &&& (2147483647 : Int32)) / (22 : Int32)) * (22 : Int32))))), (.int (own_takes (own_mn (own_pick ((p0 &&& (2147483647 : Int32)) - ((p0 &&& (2147483647 : Int32)) / (22 : Int32)) * (22 : Int32)))) (own_mx (own_pick ((p0 &&& (2147483647 : Int32)) - ((p0 &&& (2147483647 : Int32)) / (22 : Int32)) * (22 : Int32)))) zv1))])) (fun t k => ?_) ?_
  · show Steps p.tables e below (T_2.setTop (mkF m 33 #[.val (.int p0), .val (.int p1), .val (.int p2), .val (.ref (ad (own_pick ((p0 &&& (2147483647 : Int32)) - ((p0 &&& (2147483647 : Int32)) / (22 : Int32)) * (22 : Int32))))), .val (.int zv1)] [(.int (own_takes (own_mn (own_pick ((p0 &&& (2147483647 : Int32)) - ((p0 &&& (2147483647 : Int32)) / (22 : Int32)) * (22 : Int32)))) (own_mx (own_pick ((p0 &&& (2147483647 : Int32)) - ((p0 &&& (2147483647 : Int32)) / (22 : Int32)) * (22 : Int32)))) zv1))])) _
    refine XS.aloadN X_2.here hx rfl (hb hby at_33) rfl rfl ?_
    show Steps p.tables e below (T_2.setTop (mkF m 34 #[.val (.int p0), .val (.int p1), .val (.int p2), .val (.ref (ad (own_pick ((p0 &&& (2147483647 : Int32)) - ((p0 &&& (2147483647 : Int32)) / (22 : Int32)) * (22 : Int32))))), .val (.int zv1)] [(.ref (ad (own_pick ((p0 &&& (2147483647 : Int32)) - ((p0 &&& (2147483647 : Int32)) / (22 : Int32)) * (22 : Int32))))), (.int (own_takes (own_mn (own_pick ((p0 &&& (2147483647 : Int32)) - ((p0 &&& (2147483647 : Int32)) / (22 : Int32)) * (22 : Int32)))) (own_mx (own_pick ((p0 &&& (2147483647 : Int32)) - ((p0 &&& (2147483647 : Int32)) / (22 : Int32)) * (22 : Int32)))) zv1))])) _
    refine XS.iload X_2.here hx rfl (hb hby at_34) rfl ?_
    exact k
  obtain ⟨_, _, ⟨T_3, L_3, k_3, n_3⟩, -, X_3, ⟨Lc_3, hQ_3, l_3, y_3, z_3⟩, st_3⟩ := Jvm.LawKit.callS X_2 hx (y := (⟨"com/example/symvane/symvane/term/OperatorTakesPinLaw", "expected", "(Lcom/example/symvane/symvane/term/Operator;I)Z"⟩ : MethodName)) hown (mvT hZ (hw _ (List.mem_of_getElem? (i := 17) rfl))) (mvT hZ (hw _ (List.mem_of_getElem? (i := 18) rfl))) (mvT hZ (hw _ (List.mem_of_getElem? (i := 3) rfl))) (mvT hZ (hw _ (List.mem_of_getElem? (i := 19) rfl))) (by decide) (backOf (W := 1) (rm3 l Z av0 hw [] (ad (own_pick ((p0 &&& (2147483647 : Int32)) - ((p0 &&& (2147483647 : Int32)) / (22 : Int32)) * (22 : Int32)))) zv1 ad h0 n0 Z0 hS) hZ (hw _ (List.mem_of_getElem? (i := 19) rfl)) (hw _ (List.mem_of_getElem? (i := 3) rfl)) (by decide) (by decide)) (g := (mkF m 36 #[.val (.int p0), .val (.int p1), .val (.int p2), .val (.ref (ad (own_pick ((p0 &&& (2147483647 : Int32)) - ((p0 &&& (2147483647 : Int32)) / (22 : Int32)) * (22 : Int32))))), .val (.int zv1)] [(.int zv1), (.ref (ad (own_pick ((p0 &&& (2147483647 : Int32)) - ((p0 &&& (2147483647 : Int32)) / (22 : Int32)) * (22 : Int32))))), (.int (own_takes (own_mn (own_pick ((p0 &&& (2147483647 : Int32)) - ((p0 &&& (2147483647 : Int32)) / (22 : Int32)) * (22 : Int32)))) (own_mx (own_pick ((p0 &&& (2147483647 : Int32)) - ((p0 &&& (2147483647 : Int32)) / (22 : Int32)) * (22 : Int32)))) zv1))])) rfl (by rw [hml]; rfl) (argsL := [(.ref (ad (own_pick ((p0 &&& (2147483647 : Int32)) - ((p0 &&& (2147483647 : Int32)) / (22 : Int32)) * (22 : Int32))))), (.int zv1)]) (rest := [(.int (own_takes (own_mn (own_pick ((p0 &&& (2147483647 : Int32)) - ((p0 &&& (2147483647 : Int32)) / (22 : Int32)) * (22 : Int32)))) (own_mx (own_pick ((p0 &&& (2147483647 : Int32)) - ((p0 &&& (2147483647 : Int32)) / (22 : Int32)) * (22 : Int32)))) zv1))]) (lenOf pd_2 rfl) rfl (by show 2 * 0 + _ ≤ _; exact Nat.le_of_eq rfl) (hb hby at_36) (fun _ _ => ⟨rfl, e_2, (by decide : 0 + 0 ≤ _), (by decide : 0 + 0 ≤ _)⟩)
  dsimp only [Pt.U, Pt.locs, Pt.cells, Pt.slots] at X_3 l_3 y_3 z_3 st_3 hQ_3
  subst l_3 y_3 z_3
  obtain ⟨hv_3, N_3q, e_3⟩ := hQ_3
  have N_3 := Fr.app N_2 N_3q
  rw [own_law ad hI _ (own_pickL _)] at hv_3
  subst hv_3
  refine own_go (B := T_3.setTop (mkF m 39 #[.val (.int p0), .val (.int p1), .val (.int p2), .val (.ref (ad (own_pick ((p0 &&& (2147483647 : Int32)) - ((p0 &&& (2147483647 : Int32)) / (22 : Int32)) * (22 : Int32))))), .val (.int zv1)] [(.int (own_takes (own_mn (own_pick ((p0 &&& (2147483647 : Int32)) - ((p0 &&& (2147483647 : Int32)) / (22 : Int32)) * (22 : Int32)))) (own_mx (own_pick ((p0 &&& (2147483647 : Int32)) - ((p0 &&& (2147483647 : Int32)) / (22 : Int32)) * (22 : Int32)))) zv1)), (.int (own_takes (own_mn (own_pick ((p0 &&& (2147483647 : Int32)) - ((p0 &&& (2147483647 : Int32)) / (22 : Int32)) * (22 : Int32)))) (own_mx (own_pick ((p0 &&& (2147483647 : Int32)) - ((p0 &&& (2147483647 : Int32)) / (22 : Int32)) * (22 : Int32)))) zv1))])) (fun t k => st_3 t k) ?_
  refine own_go (B := T_3.setTop (mkF m 42 #[.val (.int p0), .val (.int p1), .val (.int p2), .val (.ref (ad (own_pick ((p0 &&& (2147483647 : Int32)) - ((p0 &&& (2147483647 : Int32)) / (22 : Int32)) * (22 : Int32))))), .val (.int zv1)] [])) (fun t k => ?_) ?_
  · show Steps p.tables e below (T_3.setTop (mkF m 39 #[.val (.int p0), .val (.int p1), .val (.int p2), .val (.ref (ad (own_pick ((p0 &&& (2147483647 : Int32)) - ((p0 &&& (2147483647 : Int32)) / (22 : Int32)) * (22 : Int32))))), .val (.int zv1)] [(.int (own_takes (own_mn (own_pick ((p0 &&& (2147483647 : Int32)) - ((p0 &&& (2147483647 : Int32)) / (22 : Int32)) * (22 : Int32)))) (own_mx (own_pick ((p0 &&& (2147483647 : Int32)) - ((p0 &&& (2147483647 : Int32)) / (22 : Int32)) * (22 : Int32)))) zv1)), (.int (own_takes (own_mn (own_pick ((p0 &&& (2147483647 : Int32)) - ((p0 &&& (2147483647 : Int32)) / (22 : Int32)) * (22 : Int32)))) (own_mx (own_pick ((p0 &&& (2147483647 : Int32)) - ((p0 &&& (2147483647 : Int32)) / (22 : Int32)) * (22 : Int32)))) zv1))])) _
    refine XS.icmpNo X_3.here hx rfl (hb hby at_39) rfl (teq (rfl : (own_takes (own_mn (own_pick ((p0 &&& (2147483647 : Int32)) - ((p0 &&& (2147483647 : Int32)) / (22 : Int32)) * (22 : Int32)))) (own_mx (own_pick ((p0 &&& (2147483647 : Int32)) - ((p0 &&& (2147483647 : Int32)) / (22 : Int32)) * (22 : Int32)))) zv1) = (own_takes (own_mn (own_pick ((p0 &&& (2147483647 : Int32)) - ((p0 &&& (2147483647 : Int32)) / (22 : Int32)) * (22 : Int32)))) (own_mx (own_pick ((p0 &&& (2147483647 : Int32)) - ((p0 &&& (2147483647 : Int32)) / (22 : Int32)) * (22 : Int32)))) zv1))).2 ?_
    exact k
  refine own_go (B := T_3.setTop (mkF m 47 #[.val (.int p0), .val (.int p1), .val (.int p2), .val (.ref (ad (own_pick ((p0 &&& (2147483647 : Int32)) - ((p0 &&& (2147483647 : Int32)) / (22 : Int32)) * (22 : Int32))))), .val (.int zv1)] [(.int (1 : Int32))])) (fun t k => ?_) ?_
  · show Steps p.tables e below (T_3.setTop (mkF m 42 #[.val (.int p0), .val (.int p1), .val (.int p2), .val (.ref (ad (own_pick ((p0 &&& (2147483647 : Int32)) - ((p0 &&& (2147483647 : Int32)) / (22 : Int32)) * (22 : Int32))))), .val (.int zv1)] [])) _
    refine XS.iconst X_3.here hx rfl (hb hby at_42) ?_
    show Steps p.tables e below (T_3.setTop (mkF m 43 #[.val (.int p0), .val (.int p1), .val (.int p2), .val (.ref (ad (own_pick ((p0 &&& (2147483647 : Int32)) - ((p0 &&& (2147483647 : Int32)) / (22 : Int32)) * (22 : Int32))))), .val (.int zv1)] [(.int (1 : Int32))])) _
    refine XS.goto X_3.here hx rfl (pc0 := 43) (pc' := 47) rfl (hb hby at_43) (by decide) (by decide) ?_
    exact k
  obtain ⟨fs, hr, hrun, hended, hW, hsame⟩ := X_3.leave (v := some (.int (1 : Int32))) (fun h => by rw [Bd.returns] at h; cases h)
  refine ⟨_, _, ?_, hrun, hended, _, _, rfl, ?_, ⟨_, rfl⟩, hW, hsame.mono (by decide) (by decide)⟩
  · show Steps p.tables e below (T_3.setTop (mkF m 47 #[.val (.int p0), .val (.int p1), .val (.int p2), .val (.ref (ad (own_pick ((p0 &&& (2147483647 : Int32)) - ((p0 &&& (2147483647 : Int32)) / (22 : Int32)) * (22 : Int32))))), .val (.int zv1)] [(.int (1 : Int32))])) _
    exact retN X_3 hx (t := .boolean) Bd.returns (by simp) (hb hby at_47) hr
  · show Q0 Z p0 p1 p2 ad h0 n0 _ T_3.heap _
    rw [e_3]
    exact ⟨rfl, N_3, trivial⟩
def own_ad (s0 s1 s2 s3 s4 s5 s6 s7 s8 s9 s10 s11 s12 s13 s14 s15 s16 s17 s18 s19 s20 s21 : Addr) : Nat → Addr
  | 0 => s0
  | 1 => s1
  | 2 => s2
  | 3 => s3
  | 4 => s4
  | 5 => s5
  | 6 => s6
  | 7 => s7
  | 8 => s8
  | 9 => s9
  | 10 => s10
  | 11 => s11
  | 12 => s12
  | 13 => s13
  | 14 => s14
  | 15 => s15
  | 16 => s16
  | 17 => s17
  | 18 => s18
  | 19 => s19
  | 20 => s20
  | _ => s21
set_option maxRecDepth 65536 in
set_option maxHeartbeats 40000000 in
theorem comes_1 {Post : Tables → Env → Array Value → State → Outcome → State → Prop} (hpost : ∀ tb e args s v u, (limb_1_1.after args s (.returned v) u = true ∧ limb_1_2.after args s (.returned v) u = true ∧ True) → FrameEnd s (.returned v) u (Jvm.fieldLocs frame_1_writes args s ++ Jvm.arrayLocs frame_1_arrays args s ++ Jvm.staticLocs frame_1_statics s) 0 0 → Post tb e args s (.returned v) u) :
    ArmFor flags0 classFile x code maxLocals ret World_1 tables_1 room_1 Calls_1 rest_1 Pre_1 Post := by
  intro l hfl _ _ p e ha hc hk s m args below hf hA hF happ hP
  obtain ⟨hcalls, hrest, hpre⟩ := hP
  obtain ⟨-, -, -, hnamed, -, -, -, hat⟩ := (Spec.applies_iff hf).mp happ
  obtain ⟨hg, hn⟩ := and_e (Cond.before_iff.mp (show (Jvm.Cond.and given_1 narrow_1).before args s = true from hpre))
  obtain ⟨g1, g2⟩ := and_e hg
  obtain ⟨g3, g4⟩ := and_e g2
  obtain ⟨g5, g6⟩ := and_e g4
  obtain ⟨w0, w1, w2, rfl⟩ : ∃ w0 w1 w2 : Value, args = #[w0, w1, w2] := by
    have hs : args.size = 3 := by simpa [Cond.value, given_1] using g1
    obtain ⟨L⟩ := args
    match L, hs with
    | [w0, w1, w2], _ => exact ⟨w0, w1, w2, rfl⟩
  have hw := fun d (hd : d ∈ tables_1) => atoms_spec (ws := Jvm.Cond.code x code maxLocals ret :: tables_1) hat d (List.mem_cons_of_mem _ hd)
  have hfit : Fit s := fun {y c} hc i hi => by
    obtain ⟨ha, rfl⟩ := Array.getElem?_eq_some_iff.mp hc
    have q := List.all_eq_true.mp ((Array.all_eq_true_iff_forall_mem.mp hF) _ (Array.getElem_mem ha)) i (List.mem_range.mpr hi)
    simpa [Array.getElem?_eq_getElem hi] using q
  obtain ⟨i0, ei0⟩ := is_v g3
  obtain rfl : w0 = (.int i0) := Option.some.inj ei0
  obtain ⟨i1, ei1⟩ := is_v g5
  obtain rfl : w1 = (.int i1) := Option.some.inj ei1
  obtain ⟨i2, ei2⟩ := is_v g6
  obtain rfl : w2 = (.int i2) := Option.some.inj ei2
  obtain ⟨nw0, hn⟩ := and_e hn
  obtain ⟨nw1, hn⟩ := and_e hn
  obtain ⟨nw2, hn⟩ := and_e hn
  obtain ⟨nw3, hn⟩ := and_e hn
  obtain ⟨nw4, hn⟩ := and_e hn
  obtain ⟨nw5, hn⟩ := and_e hn
  obtain ⟨nw6, hn⟩ := and_e hn
  obtain ⟨nw7, hn⟩ := and_e hn
  obtain ⟨nw8, hn⟩ := and_e hn
  obtain ⟨nw9, hn⟩ := and_e hn
  obtain ⟨nw10, hn⟩ := and_e hn
  obtain ⟨nw11, hn⟩ := and_e hn
  obtain ⟨nw12, hn⟩ := and_e hn
  obtain ⟨nw13, hn⟩ := and_e hn
  obtain ⟨nw14, hn⟩ := and_e hn
  obtain ⟨nw15, hn⟩ := and_e hn
  obtain ⟨nw16, hn⟩ := and_e hn
  obtain ⟨nw17, hn⟩ := and_e hn
  obtain ⟨nw18, hn⟩ := and_e hn
  obtain ⟨nw19, hn⟩ := and_e hn
  obtain ⟨nw20, hn⟩ := and_e hn
  obtain ⟨nw21, hn⟩ := and_e hn
  obtain ⟨nw22, hn⟩ := and_e hn
  obtain ⟨nw23, hn⟩ := and_e hn
  obtain ⟨nw24, hn⟩ := and_e hn
  obtain ⟨nw25, hn⟩ := and_e hn
  obtain ⟨nw26, hn⟩ := and_e hn
  obtain ⟨nw27, hn⟩ := and_e hn
  obtain ⟨nw28, hn⟩ := and_e hn
  obtain ⟨nw29, hn⟩ := and_e hn
  obtain ⟨nw30, hn⟩ := and_e hn
  obtain ⟨nw31, hn⟩ := and_e hn
  obtain ⟨nw32, hn⟩ := and_e hn
  obtain ⟨nw33, hn⟩ := and_e hn
  obtain ⟨nw34, hn⟩ := and_e hn
  obtain ⟨nw35, hn⟩ := and_e hn
  obtain ⟨nw36, hn⟩ := and_e hn
  obtain ⟨nw37, hn⟩ := and_e hn
  obtain ⟨nw38, hn⟩ := and_e hn
  obtain ⟨nw39, hn⟩ := and_e hn
  obtain ⟨nw40, hn⟩ := and_e hn
  obtain ⟨nw41, hn⟩ := and_e hn
  obtain ⟨nw42, hn⟩ := and_e hn
  obtain ⟨nw43, hn⟩ := and_e hn
  obtain ⟨nw44, hn⟩ := and_e hn
  obtain ⟨nw45, hn⟩ := and_e hn
  obtain ⟨nw46, hn⟩ := and_e hn
  obtain ⟨nw47, hn⟩ := and_e hn
  obtain ⟨nw48, hn⟩ := and_e hn
  obtain ⟨nw49, hn⟩ := and_e hn
  obtain ⟨nw50, hn⟩ := and_e hn
  obtain ⟨nw51, hn⟩ := and_e hn
  obtain ⟨nw52, hn⟩ := and_e hn
  obtain ⟨nw53, hn⟩ := and_e hn
  obtain ⟨nw54, hn⟩ := and_e hn
  obtain ⟨nw55, hn⟩ := and_e hn
  obtain ⟨nw56, hn⟩ := and_e hn
  obtain ⟨nw57, hn⟩ := and_e hn
  obtain ⟨nw58, hn⟩ := and_e hn
  obtain ⟨nw59, hn⟩ := and_e hn
  obtain ⟨nw60, hn⟩ := and_e hn
  obtain ⟨nw61, hn⟩ := and_e hn
  obtain ⟨nw62, hn⟩ := and_e hn
  obtain ⟨nw63, hn⟩ := and_e hn
  obtain ⟨nw64, hn⟩ := and_e hn
  obtain ⟨nw65, hn⟩ := and_e hn
  obtain ⟨nw66, hn⟩ := and_e hn
  obtain ⟨nw67, hn⟩ := and_e hn
  obtain ⟨nw68, hn⟩ := and_e hn
  obtain ⟨nw69, hn⟩ := and_e hn
  obtain ⟨nw70, hn⟩ := and_e hn
  obtain ⟨nw71, hn⟩ := and_e hn
  obtain ⟨nw72, hn⟩ := and_e hn
  obtain ⟨nw73, hn⟩ := and_e hn
  obtain ⟨nw74, hn⟩ := and_e hn
  obtain ⟨nw75, hn⟩ := and_e hn
  obtain ⟨nw76, hn⟩ := and_e hn
  obtain ⟨nw77, hn⟩ := and_e hn
  obtain ⟨nw78, hn⟩ := and_e hn
  obtain ⟨nw79, hn⟩ := and_e hn
  obtain ⟨nw80, hn⟩ := and_e hn
  obtain ⟨nw81, hn⟩ := and_e hn
  obtain ⟨nw82, hn⟩ := and_e hn
  obtain ⟨nw83, hn⟩ := and_e hn
  obtain ⟨nw84, hn⟩ := and_e hn
  obtain ⟨nw85, hn⟩ := and_e hn
  obtain ⟨nw86, hn⟩ := and_e hn
  have nw87 := hn
  obtain ⟨s0, ev0⟩ := exa_v nw0
  have S0 := Sta.start ev0 (Or.inr ⟨(hw _ (List.mem_of_getElem? (i := 6) rfl)), (hw _ (List.mem_of_getElem? (i := 7) rfl))⟩)
  have E0 := Exa.start ev0 nw0
  obtain ⟨s1, ev1⟩ := exa_v nw3
  have S1 := Sta.start ev1 (Or.inr ⟨(hw _ (List.mem_of_getElem? (i := 6) rfl)), (hw _ (List.mem_of_getElem? (i := 21) rfl))⟩)
  have E1 := Exa.start ev1 nw3
  obtain ⟨s13, ev13⟩ := exa_v nw7
  have S13 := Sta.start ev13 (Or.inr ⟨(hw _ (List.mem_of_getElem? (i := 6) rfl)), (hw _ (List.mem_of_getElem? (i := 23) rfl))⟩)
  have E13 := Exa.start ev13 nw7
  obtain ⟨s19, ev19⟩ := exa_v nw9
  have S19 := Sta.start ev19 (Or.inr ⟨(hw _ (List.mem_of_getElem? (i := 6) rfl)), (hw _ (List.mem_of_getElem? (i := 25) rfl))⟩)
  have E19 := Exa.start ev19 nw9
  obtain ⟨s20, ev20⟩ := exa_v nw11
  have S20 := Sta.start ev20 (Or.inr ⟨(hw _ (List.mem_of_getElem? (i := 6) rfl)), (hw _ (List.mem_of_getElem? (i := 27) rfl))⟩)
  have E20 := Exa.start ev20 nw11
  obtain ⟨s21, ev21⟩ := exa_v nw13
  have S21 := Sta.start ev21 (Or.inr ⟨(hw _ (List.mem_of_getElem? (i := 6) rfl)), (hw _ (List.mem_of_getElem? (i := 29) rfl))⟩)
  have E21 := Exa.start ev21 nw13
  obtain ⟨s5, ev5⟩ := exa_v nw15
  have S5 := Sta.start ev5 (Or.inr ⟨(hw _ (List.mem_of_getElem? (i := 6) rfl)), (hw _ (List.mem_of_getElem? (i := 31) rfl))⟩)
  have E5 := Exa.start ev5 nw15
  obtain ⟨s12, ev12⟩ := exa_v nw17
  have S12 := Sta.start ev12 (Or.inr ⟨(hw _ (List.mem_of_getElem? (i := 6) rfl)), (hw _ (List.mem_of_getElem? (i := 33) rfl))⟩)
  have E12 := Exa.start ev12 nw17
  obtain ⟨s9, ev9⟩ := exa_v nw19
  have S9 := Sta.start ev9 (Or.inr ⟨(hw _ (List.mem_of_getElem? (i := 6) rfl)), (hw _ (List.mem_of_getElem? (i := 35) rfl))⟩)
  have E9 := Exa.start ev9 nw19
  obtain ⟨s10, ev10⟩ := exa_v nw21
  have S10 := Sta.start ev10 (Or.inr ⟨(hw _ (List.mem_of_getElem? (i := 6) rfl)), (hw _ (List.mem_of_getElem? (i := 37) rfl))⟩)
  have E10 := Exa.start ev10 nw21
  obtain ⟨s8, ev8⟩ := exa_v nw26
  have S8 := Sta.start ev8 (Or.inr ⟨(hw _ (List.mem_of_getElem? (i := 6) rfl)), (hw _ (List.mem_of_getElem? (i := 39) rfl))⟩)
  have E8 := Exa.start ev8 nw26
  obtain ⟨s3, ev3⟩ := exa_v nw31
  have S3 := Sta.start ev3 (Or.inr ⟨(hw _ (List.mem_of_getElem? (i := 6) rfl)), (hw _ (List.mem_of_getElem? (i := 41) rfl))⟩)
  have E3 := Exa.start ev3 nw31
  obtain ⟨s16, ev16⟩ := exa_v nw34
  have S16 := Sta.start ev16 (Or.inr ⟨(hw _ (List.mem_of_getElem? (i := 6) rfl)), (hw _ (List.mem_of_getElem? (i := 43) rfl))⟩)
  have E16 := Exa.start ev16 nw34
  obtain ⟨s17, ev17⟩ := exa_v nw39
  have S17 := Sta.start ev17 (Or.inr ⟨(hw _ (List.mem_of_getElem? (i := 6) rfl)), (hw _ (List.mem_of_getElem? (i := 45) rfl))⟩)
  have E17 := Exa.start ev17 nw39
  obtain ⟨s2, ev2⟩ := exa_v nw44
  have S2 := Sta.start ev2 (Or.inr ⟨(hw _ (List.mem_of_getElem? (i := 6) rfl)), (hw _ (List.mem_of_getElem? (i := 47) rfl))⟩)
  have E2 := Exa.start ev2 nw44
  obtain ⟨s11, ev11⟩ := exa_v nw48
  have S11 := Sta.start ev11 (Or.inr ⟨(hw _ (List.mem_of_getElem? (i := 6) rfl)), (hw _ (List.mem_of_getElem? (i := 49) rfl))⟩)
  have E11 := Exa.start ev11 nw48
  obtain ⟨s18, ev18⟩ := exa_v nw51
  have S18 := Sta.start ev18 (Or.inr ⟨(hw _ (List.mem_of_getElem? (i := 6) rfl)), (hw _ (List.mem_of_getElem? (i := 51) rfl))⟩)
  have E18 := Exa.start ev18 nw51
  obtain ⟨s7, ev7⟩ := exa_v nw55
  have S7 := Sta.start ev7 (Or.inr ⟨(hw _ (List.mem_of_getElem? (i := 6) rfl)), (hw _ (List.mem_of_getElem? (i := 53) rfl))⟩)
  have E7 := Exa.start ev7 nw55
  obtain ⟨s14, ev14⟩ := exa_v nw58
  have S14 := Sta.start ev14 (Or.inr ⟨(hw _ (List.mem_of_getElem? (i := 6) rfl)), (hw _ (List.mem_of_getElem? (i := 55) rfl))⟩)
  have E14 := Exa.start ev14 nw58
  obtain ⟨s15, ev15⟩ := exa_v nw66
  have S15 := Sta.start ev15 (Or.inr ⟨(hw _ (List.mem_of_getElem? (i := 6) rfl)), (hw _ (List.mem_of_getElem? (i := 57) rfl))⟩)
  have E15 := Exa.start ev15 nw66
  obtain ⟨s6, ev6⟩ := exa_v nw70
  have S6 := Sta.start ev6 (Or.inr ⟨(hw _ (List.mem_of_getElem? (i := 6) rfl)), (hw _ (List.mem_of_getElem? (i := 59) rfl))⟩)
  have E6 := Exa.start ev6 nw70
  obtain ⟨s4, ev4⟩ := exa_v nw82
  have S4 := Sta.start ev4 (Or.inr ⟨(hw _ (List.mem_of_getElem? (i := 6) rfl)), (hw _ (List.mem_of_getElem? (i := 61) rfl))⟩)
  have E4 := Exa.start ev4 nw82
  have F0 := Fld.start ((fld_at ev0).symm.trans (own_eqv nw1 (Term.int_eval (1))))
  have G0 := Fld.start ((fld_at ev0).symm.trans (own_eqv nw2 (Term.int_eval (1))))
  have F1 := Fld.start ((fld_at ev1).symm.trans (own_eqv nw4 (Term.int_eval (2))))
  have O1 := Fld.start ((fld_at ev1).symm.trans (own_eqv nw5 (Term.int_eval (1))))
  have O0 := Fld.start ((fld_at ev0).symm.trans (own_eqv nw6 (Term.int_eval (0))))
  have O13 := Fld.start ((fld_at ev13).symm.trans (own_eqv nw8 (Term.int_eval (13))))
  have O19 := Fld.start ((fld_at ev19).symm.trans (own_eqv nw10 (Term.int_eval (19))))
  have O20 := Fld.start ((fld_at ev20).symm.trans (own_eqv nw12 (Term.int_eval (20))))
  have O21 := Fld.start ((fld_at ev21).symm.trans (own_eqv nw14 (Term.int_eval (21))))
  have O5 := Fld.start ((fld_at ev5).symm.trans (own_eqv nw16 (Term.int_eval (5))))
  have O12 := Fld.start ((fld_at ev12).symm.trans (own_eqv nw18 (Term.int_eval (12))))
  have O9 := Fld.start ((fld_at ev9).symm.trans (own_eqv nw20 (Term.int_eval (9))))
  have F10 := Fld.start ((fld_at ev10).symm.trans (own_eqv nw22 (Term.int_eval (2))))
  have G10 := Fld.start ((fld_at ev10).symm.trans (own_eqv nw23 (Term.int_eval (2147483647))))
  have O10 := Fld.start ((fld_at ev10).symm.trans (own_eqv nw24 (Term.int_eval (10))))
  have F19 := Fld.start ((fld_at ev19).symm.trans (own_eqv nw25 (Term.int_eval (1))))
  have F8 := Fld.start ((fld_at ev8).symm.trans (own_eqv nw27 (Term.int_eval (2))))
  have O8 := Fld.start ((fld_at ev8).symm.trans (own_eqv nw28 (Term.int_eval (8))))
  have F5 := Fld.start ((fld_at ev5).symm.trans (own_eqv nw29 (Term.int_eval (3))))
  have G5 := Fld.start ((fld_at ev5).symm.trans (own_eqv nw30 (Term.int_eval (3))))
  have F3 := Fld.start ((fld_at ev3).symm.trans (own_eqv nw32 (Term.int_eval (2))))
  have O3 := Fld.start ((fld_at ev3).symm.trans (own_eqv nw33 (Term.int_eval (3))))
  have F16 := Fld.start ((fld_at ev16).symm.trans (own_eqv nw35 (Term.int_eval (2))))
  have G16 := Fld.start ((fld_at ev16).symm.trans (own_eqv nw36 (Term.int_eval (2147483647))))
  have O16 := Fld.start ((fld_at ev16).symm.trans (own_eqv nw37 (Term.int_eval (16))))
  have F13 := Fld.start ((fld_at ev13).symm.trans (own_eqv nw38 (Term.int_eval (1))))
  have F17 := Fld.start ((fld_at ev17).symm.trans (own_eqv nw40 (Term.int_eval (2))))
  have G17 := Fld.start ((fld_at ev17).symm.trans (own_eqv nw41 (Term.int_eval (2147483647))))
  have O17 := Fld.start ((fld_at ev17).symm.trans (own_eqv nw42 (Term.int_eval (17))))
  have G1 := Fld.start ((fld_at ev1).symm.trans (own_eqv nw43 (Term.int_eval (2147483647))))
  have F2 := Fld.start ((fld_at ev2).symm.trans (own_eqv nw45 (Term.int_eval (2))))
  have G2 := Fld.start ((fld_at ev2).symm.trans (own_eqv nw46 (Term.int_eval (2147483647))))
  have O2 := Fld.start ((fld_at ev2).symm.trans (own_eqv nw47 (Term.int_eval (2))))
  have F11 := Fld.start ((fld_at ev11).symm.trans (own_eqv nw49 (Term.int_eval (2))))
  have O11 := Fld.start ((fld_at ev11).symm.trans (own_eqv nw50 (Term.int_eval (11))))
  have F18 := Fld.start ((fld_at ev18).symm.trans (own_eqv nw52 (Term.int_eval (2))))
  have O18 := Fld.start ((fld_at ev18).symm.trans (own_eqv nw53 (Term.int_eval (18))))
  have F9 := Fld.start ((fld_at ev9).symm.trans (own_eqv nw54 (Term.int_eval (1))))
  have F7 := Fld.start ((fld_at ev7).symm.trans (own_eqv nw56 (Term.int_eval (2))))
  have O7 := Fld.start ((fld_at ev7).symm.trans (own_eqv nw57 (Term.int_eval (7))))
  have F14 := Fld.start ((fld_at ev14).symm.trans (own_eqv nw59 (Term.int_eval (2))))
  have G14 := Fld.start ((fld_at ev14).symm.trans (own_eqv nw60 (Term.int_eval (2147483647))))
  have O14 := Fld.start ((fld_at ev14).symm.trans (own_eqv nw61 (Term.int_eval (14))))
  have G8 := Fld.start ((fld_at ev8).symm.trans (own_eqv nw62 (Term.int_eval (2147483647))))
  have G3 := Fld.start ((fld_at ev3).symm.trans (own_eqv nw63 (Term.int_eval (2147483647))))
  have G9 := Fld.start ((fld_at ev9).symm.trans (own_eqv nw64 (Term.int_eval (2147483647))))
  have G13 := Fld.start ((fld_at ev13).symm.trans (own_eqv nw65 (Term.int_eval (1))))
  have F15 := Fld.start ((fld_at ev15).symm.trans (own_eqv nw67 (Term.int_eval (2))))
  have G15 := Fld.start ((fld_at ev15).symm.trans (own_eqv nw68 (Term.int_eval (2147483647))))
  have O15 := Fld.start ((fld_at ev15).symm.trans (own_eqv nw69 (Term.int_eval (15))))
  have F6 := Fld.start ((fld_at ev6).symm.trans (own_eqv nw71 (Term.int_eval (2))))
  have G6 := Fld.start ((fld_at ev6).symm.trans (own_eqv nw72 (Term.int_eval (2147483647))))
  have O6 := Fld.start ((fld_at ev6).symm.trans (own_eqv nw73 (Term.int_eval (6))))
  have F12 := Fld.start ((fld_at ev12).symm.trans (own_eqv nw74 (Term.int_eval (2))))
  have G12 := Fld.start ((fld_at ev12).symm.trans (own_eqv nw75 (Term.int_eval (2))))
  have G7 := Fld.start ((fld_at ev7).symm.trans (own_eqv nw76 (Term.int_eval (2147483647))))
  have F21 := Fld.start ((fld_at ev21).symm.trans (own_eqv nw77 (Term.int_eval (1))))
  have G21 := Fld.start ((fld_at ev21).symm.trans (own_eqv nw78 (Term.int_eval (1))))
  have F20 := Fld.start ((fld_at ev20).symm.trans (own_eqv nw79 (Term.int_eval (1))))
  have G20 := Fld.start ((fld_at ev20).symm.trans (own_eqv nw80 (Term.int_eval (1))))
  have G11 := Fld.start ((fld_at ev11).symm.trans (own_eqv nw81 (Term.int_eval (2147483647))))
  have F4 := Fld.start ((fld_at ev4).symm.trans (own_eqv nw83 (Term.int_eval (2))))
  have O4 := Fld.start ((fld_at ev4).symm.trans (own_eqv nw84 (Term.int_eval (4))))
  have G19 := Fld.start ((fld_at ev19).symm.trans (own_eqv nw85 (Term.int_eval (1))))
  have G4 := Fld.start ((fld_at ev4).symm.trans (own_eqv nw86 (Term.int_eval (2147483647))))
  have G18 := Fld.start ((fld_at ev18).symm.trans (own_eqv nw87 (Term.int_eval (2147483647))))
  have hE : ∀ j, j < 22 → Exa s s.heap ((own_ad s0 s1 s2 s3 s4 s5 s6 s7 s8 s9 s10 s11 s12 s13 s14 s15 s16 s17 s18 s19 s20 s21) j) "com/example/symvane/symvane/term/Operator" := by
    intro j hj
    have hj' : j = 0 ∨ j = 1 ∨ j = 2 ∨ j = 3 ∨ j = 4 ∨ j = 5 ∨ j = 6 ∨ j = 7 ∨ j = 8 ∨ j = 9 ∨ j = 10 ∨ j = 11 ∨ j = 12 ∨ j = 13 ∨ j = 14 ∨ j = 15 ∨ j = 16 ∨ j = 17 ∨ j = 18 ∨ j = 19 ∨ j = 20 ∨ j = 21 := by omega
    rcases hj' with rfl | rfl | rfl | rfl | rfl | rfl | rfl | rfl | rfl | rfl | rfl | rfl | rfl | rfl | rfl | rfl | rfl | rfl | rfl | rfl | rfl | rfl
    · exact E0
    · exact E1
    · exact E2
    · exact E3
    · exact E4
    · exact E5
    · exact E6
    · exact E7
    · exact E8
    · exact E9
    · exact E10
    · exact E11
    · exact E12
    · exact E13
    · exact E14
    · exact E15
    · exact E16
    · exact E17
    · exact E18
    · exact E19
    · exact E20
    · exact E21
  have hF : ∀ j, j < 22 → Fld s s.heap ((own_ad s0 s1 s2 s3 s4 s5 s6 s7 s8 s9 s10 s11 s12 s13 s14 s15 s16 s17 s18 s19 s20 s21) j) "com/example/symvane/symvane/term/Operator" "minArgs" "I" (.int (own_mn j)) ∧ Fld s s.heap ((own_ad s0 s1 s2 s3 s4 s5 s6 s7 s8 s9 s10 s11 s12 s13 s14 s15 s16 s17 s18 s19 s20 s21) j) "com/example/symvane/symvane/term/Operator" "maxArgs" "I" (.int (own_mx j)) := by
    intro j hj
    have hj' : j = 0 ∨ j = 1 ∨ j = 2 ∨ j = 3 ∨ j = 4 ∨ j = 5 ∨ j = 6 ∨ j = 7 ∨ j = 8 ∨ j = 9 ∨ j = 10 ∨ j = 11 ∨ j = 12 ∨ j = 13 ∨ j = 14 ∨ j = 15 ∨ j = 16 ∨ j = 17 ∨ j = 18 ∨ j = 19 ∨ j = 20 ∨ j = 21 := by omega
    rcases hj' with rfl | rfl | rfl | rfl | rfl | rfl | rfl | rfl | rfl | rfl | rfl | rfl | rfl | rfl | rfl | rfl | rfl | rfl | rfl | rfl | rfl | rfl
    · exact ⟨F0, G0⟩
    · exact ⟨F1, G1⟩
    · exact ⟨F2, G2⟩
    · exact ⟨F3, G3⟩
    · exact ⟨F4, G4⟩
    · exact ⟨F5, G5⟩
    · exact ⟨F6, G6⟩
    · exact ⟨F7, G7⟩
    · exact ⟨F8, G8⟩
    · exact ⟨F9, G9⟩
    · exact ⟨F10, G10⟩
    · exact ⟨F11, G11⟩
    · exact ⟨F12, G12⟩
    · exact ⟨F13, G13⟩
    · exact ⟨F14, G14⟩
    · exact ⟨F15, G15⟩
    · exact ⟨F16, G16⟩
    · exact ⟨F17, G17⟩
    · exact ⟨F18, G18⟩
    · exact ⟨F19, G19⟩
    · exact ⟨F20, G20⟩
    · exact ⟨F21, G21⟩
  have hO : ∀ j, j < 22 → Fld s s.heap ((own_ad s0 s1 s2 s3 s4 s5 s6 s7 s8 s9 s10 s11 s12 s13 s14 s15 s16 s17 s18 s19 s20 s21) j) "java/lang/Enum" "ordinal" "I" (.int (Int32.ofNat j)) := by
    intro j hj
    have hj' : j = 0 ∨ j = 1 ∨ j = 2 ∨ j = 3 ∨ j = 4 ∨ j = 5 ∨ j = 6 ∨ j = 7 ∨ j = 8 ∨ j = 9 ∨ j = 10 ∨ j = 11 ∨ j = 12 ∨ j = 13 ∨ j = 14 ∨ j = 15 ∨ j = 16 ∨ j = 17 ∨ j = 18 ∨ j = 19 ∨ j = 20 ∨ j = 21 := by omega
    rcases hj' with rfl | rfl | rfl | rfl | rfl | rfl | rfl | rfl | rfl | rfl | rfl | rfl | rfl | rfl | rfl | rfl | rfl | rfl | rfl | rfl | rfl | rfl
    · exact O0
    · exact O1
    · exact O2
    · exact O3
    · exact O4
    · exact O5
    · exact O6
    · exact O7
    · exact O8
    · exact O9
    · exact O10
    · exact O11
    · exact O12
    · exact O13
    · exact O14
    · exact O15
    · exact O16
    · exact O17
    · exact O18
    · exact O19
    · exact O20
    · exact O21
  have hI : ∀ i j, i < 22 → j < 22 → (own_ad s0 s1 s2 s3 s4 s5 s6 s7 s8 s9 s10 s11 s12 s13 s14 s15 s16 s17 s18 s19 s20 s21) i = (own_ad s0 s1 s2 s3 s4 s5 s6 s7 s8 s9 s10 s11 s12 s13 s14 s15 s16 s17 s18 s19 s20 s21) j → i = j := by
    intro i j hi hj hij
    have q1 := (hO i hi).fin (Vm.Alike.refl _)
    have q2 := (hO j hj).fin (Vm.Alike.refl _)
    rw [hij] at q1
    have q3 : Int32.ofNat i = Int32.ofNat j := Value.int.inj (Option.some.inj (q1.symm.trans q2))
    have q4 := congrArg Int32.toInt q3
    have t1 : (Int32.ofNat i).toInt = i := Int32.toInt_ofNat_small (by omega)
    have t2 : (Int32.ofNat j).toInt = j := Int32.toInt_ofNat_small (by omega)
    omega
  obtain ⟨n, o, h1, h2, h3, _, L, rfl, ⟨rfl, N, -⟩, hq⟩ := rm0 l s _ hw tables_1 i0 i1 i2 (own_ad s0 s1 s2 s3 s4 s5 s6 s7 s8 s9 s10 s11 s12 s13 s14 s15 s16 s17 s18 s19 s20 s21) s.heap s.heap.size (Nat.le_refl _) ⟨S0, S1, S2, S3, S4, S5, S6, S7, S8, S9, S10, S11, S12, S13, S14, S15, S16, S17, S18, S19, S20, S21⟩ hI hE hF p e ha hc hk s m _ below hf ((Spec.applies_iff_loose hf).mp happ).1 ⟨rfl, State.Warmed39.refl s, rfl⟩ trivial
  refine ⟨n, _, h1, h2, h3, hpost _ _ _ _ _ _ ⟨Cond.after_iff.mpr rfl, Cond.after_iff.mpr (eq_i res_at (Term.int_eval (1)) rfl), trivial⟩ ⟨hq.1, hq.2.1, (hq.2.2.sift fun y hy => Or.inr (N y hy)).mono (by decide) (by decide)⟩⟩
theorem main_1_1 : Claimed_1_1 := comes_1 fun _ _ _ _ _ _ h hF => ⟨h.1, hF⟩
theorem main_1_2 : Claimed_1_2 := comes_1 fun _ _ _ _ _ _ h hF => ⟨h.2.1, hF⟩
end Jvm.Pilot.@@N@@
namespace Jvm.Pilot.@@N@@
open Jvm Jvm.ClassFile Sem Op Lib Jvm.Free Jvm.Stand Jvm.Pilot.@@N@@.Jvm.D
/-! MADE BY PROGRAM (witnessworld.py) out of the Statement's table words and the real class files: 13 classes; the members and pool entries that the words name. The judged class is class 1, her method 3. -/
namespace start1
open Jvm.ClassFile
def u (s : String) : CpInfo := .utf8 (stringToUtf16 s)
/-- a pool by its gaps: so many unusable entries, then the entry; so many at the end -/
def gap : Nat → List CpInfo → List CpInfo
  | 0, r => r
  | n + 1, r => .unusable :: gap n r
def poolList (es : List (Nat × CpInfo)) (last : Nat) : List CpInfo := es.foldr (fun e r => gap e.1 (e.2 :: r)) (gap last [])
def pool (es : List (Nat × CpInfo)) (last : Nat) : Array CpInfo := ⟨poolList es last⟩
def fileOf (pool : Array CpInfo) (this : Nat) (attrs : Array Attribute := #[]) (ms : Array MethodInfo := #[]) (fl : Nat := 33) (sup : Nat := 0) (ifs : Array Nat := #[]) (fds : Array FieldInfo := #[]) : ClassFile where
  minorVersion := 0
  majorVersion := 65
  constantPool := pool
  accessFlags := fl
  thisClass := this
  superClass := sup
  interfaces := ifs
  fields := fds
  methods := ms
  attributes := attrs
def plain (name : String) (sup : Option ClassId) : Class where
  name := name
  kind := .ordinary
  loader := none
  accessFlags := 33
  super := sup
  interfaces := #[]
  cf := none
  fields := #[]
  methods := #[]
  instanceTypes := #[]
  staticTypes := #[]
  resolved := #[]
  callSites := []
  init := .initialized
  statics := none
  mirror := none

def pool0 : Array CpInfo := pool [(5, u "<init>"), (0, u "()V"), (1, .class_ 10), (1, u "java/lang/Object")] 113

def k0m0 : Method := { name := "<init>", desc := "()V", sig := { parameters := [], returnType := none }, accessFlags := 1, code := none }
/-- java/lang/Object -/
def k0 : Class := { plain "java/lang/Object" none with
  accessFlags := 33
  interfaces := #[]
  cf := some (fileOf pool0 8 #[] #[{ accessFlags := 1, nameIndex := 5, descriptorIndex := 6, attributes := #[] }] 33 0 #[] #[])
  fields := #[]
  methods := #[k0m0]
  instanceTypes := #[]
  staticTypes := #[]
  resolved := Array.replicate 124 none
  statics := none }

def pool1 : Array CpInfo := pool [(2, .class_ 4), (1, u "java/lang/Object"), (0, u "<init>"), (0, u "()V"), (0, .fieldref 8 9), (0, .class_ 10), (0, .nameAndType 11 12), (0, u "com/example/symvane/symvane/term/Operator"), (0, u "NOT"), (0, u "Lcom/example/symvane/symvane/term/Operator;"), (0, .fieldref 8 14), (0, .nameAndType 15 12), (0, u "AND"), (0, .fieldref 8 17), (0, .nameAndType 18 12), (0, u "OR"), (0, .fieldref 8 20), (0, .nameAndType 21 12), (0, u "XOR"), (0, .fieldref 8 23), (0, .nameAndType 24 12), (0, u "IMPLIES"), (0, .fieldref 8 26), (0, .nameAndType 27 12), (0, u "ITE"), (0, .fieldref 8 29), (0, .nameAndType 30 12), (0, u "EQ"), (0, .fieldref 8 32), (0, .nameAndType 33 12), (0, u "DISTINCT"), (0, .fieldref 8 35), (0, .nameAndType 36 12), (0, u "PLUS"), (0, .fieldref 8 38), (0, .nameAndType 39 12), (0, u "MINUS"), (0, .fieldref 8 41), (0, .nameAndType 42 12), (0, u "TIMES"), (0, .fieldref 8 44), (0, .nameAndType 45 12), (0, u "DIV"), (0, .fieldref 8 47), (0, .nameAndType 48 12), (0, u "MOD"), (0, .fieldref 8 50), (0, .nameAndType 51 12), (0, u "ABS"), (0, .fieldref 8 53), (0, .nameAndType 54 12), (0, u "DIVIDE"), (0, .fieldref 8 56), (0, .nameAndType 57 12), (0, u "LT"), (0, .fieldref 8 59), (0, .nameAndType 60 12), (0, u "LE"), (0, .fieldref 8 62), (0, .nameAndType 63 12), (0, u "GT"), (0, .fieldref 8 65), (0, .nameAndType 66 12), (0, u "GE"), (0, .fieldref 8 68), (0, .nameAndType 69 12), (0, u "TO_REAL"), (0, .fieldref 8 71), (0, .nameAndType 72 12), (0, u "TO_INT"), (0, .fieldref 8 74), (0, .nameAndType 75 12), (0, u "IS_INT"), (0, .integer 2147483647), (0, .methodref 78 79), (0, .class_ 80), (0, .nameAndType 81 82), (0, u "com/example/symvane/symvane/term/OperatorTakesPinLaw"), (0, u "pick"), (0, u "(I)Lcom/example/symvane/symvane/term/Operator;"), (0, .methodref 8 84), (0, .nameAndType 85 86), (0, u "takes"), (0, u "(I)Z"), (0, .methodref 78 88), (0, .nameAndType 89 90), (0, u "expected"), (0, u "(Lcom/example/symvane/symvane/term/Operator;I)Z"), (3, u "law"), (0, u "(III)Z")] 2

def k1m0 : Method := { name := "<init>", desc := "()V", sig := { parameters := [], returnType := none }, accessFlags := 2, code := none }
def k1c1 : Code := { maxStack := 2, maxLocals := 1, code := method_2_code, exceptionTable := #[], attributes := #[] }
def k1m1 : Method := { name := "pick", desc := "(I)Lcom/example/symvane/symvane/term/Operator;", sig := { parameters := [.int], returnType := some (.object "com/example/symvane/symvane/term/Operator") }, accessFlags := 10, code := some k1c1 }
def k1c2 : Code := { maxStack := 2, maxLocals := 2, code := method_3_code, exceptionTable := #[], attributes := #[] }
def k1m2 : Method := { name := "expected", desc := "(Lcom/example/symvane/symvane/term/Operator;I)Z", sig := { parameters := [(.object "com/example/symvane/symvane/term/Operator"), .int], returnType := some .boolean }, accessFlags := 10, code := some k1c2 }
def k1c3 : Code := { maxStack := 3, maxLocals := 5, code := code, exceptionTable := #[], attributes := #[] }
def k1m3 : Method := { name := "law", desc := "(III)Z", sig := { parameters := [.int, .int, .int], returnType := some .boolean }, accessFlags := 9, code := some k1c3 }
/-- com/example/symvane/symvane/term/OperatorTakesPinLaw -/
def k1 : Class := { plain "com/example/symvane/symvane/term/OperatorTakesPinLaw" (some 0) with
  accessFlags := 49
  interfaces := #[]
  cf := some (fileOf pool1 78 #[] #[{ accessFlags := 2, nameIndex := 5, descriptorIndex := 6, attributes := #[] }, { accessFlags := 10, nameIndex := 81, descriptorIndex := 82, attributes := #[] }, { accessFlags := 10, nameIndex := 89, descriptorIndex := 90, attributes := #[] }, { accessFlags := 9, nameIndex := 94, descriptorIndex := 95, attributes := #[] }] 49 2 #[] #[])
  fields := #[]
  methods := #[k1m0, k1m1, k1m2, k1m3]
  instanceTypes := #[]
  staticTypes := #[]
  resolved := Array.replicate 98 none
  statics := none }

def pool2 : Array CpInfo := pool [(1, .class_ 2), (0, u "java/lang/constant/Constable"), (0, .class_ 4), (0, u "java/lang/Object")] 6

/-- java/lang/constant/Constable -/
def k2 : Class := { plain "java/lang/constant/Constable" (some 0) with
  accessFlags := 1537
  interfaces := #[]
  cf := some (fileOf pool2 1 #[] #[] 1537 3 #[] #[])
  fields := #[]
  methods := #[]
  instanceTypes := #[]
  staticTypes := #[]
  resolved := Array.replicate 11 none
  statics := none }

def pool3 : Array CpInfo := pool [(1, .class_ 2), (0, u "java/lang/Comparable"), (0, .class_ 4), (0, u "java/lang/Object")] 7

/-- java/lang/Comparable -/
def k3 : Class := { plain "java/lang/Comparable" (some 0) with
  accessFlags := 1537
  interfaces := #[]
  cf := some (fileOf pool3 1 #[] #[] 1537 3 #[] #[])
  fields := #[]
  methods := #[]
  instanceTypes := #[]
  staticTypes := #[]
  resolved := Array.replicate 12 none
  statics := none }

def pool4 : Array CpInfo := pool [(1, .class_ 2), (0, u "java/io/Serializable"), (0, .class_ 4), (0, u "java/lang/Object")] 2

/-- java/io/Serializable -/
def k4 : Class := { plain "java/io/Serializable" (some 0) with
  accessFlags := 1537
  interfaces := #[]
  cf := some (fileOf pool4 1 #[] #[] 1537 3 #[] #[])
  fields := #[]
  methods := #[]
  instanceTypes := #[]
  staticTypes := #[]
  resolved := Array.replicate 7 none
  statics := none }

def pool5 : Array CpInfo := pool [(2, .class_ 4), (1, u "java/lang/Enum"), (0, u "name"), (0, u "Ljava/lang/String;"), (2, u "ordinal"), (0, u "I"), (1, .class_ 14), (1, u "java/lang/Object"), (4, u "hash"), (86, .class_ 108), (1, u "java/lang/Enum$EnumDesc"), (2, .class_ 112), (0, u "java/lang/constant/Constable"), (0, .class_ 114), (0, u "java/lang/Comparable"), (0, .class_ 116), (0, u "java/io/Serializable")] 87

/-- java/lang/Enum -/
def k5 : Class := { plain "java/lang/Enum" (some 0) with
  accessFlags := 1057
  interfaces := #[2, 3, 4]
  cf := some (fileOf pool5 2 #[.nestMembers #[106]] #[] 1057 12 #[111, 113, 115] #[{ accessFlags := 18, nameIndex := 5, descriptorIndex := 6, attributes := #[] }, { accessFlags := 18, nameIndex := 9, descriptorIndex := 10, attributes := #[] }, { accessFlags := 2, nameIndex := 19, descriptorIndex := 10, attributes := #[] }])
  fields := #[{ name := "name", type := (.object "java/lang/String"), accessFlags := 18, slot := 0, constantValue := 0 }, { name := "ordinal", type := .int, accessFlags := 18, slot := 1, constantValue := 0 }, { name := "hash", type := .int, accessFlags := 2, slot := 2, constantValue := 0 }]
  methods := #[]
  instanceTypes := #[(.object "java/lang/String"), .int, .int]
  staticTypes := #[]
  resolved := Array.replicate 204 none
  statics := none }

def pool6 : Array CpInfo := pool [(7, .class_ 8), (0, u "com/example/symvane/symvane/term/Function"), (0, .class_ 10), (0, u "java/lang/Object"), (11, .class_ 23), (0, u "com/example/symvane/symvane/term/Function$Declared")] 19

/-- com/example/symvane/symvane/term/Function -/
def k6 : Class := { plain "com/example/symvane/symvane/term/Function" (some 0) with
  accessFlags := 1537
  interfaces := #[]
  cf := some (fileOf pool6 7 #[.nestMembers #[22]] #[] 1537 9 #[] #[])
  fields := #[]
  methods := #[]
  instanceTypes := #[]
  staticTypes := #[]
  resolved := Array.replicate 43 none
  statics := none }

def pool7 : Array CpInfo := pool [(1, .class_ 2), (0, u "com/example/symvane/symvane/term/Operator"), (2, u "NOT"), (0, u "Lcom/example/symvane/symvane/term/Operator;"), (2, u "AND"), (2, u "OR"), (2, u "XOR"), (2, u "IMPLIES"), (2, u "ITE"), (2, u "EQ"), (2, u "DISTINCT"), (2, u "PLUS"), (2, u "MINUS"), (2, u "TIMES"), (2, u "DIV"), (2, u "MOD"), (2, u "ABS"), (2, u "DIVIDE"), (2, u "LT"), (2, u "LE"), (2, u "GT"), (2, u "GE"), (2, u "TO_REAL"), (2, u "TO_INT"), (2, u "IS_INT"), (2, u "$VALUES"), (0, u "[Lcom/example/symvane/symvane/term/Operator;"), (6, .class_ 82), (1, u "java/lang/Enum"), (8, u "smtName"), (0, u "Ljava/lang/String;"), (0, .fieldref 1 94), (0, .nameAndType 95 96), (0, u "minArgs"), (0, u "I"), (0, .fieldref 1 98), (0, .nameAndType 99 96), (0, u "maxArgs"), (15, .class_ 117), (1, u "com/example/symvane/symvane/term/Function"), (98, u "takes"), (0, u "(I)Z")] 23

def k7c0 : Code := { maxStack := 2, maxLocals := 2, code := prog_71_method_8_code, exceptionTable := #[], attributes := #[] }
def k7m0 : Method := { name := "takes", desc := "(I)Z", sig := { parameters := [.int], returnType := some .boolean }, accessFlags := 1, code := some k7c0 }
/-- com/example/symvane/symvane/term/Operator -/
def k7 : Class := { plain "com/example/symvane/symvane/term/Operator" (some 5) with
  accessFlags := 16433
  interfaces := #[6]
  cf := some (fileOf pool7 1 #[] #[{ accessFlags := 1, nameIndex := 216, descriptorIndex := 217, attributes := #[] }] 16433 80 #[115] #[{ accessFlags := 16409, nameIndex := 5, descriptorIndex := 6, attributes := #[] }, { accessFlags := 16409, nameIndex := 9, descriptorIndex := 6, attributes := #[] }, { accessFlags := 16409, nameIndex := 12, descriptorIndex := 6, attributes := #[] }, { accessFlags := 16409, nameIndex := 15, descriptorIndex := 6, attributes := #[] }, { accessFlags := 16409, nameIndex := 18, descriptorIndex := 6, attributes := #[] }, { accessFlags := 16409, nameIndex := 21, descriptorIndex := 6, attributes := #[] }, { accessFlags := 16409, nameIndex := 24, descriptorIndex := 6, attributes := #[] }, { accessFlags := 16409, nameIndex := 27, descriptorIndex := 6, attributes := #[] }, { accessFlags := 16409, nameIndex := 30, descriptorIndex := 6, attributes := #[] }, { accessFlags := 16409, nameIndex := 33, descriptorIndex := 6, attributes := #[] }, { accessFlags := 16409, nameIndex := 36, descriptorIndex := 6, attributes := #[] }, { accessFlags := 16409, nameIndex := 39, descriptorIndex := 6, attributes := #[] }, { accessFlags := 16409, nameIndex := 42, descriptorIndex := 6, attributes := #[] }, { accessFlags := 16409, nameIndex := 45, descriptorIndex := 6, attributes := #[] }, { accessFlags := 16409, nameIndex := 48, descriptorIndex := 6, attributes := #[] }, { accessFlags := 16409, nameIndex := 51, descriptorIndex := 6, attributes := #[] }, { accessFlags := 16409, nameIndex := 54, descriptorIndex := 6, attributes := #[] }, { accessFlags := 16409, nameIndex := 57, descriptorIndex := 6, attributes := #[] }, { accessFlags := 16409, nameIndex := 60, descriptorIndex := 6, attributes := #[] }, { accessFlags := 16409, nameIndex := 63, descriptorIndex := 6, attributes := #[] }, { accessFlags := 16409, nameIndex := 66, descriptorIndex := 6, attributes := #[] }, { accessFlags := 16409, nameIndex := 69, descriptorIndex := 6, attributes := #[] }, { accessFlags := 18, nameIndex := 91, descriptorIndex := 92, attributes := #[] }, { accessFlags := 18, nameIndex := 95, descriptorIndex := 96, attributes := #[] }, { accessFlags := 18, nameIndex := 99, descriptorIndex := 96, attributes := #[] }, { accessFlags := 4122, nameIndex := 72, descriptorIndex := 73, attributes := #[] }])
  fields := #[{ name := "NOT", type := (.object "com/example/symvane/symvane/term/Operator"), accessFlags := 16409, slot := 0, constantValue := 0 }, { name := "AND", type := (.object "com/example/symvane/symvane/term/Operator"), accessFlags := 16409, slot := 1, constantValue := 0 }, { name := "OR", type := (.object "com/example/symvane/symvane/term/Operator"), accessFlags := 16409, slot := 2, constantValue := 0 }, { name := "XOR", type := (.object "com/example/symvane/symvane/term/Operator"), accessFlags := 16409, slot := 3, constantValue := 0 }, { name := "IMPLIES", type := (.object "com/example/symvane/symvane/term/Operator"), accessFlags := 16409, slot := 4, constantValue := 0 }, { name := "ITE", type := (.object "com/example/symvane/symvane/term/Operator"), accessFlags := 16409, slot := 5, constantValue := 0 }, { name := "EQ", type := (.object "com/example/symvane/symvane/term/Operator"), accessFlags := 16409, slot := 6, constantValue := 0 }, { name := "DISTINCT", type := (.object "com/example/symvane/symvane/term/Operator"), accessFlags := 16409, slot := 7, constantValue := 0 }, { name := "PLUS", type := (.object "com/example/symvane/symvane/term/Operator"), accessFlags := 16409, slot := 8, constantValue := 0 }, { name := "MINUS", type := (.object "com/example/symvane/symvane/term/Operator"), accessFlags := 16409, slot := 9, constantValue := 0 }, { name := "TIMES", type := (.object "com/example/symvane/symvane/term/Operator"), accessFlags := 16409, slot := 10, constantValue := 0 }, { name := "DIV", type := (.object "com/example/symvane/symvane/term/Operator"), accessFlags := 16409, slot := 11, constantValue := 0 }, { name := "MOD", type := (.object "com/example/symvane/symvane/term/Operator"), accessFlags := 16409, slot := 12, constantValue := 0 }, { name := "ABS", type := (.object "com/example/symvane/symvane/term/Operator"), accessFlags := 16409, slot := 13, constantValue := 0 }, { name := "DIVIDE", type := (.object "com/example/symvane/symvane/term/Operator"), accessFlags := 16409, slot := 14, constantValue := 0 }, { name := "LT", type := (.object "com/example/symvane/symvane/term/Operator"), accessFlags := 16409, slot := 15, constantValue := 0 }, { name := "LE", type := (.object "com/example/symvane/symvane/term/Operator"), accessFlags := 16409, slot := 16, constantValue := 0 }, { name := "GT", type := (.object "com/example/symvane/symvane/term/Operator"), accessFlags := 16409, slot := 17, constantValue := 0 }, { name := "GE", type := (.object "com/example/symvane/symvane/term/Operator"), accessFlags := 16409, slot := 18, constantValue := 0 }, { name := "TO_REAL", type := (.object "com/example/symvane/symvane/term/Operator"), accessFlags := 16409, slot := 19, constantValue := 0 }, { name := "TO_INT", type := (.object "com/example/symvane/symvane/term/Operator"), accessFlags := 16409, slot := 20, constantValue := 0 }, { name := "IS_INT", type := (.object "com/example/symvane/symvane/term/Operator"), accessFlags := 16409, slot := 21, constantValue := 0 }, { name := "smtName", type := (.object "java/lang/String"), accessFlags := 18, slot := 3, constantValue := 0 }, { name := "minArgs", type := .int, accessFlags := 18, slot := 4, constantValue := 0 }, { name := "maxArgs", type := .int, accessFlags := 18, slot := 5, constantValue := 0 }, { name := "$VALUES", type := (.array (.object "com/example/symvane/symvane/term/Operator")), accessFlags := 4122, slot := 22, constantValue := 0 }]
  methods := #[k7m0]
  instanceTypes := #[(.object "java/lang/String"), .int, .int, (.object "java/lang/String"), .int, .int]
  staticTypes := #[(.object "com/example/symvane/symvane/term/Operator"), (.object "com/example/symvane/symvane/term/Operator"), (.object "com/example/symvane/symvane/term/Operator"), (.object "com/example/symvane/symvane/term/Operator"), (.object "com/example/symvane/symvane/term/Operator"), (.object "com/example/symvane/symvane/term/Operator"), (.object "com/example/symvane/symvane/term/Operator"), (.object "com/example/symvane/symvane/term/Operator"), (.object "com/example/symvane/symvane/term/Operator"), (.object "com/example/symvane/symvane/term/Operator"), (.object "com/example/symvane/symvane/term/Operator"), (.object "com/example/symvane/symvane/term/Operator"), (.object "com/example/symvane/symvane/term/Operator"), (.object "com/example/symvane/symvane/term/Operator"), (.object "com/example/symvane/symvane/term/Operator"), (.object "com/example/symvane/symvane/term/Operator"), (.object "com/example/symvane/symvane/term/Operator"), (.object "com/example/symvane/symvane/term/Operator"), (.object "com/example/symvane/symvane/term/Operator"), (.object "com/example/symvane/symvane/term/Operator"), (.object "com/example/symvane/symvane/term/Operator"), (.object "com/example/symvane/symvane/term/Operator"), (.array (.object "com/example/symvane/symvane/term/Operator"))]
  resolved := Array.replicate 241 none
  statics := some 0 }

def pool8 : Array CpInfo := pool [(1, u "java/lang/Cloneable"), (0, .class_ 1), (0, u "java/lang/Object"), (0, .class_ 3)] 3

/-- java/lang/Cloneable -/
def k8 : Class := { plain "java/lang/Cloneable" (some 0) with
  accessFlags := 1537
  interfaces := #[]
  cf := some (fileOf pool8 2 #[] #[] 1537 4 #[] #[])
  fields := #[]
  methods := #[]
  instanceTypes := #[]
  staticTypes := #[]
  resolved := Array.replicate 8 none
  statics := none }

/-- the primitive byte -/
def k9 : Class := { plain "byte" none with kind := .primitive 'B', accessFlags := 0x411 }
/-- [B -/
def k10 : Class := { plain "[B" (some 0) with kind := .array 9 .byte, interfaces := #[8, 4], accessFlags := 1041 }

/-- the primitive int -/
def k11 : Class := { plain "int" none with kind := .primitive 'I', accessFlags := 0x411 }
/-- [I -/
def k12 : Class := { plain "[I" (some 0) with kind := .array 11 .int, interfaces := #[8, 4], accessFlags := 1041 }

def heap : Heap := #[{ cls := 7, slots := #[.ref 1, .ref 2, .ref 3, .ref 4, .ref 5, .ref 6, .ref 7, .ref 8, .ref 9, .ref 10, .ref 11, .ref 12, .ref 13, .ref 14, .ref 15, .ref 16, .ref 17, .ref 18, .ref 19, .ref 20, .ref 21, .ref 22, .null], vm := .statics 7 },
  { cls := 7, slots := #[.null, .int 0, .int 0, .null, .int 1, .int 1], vm := .none },
  { cls := 7, slots := #[.null, .int 1, .int 0, .null, .int 2, .int 2147483647], vm := .none },
  { cls := 7, slots := #[.null, .int 2, .int 0, .null, .int 2, .int 2147483647], vm := .none },
  { cls := 7, slots := #[.null, .int 3, .int 0, .null, .int 2, .int 2147483647], vm := .none },
  { cls := 7, slots := #[.null, .int 4, .int 0, .null, .int 2, .int 2147483647], vm := .none },
  { cls := 7, slots := #[.null, .int 5, .int 0, .null, .int 3, .int 3], vm := .none },
  { cls := 7, slots := #[.null, .int 6, .int 0, .null, .int 2, .int 2147483647], vm := .none },
  { cls := 7, slots := #[.null, .int 7, .int 0, .null, .int 2, .int 2147483647], vm := .none },
  { cls := 7, slots := #[.null, .int 8, .int 0, .null, .int 2, .int 2147483647], vm := .none },
  { cls := 7, slots := #[.null, .int 9, .int 0, .null, .int 1, .int 2147483647], vm := .none },
  { cls := 7, slots := #[.null, .int 10, .int 0, .null, .int 2, .int 2147483647], vm := .none },
  { cls := 7, slots := #[.null, .int 11, .int 0, .null, .int 2, .int 2147483647], vm := .none },
  { cls := 7, slots := #[.null, .int 12, .int 0, .null, .int 2, .int 2], vm := .none },
  { cls := 7, slots := #[.null, .int 13, .int 0, .null, .int 1, .int 1], vm := .none },
  { cls := 7, slots := #[.null, .int 14, .int 0, .null, .int 2, .int 2147483647], vm := .none },
  { cls := 7, slots := #[.null, .int 15, .int 0, .null, .int 2, .int 2147483647], vm := .none },
  { cls := 7, slots := #[.null, .int 16, .int 0, .null, .int 2, .int 2147483647], vm := .none },
  { cls := 7, slots := #[.null, .int 17, .int 0, .null, .int 2, .int 2147483647], vm := .none },
  { cls := 7, slots := #[.null, .int 18, .int 0, .null, .int 2, .int 2147483647], vm := .none },
  { cls := 7, slots := #[.null, .int 19, .int 0, .null, .int 1, .int 1], vm := .none },
  { cls := 7, slots := #[.null, .int 20, .int 0, .null, .int 1, .int 1], vm := .none },
  { cls := 7, slots := #[.null, .int 21, .int 0, .null, .int 1, .int 1], vm := .none }]
def classes : Array Class := #[k0, k1, k2, k3, k4, k5, k6, k7, k8, k9, k10, k11, k12]
def interned : List (Array UInt16 × Addr) := []
def slotsUsed : Nat := 155
def theMethod : MethodId := ⟨1, 3⟩
def args0 : Array Value := #[.int 5, .int 2, .int 0]
def aboutOver (below : List Frame) : State where
  vm := { classes := classes, interned := interned.toArray }
  heap := heap
  slotsUsed := slotsUsed
  threads := #[{ frames := .invoking theMethod args0 :: below }]
def below0 : List Frame := [.native { method := ⟨0, 0⟩, args := #[] }]
def about1 : State := aboutOver below0
def p0 : Program := .bare "" "" ""
def e0 : Env := launch0.env 0 0 0
theorem w_frames : about1.frames = Frame.invoking theMethod args0 :: below0 := rfl
set_option maxRecDepth 65536 in
theorem w_args : argsFit about1.vm theMethod args0 = true := by decide +kernel
set_option maxRecDepth 65536 in
theorem w_heap : heapFits about1 = true := by decide +kernel
set_option maxRecDepth 65536 in
theorem w_runnable : about1.curStatus? = some .runnable := by decide +kernel
set_option maxRecDepth 65536 in
theorem w_alone : about1.alone = true := by decide +kernel
set_option maxRecDepth 65536 in
theorem w_named : about1.methodNamed? x = some theMethod := by decide +kernel
set_option maxRecDepth 65536 in
theorem w_hears : about1.hears theMethod below0 = true := by decide +kernel
set_option maxRecDepth 65536 in
theorem w_ripe : about1.ripe theMethod args0 below0 = true := by decide +kernel
theorem w_running : about1.status = .running := rfl
set_option maxRecDepth 65536 in
theorem w_room : about1.hasRoom e0.platform room_1 = true :=
  launch0.hasRoom_least _ room_1 (by decide +kernel) (by decide +kernel) (by decide +kernel) (by decide +kernel) (by decide +kernel) (by decide +kernel)
theorem allAtoms_all (ts : List Jvm.Cond) (a : Array Jvm.Value) (st : Jvm.State) : (allAtoms ts).before a st = ts.all (fun c => c.before a st) := by
  induction ts with
  | nil => rfl
  | cons c t ih =>
    show (Jvm.Cond.and c (allAtoms t)).before a st = _
    rw [Jvm.Cond.before_and, ih, List.all_cons]
def words1 : List Jvm.Cond := Jvm.Cond.code x code maxLocals ret :: tables_1
/-- a 'code' word, met by the world's own term for the bytes: nothing is compared byte by byte -/
theorem code_word {y : MethodName} {bytes : ByteArray} {mx : Nat} {rt : Option FieldType} {a : Array Value} {s : State} {m : MethodId} {meth : Method} {c : Code} (h1 : s.methodNamed? y = some m) (h2 : s.vm.method? m = some meth) (h3 : meth.code = some c) (h4 : c.code = bytes)
    (h5 : (c.maxLocals == mx && c.exceptionTable.isEmpty && decide (c.maxStack ≤ mostOperands) && decide (meth.sig.returnType = rt) && !meth.locks && decide (parseMethodDescriptor y.desc = some meth.sig)) = true) : (Jvm.Cond.code y bytes mx rt).before a s = true := by
  simp only [Bool.and_eq_true, beq_iff_eq, Bool.not_eq_true', decide_eq_true_eq] at h5
  obtain ⟨⟨⟨⟨⟨g1, g2⟩, g3⟩, g4⟩, g5⟩, g6⟩ := h5
  simp [Cond.before, Cond.holds, Cond.value, h1, h2, h3, h4, g1, g2, g3, g4, g5, g6]
def isCode : Jvm.Cond → Bool
  | .code _ _ _ _ => true
  | _ => false
theorem all_split {L : List Jvm.Cond} {P : Jvm.Cond → Bool} (h1 : L.all (fun c => isCode c || P c) = true) (h2 : ∀ c ∈ L.filter isCode, P c = true) : L.all P = true := by
  refine List.all_eq_true.mpr fun c hc => ?_
  have h := List.all_eq_true.mp h1 c hc
  rcases Bool.eq_false_or_eq_true (isCode c) with hi | hi
  · exact h2 c (List.mem_filter.mpr ⟨hc, hi⟩)
  · simpa [hi] using h
set_option maxRecDepth 65536 in
theorem w_c0 : (Jvm.Cond.code x code maxLocals ret).before args0 about1 = true := code_word (m := ⟨1, 3⟩) (meth := k1m3) (c := k1c3) (by decide +kernel) rfl rfl rfl (by decide +kernel)
set_option maxRecDepth 65536 in
theorem w_c1 : (Jvm.Cond.code ({ cls := "com/example/symvane/symvane/term/OperatorTakesPinLaw", name := "pick", desc := "(I)Lcom/example/symvane/symvane/term/Operator;" } : Jvm.MethodName) method_2_code (1 : Nat) (Option.some (Jvm.ClassFile.FieldType.object "com/example/symvane/symvane/term/Operator"))).before args0 about1 = true := code_word (m := ⟨1, 1⟩) (meth := k1m1) (c := k1c1) (by decide +kernel) rfl rfl rfl (by decide +kernel)
set_option maxRecDepth 65536 in
theorem w_c2 : (Jvm.Cond.code ({ cls := "com/example/symvane/symvane/term/Operator", name := "takes", desc := "(I)Z" } : Jvm.MethodName) prog_71_method_8_code (2 : Nat) (Option.some Jvm.ClassFile.FieldType.boolean)).before args0 about1 = true := code_word (m := ⟨7, 0⟩) (meth := k7m0) (c := k7c0) (by decide +kernel) rfl rfl rfl (by decide +kernel)
set_option maxRecDepth 65536 in
theorem w_c3 : (Jvm.Cond.code ({ cls := "com/example/symvane/symvane/term/OperatorTakesPinLaw", name := "expected", desc := "(Lcom/example/symvane/symvane/term/Operator;I)Z" } : Jvm.MethodName) method_3_code (2 : Nat) (Option.some Jvm.ClassFile.FieldType.boolean)).before args0 about1 = true := code_word (m := ⟨1, 2⟩) (meth := k1m2) (c := k1c2) (by decide +kernel) rfl rfl rfl (by decide +kernel)
def codes1 : List Jvm.Cond := [Jvm.Cond.code x code maxLocals ret, Jvm.Cond.code ({ cls := "com/example/symvane/symvane/term/OperatorTakesPinLaw", name := "pick", desc := "(I)Lcom/example/symvane/symvane/term/Operator;" } : Jvm.MethodName) method_2_code (1 : Nat) (Option.some (Jvm.ClassFile.FieldType.object "com/example/symvane/symvane/term/Operator")), Jvm.Cond.code ({ cls := "com/example/symvane/symvane/term/Operator", name := "takes", desc := "(I)Z" } : Jvm.MethodName) prog_71_method_8_code (2 : Nat) (Option.some Jvm.ClassFile.FieldType.boolean), Jvm.Cond.code ({ cls := "com/example/symvane/symvane/term/OperatorTakesPinLaw", name := "expected", desc := "(Lcom/example/symvane/symvane/term/Operator;I)Z" } : Jvm.MethodName) method_3_code (2 : Nat) (Option.some Jvm.ClassFile.FieldType.boolean)]
set_option maxRecDepth 65536 in
theorem codes_eq : words1.filter isCode = codes1 := rfl
theorem w_codes : ∀ c ∈ words1.filter isCode, c.before args0 about1 = true := by
  rw [codes_eq]
  intro c hc
  simp only [codes1, List.mem_cons, List.not_mem_nil, or_false] at hc
  rcases hc with rfl | rfl | rfl | rfl
  · exact w_c0
  · exact w_c1
  · exact w_c2
  · exact w_c3
set_option maxRecDepth 65536 in
theorem w_t1 : (words1.take 24).all (fun c => isCode c || c.before args0 about1) = true := by decide +kernel
set_option maxRecDepth 65536 in
theorem w_t2 : ((words1.drop 24).take 24).all (fun c => isCode c || c.before args0 about1) = true := by decide +kernel
set_option maxRecDepth 65536 in
theorem w_t3 : ((words1.drop 24).drop 24).all (fun c => isCode c || c.before args0 about1) = true := by decide +kernel
theorem w_tables : (allAtoms (Jvm.Cond.code x code maxLocals ret :: tables_1)).before args0 about1 = true := by
  rw [allAtoms_all]
  show words1.all (fun c => c.before args0 about1) = true
  refine all_split ?_ w_codes
  rw [← List.take_append_drop 24 words1, List.all_append, w_t1, ← List.take_append_drop 24 (words1.drop 24), List.all_append, w_t2, w_t3]
  rfl
set_option maxRecDepth 65536 in
theorem w_case : (Jvm.Cond.and given_1 narrow_1).before args0 about1 = true := by decide +kernel
theorem w_applies : (headSpec (Jvm.Cond.code x code maxLocals ret :: tables_1) room_1).applies x e0.platform about1 = true :=
  (Spec.applies_iff w_frames).mpr ⟨w_running, w_runnable, w_alone, w_named, w_hears, w_ripe, w_room, w_tables⟩
theorem atStart : AtStart classFile x code maxLocals ret World_1 tables_1 room_1 Calls_1 rest_1 Pre_1 launch0 p0 e0 about1 theMethod args0 below0 :=
  ⟨lists_1, trivial, launch0.admits_env _ _ _, launch0.least_env, fairChoices_fair.cas, fairChoices_fair.clock, w_frames, w_args, w_heap, w_applies, trivial, trivial, w_case⟩
end start1
theorem witness_1 : WitnessClaimed_1 := ⟨start1.p0, start1.e0, start1.about1, start1.theMethod, start1.args0, start1.below0, start1.atStart⟩
end Jvm.Pilot.@@N@@
