import JvmDerived
import JvmDerived.Pilot.@@N@@Statement
import JvmDerived.Pilot.@@N@@Code
set_option linter.unusedVariables false
set_option linter.unusedSimpArgs false
namespace Jvm.RoadKit
open Sem ClassFile Op Lib Jvm.Stand Jvm.Free Jvm.LawKit
section New
variable {p : Program} {l : Launch} {e : Env} {R : Room} {s : State} {m : MethodId} {args : Array Value} {below : List Frame} {meth : Method} {c : Code} {T : State} {locs : List Loc} {cells slots : Nat}
theorem retI (X : Stand p l e R s m args below meth c T locs cells slots) (hx : p.tables.exec = Jvm.exec) {pc : Nat} {Ls : Array Slot} {z : Int32} {rest : List Value} (hret : meth.sig.returnType = some .int) (hd : decode c.code pc = .ok (.ireturn, 1)) {fs : List Frame}
    (hl : ∀ (f : JFrame) (acts : List Action), f.method = m → f.locked = none → f.entered = [] → (doReturn e (T.setTop f) acts (some (.int z))).1 = T.setFrames fs) : Steps p.tables e below (T.setTop (mkF m pc Ls (.int z :: rest))) (T.setFrames fs) := by
  have hm' : T.vm.method? m = some meth := X.method'
  have hn : narrow .int (.int z) = .int z := rfl
  show Steps p.tables e below (T.setTop { method := m, pc := pc, locals := Ls, stack := _ :: rest, locked := none }) _
  jvm_step X.here [X.here.top, hx, hd, hm', hret, hn]
  first | (intro acts; rw [hl _ acts rfl rfl rfl]) | rw [hl _ _ rfl rfl rfl]
  exact Steps.refl _
end New
/-- from the state A the run comes to a state that P describes -/
def own_Lead (tb : Tables) (e : Env) (below : List Frame) (A : State) (P : State → Prop) : Prop := ∃ B, P B ∧ ∀ t, Steps tb e below B t → Steps tb e below A t
theorem own_st {tb : Tables} {e : Env} {below : List Frame} {A B : State} {P : State → Prop} (st : ∀ t, Steps tb e below B t → Steps tb e below A t) (h : own_Lead tb e below B P) : own_Lead tb e below A P := by
  obtain ⟨C, hp, hs⟩ := h
  exact ⟨C, hp, fun t k => st t (hs t k)⟩
theorem own_fin {tb : Tables} {e : Env} {below : List Frame} {A B : State} {P : State → Prop} (st : Steps tb e below A B) (h : P B) : own_Lead tb e below A P := ⟨B, h, fun t k => st.trans k⟩
theorem own_run {tb : Tables} {e : Env} {below : List Frame} {A : State} {K : State → Outcome → Prop} (h : own_Lead tb e below A (fun B => ∃ o, K B o)) : ∃ s₂ o, Steps tb e below A s₂ ∧ K s₂ o := by
  obtain ⟨B, ⟨o, hk⟩, st⟩ := h
  exact ⟨B, o, st B (Steps.refl _), hk⟩
/-- a boolean as an int -/
def own_b (P : Prop) [Decidable P] : Int32 := if P then 1 else 0
theorem own_b1 {P : Prop} [Decidable P] (h : P) : own_b P = 1 := if_pos h
theorem own_b0 {P : Prop} [Decidable P] (h : ¬ P) : own_b P = 0 := if_neg h
theorem own_bi {P Q : Prop} [Decidable P] [Decidable Q] (h : P ↔ Q) : own_b P = own_b Q := by
  by_cases hp : P
  · rw [own_b1 hp, own_b1 (h.mp hp)]
  · rw [own_b0 hp, own_b0 (fun q => hp (h.mpr q))]
theorem own_bj {P Q : Prop} [Decidable P] [Decidable Q] {x : Int32} (hx : x = own_b Q) (h1 : Q → P) (h2 : ¬ Q → ¬ P) : x = own_b P := by
  rw [hx]
  by_cases hq : Q
  · rw [own_b1 hq, own_b1 (h1 hq)]
  · rw [own_b0 hq, own_b0 (h2 hq)]
theorem own_bb {P Q : Prop} [Decidable P] [Decidable Q] {x y : Int32} (hx : x = own_b P) (hy : y = own_b Q) (h : P ↔ Q) : x = y := by rw [hx, hy, own_bi h]
section Copy
variable {p : Program} {l : Launch} {e : Env} {R : Room} {s : State} {m : MethodId} {args : Array Value} {below : List Frame} {meth : Method} {c : Code} {T : State} {locs : List Loc} {cells slots : Nat} {Z : State} {h : Heap} {a b : Addr}
end Copy
section Cold
variable {p : Program} {l : Launch} {e : Env} {R : Room} {s : State} {vm0 : Vm} {m : MethodId} {args : Array Value} {below : List Frame} {meth : Method} {c : Code} {T : State} {locs : List Loc} {cells slots : Nat} {Z : State} {a0 : Array Value} {h : Heap}
end Cold
end Jvm.RoadKit
namespace Jvm.Pilot.@@N@@
open Jvm Jvm.ClassFile Sem Op Lib Jvm.Free Jvm.Stand Jvm.LawKit Jvm.RoadKit Bundle Jvm.Pilot.@@N@@.Jvm.D
theorem own_pn0 : plainName "com/example/psyche/psyche/XmlChars" = true := by first | (simp [plainName, overriddenIn]; done) | decide +kernel
theorem own_d1_0 : decode prog_171_method_12_code 0 = .ok (.iload_n 0, 1) := by decide +kernel
theorem own_d1_1 : decode prog_171_method_12_code 1 = .ok (.sipush 128, 3) := by decide +kernel
theorem own_d1_4 : decode prog_171_method_12_code 4 = .ok (.if_icmp .ge 39, 3) := by decide +kernel
theorem own_d1_7 : decode prog_171_method_12_code 7 = .ok (.iload_n 0, 1) := by decide +kernel
theorem own_d1_8 : decode prog_171_method_12_code 8 = .ok (.bipush 97, 2) := by decide +kernel
theorem own_d1_10 : decode prog_171_method_12_code 10 = .ok (.if_icmp .lt 9, 3) := by decide +kernel
theorem own_d1_13 : decode prog_171_method_12_code 13 = .ok (.iload_n 0, 1) := by decide +kernel
theorem own_d1_14 : decode prog_171_method_12_code 14 = .ok (.bipush 122, 2) := by decide +kernel
theorem own_d1_16 : decode prog_171_method_12_code 16 = .ok (.if_icmp .le 21, 3) := by decide +kernel
theorem own_d1_19 : decode prog_171_method_12_code 19 = .ok (.iload_n 0, 1) := by decide +kernel
theorem own_d1_20 : decode prog_171_method_12_code 20 = .ok (.bipush 65, 2) := by decide +kernel
theorem own_d1_22 : decode prog_171_method_12_code 22 = .ok (.if_icmp .lt 9, 3) := by decide +kernel
theorem own_d1_25 : decode prog_171_method_12_code 25 = .ok (.iload_n 0, 1) := by decide +kernel
theorem own_d1_26 : decode prog_171_method_12_code 26 = .ok (.bipush 90, 2) := by decide +kernel
theorem own_d1_28 : decode prog_171_method_12_code 28 = .ok (.if_icmp .le 9, 3) := by decide +kernel
theorem own_d1_31 : decode prog_171_method_12_code 31 = .ok (.iload_n 0, 1) := by decide +kernel
theorem own_d1_32 : decode prog_171_method_12_code 32 = .ok (.bipush 95, 2) := by decide +kernel
theorem own_d1_34 : decode prog_171_method_12_code 34 = .ok (.if_icmp .ne 7, 3) := by decide +kernel
theorem own_d1_37 : decode prog_171_method_12_code 37 = .ok (.iconst 1, 1) := by decide +kernel
theorem own_d1_38 : decode prog_171_method_12_code 38 = .ok (.goto 4, 3) := by decide +kernel
theorem own_d1_41 : decode prog_171_method_12_code 41 = .ok (.iconst 0, 1) := by decide +kernel
theorem own_d1_42 : decode prog_171_method_12_code 42 = .ok (.ireturn, 1) := by decide +kernel
theorem own_d1_43 : decode prog_171_method_12_code 43 = .ok (.iload_n 0, 1) := by decide +kernel
theorem own_d1_44 : decode prog_171_method_12_code 44 = .ok (.sipush 192, 3) := by decide +kernel
theorem own_d1_47 : decode prog_171_method_12_code 47 = .ok (.if_icmp .lt 10, 3) := by decide +kernel
theorem own_d1_50 : decode prog_171_method_12_code 50 = .ok (.iload_n 0, 1) := by decide +kernel
theorem own_d1_51 : decode prog_171_method_12_code 51 = .ok (.sipush 214, 3) := by decide +kernel
theorem own_d1_54 : decode prog_171_method_12_code 54 = .ok (.if_icmp .le 150, 3) := by decide +kernel
theorem own_d1_57 : decode prog_171_method_12_code 57 = .ok (.iload_n 0, 1) := by decide +kernel
theorem own_d1_58 : decode prog_171_method_12_code 58 = .ok (.sipush 216, 3) := by decide +kernel
theorem own_d1_61 : decode prog_171_method_12_code 61 = .ok (.if_icmp .lt 10, 3) := by decide +kernel
theorem own_d1_64 : decode prog_171_method_12_code 64 = .ok (.iload_n 0, 1) := by decide +kernel
theorem own_d1_65 : decode prog_171_method_12_code 65 = .ok (.sipush 246, 3) := by decide +kernel
theorem own_d1_68 : decode prog_171_method_12_code 68 = .ok (.if_icmp .le 136, 3) := by decide +kernel
theorem own_d1_71 : decode prog_171_method_12_code 71 = .ok (.iload_n 0, 1) := by decide +kernel
theorem own_d1_72 : decode prog_171_method_12_code 72 = .ok (.sipush 248, 3) := by decide +kernel
theorem own_d1_75 : decode prog_171_method_12_code 75 = .ok (.if_icmp .lt 10, 3) := by decide +kernel
theorem own_d1_78 : decode prog_171_method_12_code 78 = .ok (.iload_n 0, 1) := by decide +kernel
theorem own_d1_79 : decode prog_171_method_12_code 79 = .ok (.sipush 767, 3) := by decide +kernel
theorem own_d1_82 : decode prog_171_method_12_code 82 = .ok (.if_icmp .le 122, 3) := by decide +kernel
theorem own_d1_85 : decode prog_171_method_12_code 85 = .ok (.iload_n 0, 1) := by decide +kernel
theorem own_d1_86 : decode prog_171_method_12_code 86 = .ok (.sipush 880, 3) := by decide +kernel
theorem own_d1_89 : decode prog_171_method_12_code 89 = .ok (.if_icmp .lt 10, 3) := by decide +kernel
theorem own_d1_92 : decode prog_171_method_12_code 92 = .ok (.iload_n 0, 1) := by decide +kernel
theorem own_d1_93 : decode prog_171_method_12_code 93 = .ok (.sipush 893, 3) := by decide +kernel
theorem own_d1_96 : decode prog_171_method_12_code 96 = .ok (.if_icmp .le 108, 3) := by decide +kernel
theorem own_d1_99 : decode prog_171_method_12_code 99 = .ok (.iload_n 0, 1) := by decide +kernel
theorem own_d1_100 : decode prog_171_method_12_code 100 = .ok (.sipush 895, 3) := by decide +kernel
theorem own_d1_103 : decode prog_171_method_12_code 103 = .ok (.if_icmp .lt 10, 3) := by decide +kernel
theorem own_d1_106 : decode prog_171_method_12_code 106 = .ok (.iload_n 0, 1) := by decide +kernel
theorem own_d1_107 : decode prog_171_method_12_code 107 = .ok (.sipush 8191, 3) := by decide +kernel
theorem own_d1_110 : decode prog_171_method_12_code 110 = .ok (.if_icmp .le 94, 3) := by decide +kernel
theorem own_d1_113 : decode prog_171_method_12_code 113 = .ok (.iload_n 0, 1) := by decide +kernel
theorem own_d1_114 : decode prog_171_method_12_code 114 = .ok (.sipush 8204, 3) := by decide +kernel
theorem own_d1_117 : decode prog_171_method_12_code 117 = .ok (.if_icmp .eq 87, 3) := by decide +kernel
theorem own_d1_120 : decode prog_171_method_12_code 120 = .ok (.iload_n 0, 1) := by decide +kernel
theorem own_d1_121 : decode prog_171_method_12_code 121 = .ok (.sipush 8205, 3) := by decide +kernel
theorem own_d1_124 : decode prog_171_method_12_code 124 = .ok (.if_icmp .eq 80, 3) := by decide +kernel
theorem own_d1_127 : decode prog_171_method_12_code 127 = .ok (.iload_n 0, 1) := by decide +kernel
theorem own_d1_128 : decode prog_171_method_12_code 128 = .ok (.sipush 8304, 3) := by decide +kernel
theorem own_d1_131 : decode prog_171_method_12_code 131 = .ok (.if_icmp .lt 10, 3) := by decide +kernel
theorem own_d1_134 : decode prog_171_method_12_code 134 = .ok (.iload_n 0, 1) := by decide +kernel
theorem own_d1_135 : decode prog_171_method_12_code 135 = .ok (.sipush 8591, 3) := by decide +kernel
theorem own_d1_138 : decode prog_171_method_12_code 138 = .ok (.if_icmp .le 66, 3) := by decide +kernel
theorem own_d1_141 : decode prog_171_method_12_code 141 = .ok (.iload_n 0, 1) := by decide +kernel
theorem own_d1_142 : decode prog_171_method_12_code 142 = .ok (.sipush 11264, 3) := by decide +kernel
theorem own_d1_145 : decode prog_171_method_12_code 145 = .ok (.if_icmp .lt 10, 3) := by decide +kernel
theorem own_d1_148 : decode prog_171_method_12_code 148 = .ok (.iload_n 0, 1) := by decide +kernel
theorem own_d1_149 : decode prog_171_method_12_code 149 = .ok (.sipush 12271, 3) := by decide +kernel
theorem own_d1_152 : decode prog_171_method_12_code 152 = .ok (.if_icmp .le 52, 3) := by decide +kernel
theorem own_d1_155 : decode prog_171_method_12_code 155 = .ok (.iload_n 0, 1) := by decide +kernel
theorem own_d1_156 : decode prog_171_method_12_code 156 = .ok (.sipush 12289, 3) := by decide +kernel
theorem own_d1_159 : decode prog_171_method_12_code 159 = .ok (.if_icmp .lt 9, 3) := by decide +kernel
theorem own_d1_162 : decode prog_171_method_12_code 162 = .ok (.iload_n 0, 1) := by decide +kernel
theorem own_d1_163 : decode prog_171_method_12_code 163 = .ok (.ldc 57, 2) := by decide +kernel
theorem own_d1_165 : decode prog_171_method_12_code 165 = .ok (.if_icmp .le 39, 3) := by decide +kernel
theorem own_d1_168 : decode prog_171_method_12_code 168 = .ok (.iload_n 0, 1) := by decide +kernel
theorem own_d1_169 : decode prog_171_method_12_code 169 = .ok (.ldc 58, 2) := by decide +kernel
theorem own_d1_171 : decode prog_171_method_12_code 171 = .ok (.if_icmp .lt 9, 3) := by decide +kernel
theorem own_d1_174 : decode prog_171_method_12_code 174 = .ok (.iload_n 0, 1) := by decide +kernel
theorem own_d1_175 : decode prog_171_method_12_code 175 = .ok (.ldc 59, 2) := by decide +kernel
theorem own_d1_177 : decode prog_171_method_12_code 177 = .ok (.if_icmp .le 27, 3) := by decide +kernel
theorem own_d1_180 : decode prog_171_method_12_code 180 = .ok (.iload_n 0, 1) := by decide +kernel
theorem own_d1_181 : decode prog_171_method_12_code 181 = .ok (.ldc 60, 2) := by decide +kernel
theorem own_d1_183 : decode prog_171_method_12_code 183 = .ok (.if_icmp .lt 9, 3) := by decide +kernel
theorem own_d1_186 : decode prog_171_method_12_code 186 = .ok (.iload_n 0, 1) := by decide +kernel
theorem own_d1_187 : decode prog_171_method_12_code 187 = .ok (.ldc 61, 2) := by decide +kernel
theorem own_d1_189 : decode prog_171_method_12_code 189 = .ok (.if_icmp .le 15, 3) := by decide +kernel
theorem own_d1_192 : decode prog_171_method_12_code 192 = .ok (.iload_n 0, 1) := by decide +kernel
theorem own_d1_193 : decode prog_171_method_12_code 193 = .ok (.ldc 62, 2) := by decide +kernel
theorem own_d1_195 : decode prog_171_method_12_code 195 = .ok (.if_icmp .lt 13, 3) := by decide +kernel
theorem own_d1_198 : decode prog_171_method_12_code 198 = .ok (.iload_n 0, 1) := by decide +kernel
theorem own_d1_199 : decode prog_171_method_12_code 199 = .ok (.ldc 63, 2) := by decide +kernel
theorem own_d1_201 : decode prog_171_method_12_code 201 = .ok (.if_icmp .gt 7, 3) := by decide +kernel
theorem own_d1_204 : decode prog_171_method_12_code 204 = .ok (.iconst 1, 1) := by decide +kernel
theorem own_d1_205 : decode prog_171_method_12_code 205 = .ok (.goto 4, 3) := by decide +kernel
theorem own_d1_208 : decode prog_171_method_12_code 208 = .ok (.iconst 0, 1) := by decide +kernel
theorem own_d1_209 : decode prog_171_method_12_code 209 = .ok (.ireturn, 1) := by decide +kernel
def own_R1_208 (p0 : Int32) : Prop := False
instance own_D1_208 (p0 : Int32) : Decidable (own_R1_208 p0) := by unfold own_R1_208; infer_instance
def own_R1_204 (p0 : Int32) : Prop := True
instance own_D1_204 (p0 : Int32) : Decidable (own_R1_204 p0) := by unfold own_R1_204; infer_instance
def own_R1_192 (p0 : Int32) : Prop := (((p0 < (65536 : Int32)) ∧ ((own_R1_208 p0))) ∨ (¬ (p0 < (65536 : Int32)) ∧ (((((983039 : Int32) < p0) ∧ ((own_R1_208 p0))) ∨ (¬ ((983039 : Int32) < p0) ∧ ((own_R1_204 p0)))))))
instance own_D1_192 (p0 : Int32) : Decidable (own_R1_192 p0) := by unfold own_R1_192; infer_instance
def own_R1_180 (p0 : Int32) : Prop := (((p0 < (65008 : Int32)) ∧ ((own_R1_192 p0))) ∨ (¬ (p0 < (65008 : Int32)) ∧ (((((65533 : Int32) < p0) ∧ ((own_R1_192 p0))) ∨ (¬ ((65533 : Int32) < p0) ∧ ((own_R1_204 p0)))))))
instance own_D1_180 (p0 : Int32) : Decidable (own_R1_180 p0) := by unfold own_R1_180; infer_instance
def own_R1_168 (p0 : Int32) : Prop := (((p0 < (63744 : Int32)) ∧ ((own_R1_180 p0))) ∨ (¬ (p0 < (63744 : Int32)) ∧ (((((64975 : Int32) < p0) ∧ ((own_R1_180 p0))) ∨ (¬ ((64975 : Int32) < p0) ∧ ((own_R1_204 p0)))))))
instance own_D1_168 (p0 : Int32) : Decidable (own_R1_168 p0) := by unfold own_R1_168; infer_instance
def own_R1_155 (p0 : Int32) : Prop := (((p0 < (12289 : Int32)) ∧ ((own_R1_168 p0))) ∨ (¬ (p0 < (12289 : Int32)) ∧ (((((55295 : Int32) < p0) ∧ ((own_R1_168 p0))) ∨ (¬ ((55295 : Int32) < p0) ∧ ((own_R1_204 p0)))))))
instance own_D1_155 (p0 : Int32) : Decidable (own_R1_155 p0) := by unfold own_R1_155; infer_instance
def own_R1_141 (p0 : Int32) : Prop := (((p0 < (11264 : Int32)) ∧ ((own_R1_155 p0))) ∨ (¬ (p0 < (11264 : Int32)) ∧ (((((12271 : Int32) < p0) ∧ ((own_R1_155 p0))) ∨ (¬ ((12271 : Int32) < p0) ∧ ((own_R1_204 p0)))))))
instance own_D1_141 (p0 : Int32) : Decidable (own_R1_141 p0) := by unfold own_R1_141; infer_instance
def own_R1_113 (p0 : Int32) : Prop := (((p0 = (8204 : Int32)) ∧ ((own_R1_204 p0))) ∨ (¬ (p0 = (8204 : Int32)) ∧ ((((p0 = (8205 : Int32)) ∧ ((own_R1_204 p0))) ∨ (¬ (p0 = (8205 : Int32)) ∧ ((((p0 < (8304 : Int32)) ∧ ((own_R1_141 p0))) ∨ (¬ (p0 < (8304 : Int32)) ∧ (((((8591 : Int32) < p0) ∧ ((own_R1_141 p0))) ∨ (¬ ((8591 : Int32) < p0) ∧ ((own_R1_204 p0)))))))))))))
instance own_D1_113 (p0 : Int32) : Decidable (own_R1_113 p0) := by unfold own_R1_113; infer_instance
def own_R1_99 (p0 : Int32) : Prop := (((p0 < (895 : Int32)) ∧ ((own_R1_113 p0))) ∨ (¬ (p0 < (895 : Int32)) ∧ (((((8191 : Int32) < p0) ∧ ((own_R1_113 p0))) ∨ (¬ ((8191 : Int32) < p0) ∧ ((own_R1_204 p0)))))))
instance own_D1_99 (p0 : Int32) : Decidable (own_R1_99 p0) := by unfold own_R1_99; infer_instance
def own_R1_85 (p0 : Int32) : Prop := (((p0 < (880 : Int32)) ∧ ((own_R1_99 p0))) ∨ (¬ (p0 < (880 : Int32)) ∧ (((((893 : Int32) < p0) ∧ ((own_R1_99 p0))) ∨ (¬ ((893 : Int32) < p0) ∧ ((own_R1_204 p0)))))))
instance own_D1_85 (p0 : Int32) : Decidable (own_R1_85 p0) := by unfold own_R1_85; infer_instance
def own_R1_71 (p0 : Int32) : Prop := (((p0 < (248 : Int32)) ∧ ((own_R1_85 p0))) ∨ (¬ (p0 < (248 : Int32)) ∧ (((((767 : Int32) < p0) ∧ ((own_R1_85 p0))) ∨ (¬ ((767 : Int32) < p0) ∧ ((own_R1_204 p0)))))))
instance own_D1_71 (p0 : Int32) : Decidable (own_R1_71 p0) := by unfold own_R1_71; infer_instance
def own_R1_57 (p0 : Int32) : Prop := (((p0 < (216 : Int32)) ∧ ((own_R1_71 p0))) ∨ (¬ (p0 < (216 : Int32)) ∧ (((((246 : Int32) < p0) ∧ ((own_R1_71 p0))) ∨ (¬ ((246 : Int32) < p0) ∧ ((own_R1_204 p0)))))))
instance own_D1_57 (p0 : Int32) : Decidable (own_R1_57 p0) := by unfold own_R1_57; infer_instance
def own_R1_37 (p0 : Int32) : Prop := True
instance own_D1_37 (p0 : Int32) : Decidable (own_R1_37 p0) := by unfold own_R1_37; infer_instance
def own_R1_31 (p0 : Int32) : Prop := ((p0 = (95 : Int32)) ∧ ((own_R1_37 p0)))
instance own_D1_31 (p0 : Int32) : Decidable (own_R1_31 p0) := by unfold own_R1_31; infer_instance
def own_R1_19 (p0 : Int32) : Prop := (((p0 < (65 : Int32)) ∧ ((own_R1_31 p0))) ∨ (¬ (p0 < (65 : Int32)) ∧ (((((90 : Int32) < p0) ∧ ((own_R1_31 p0))) ∨ (¬ ((90 : Int32) < p0) ∧ ((own_R1_37 p0)))))))
instance own_D1_19 (p0 : Int32) : Decidable (own_R1_19 p0) := by unfold own_R1_19; infer_instance
def own_R1_0 (p0 : Int32) : Prop := (((p0 < (128 : Int32)) ∧ ((((p0 < (97 : Int32)) ∧ ((own_R1_19 p0))) ∨ (¬ (p0 < (97 : Int32)) ∧ (((((122 : Int32) < p0) ∧ ((own_R1_19 p0))) ∨ (¬ ((122 : Int32) < p0) ∧ ((own_R1_37 p0))))))))) ∨ (¬ (p0 < (128 : Int32)) ∧ ((((p0 < (192 : Int32)) ∧ ((own_R1_57 p0))) ∨ (¬ (p0 < (192 : Int32)) ∧ (((((214 : Int32) < p0) ∧ ((own_R1_57 p0))) ∨ (¬ ((214 : Int32) < p0) ∧ ((own_R1_204 p0))))))))))
instance own_D1_0 (p0 : Int32) : Decidable (own_R1_0 p0) := by unfold own_R1_0; infer_instance
theorem own_ef1 (m : MethodId) (p0 : Int32) : entryFrame m #[(.int p0)] 1 = mkF m 0 #[.val (.int p0)] [] := by first | (simp [entryFrame, mkF, argsToLocals, Value.category]; done) | rfl
def own_Q1 (Z : State) (p0 : Int32) (h0 : Heap) (n0 : Nat) (v : Option Value) (h : Heap) (L : List Loc) : Prop := (v = some (.int (own_b (own_R1_0 p0)))) ∧ (Fr n0 L) ∧ (h = h0)
set_option maxRecDepth 65536 in
set_option maxHeartbeats 40000000 in
theorem own_rm1 (l : Launch) (Z : State) (a0 : Array Value) (hw : ∀ d ∈ tables_1, d.before a0 Z = true) (ws : List Jvm.Cond) (p0 : Int32) (h0 : Heap) (n0 : Nat) (Z0 : n0 ≤ h0.size) :
    MetFree l (⟨"com/example/psyche/psyche/XmlChars", "isNameStartChar", "(I)Z"⟩ : MethodName) (head1 (Jvm.Cond.code (⟨"com/example/psyche/psyche/XmlChars", "isNameStartChar", "(I)Z"⟩ : MethodName) prog_171_method_12_code 1 (some .boolean) :: ws) ({ frames := 0, cells := 0, slots := 0, locals := 0 } : Room)) (fun a U => a = #[(.int p0)] ∧ Z.Warmed39 U.vm ∧ U.heap = h0) (fun _ _ _ _ _ => True) (fun _ U o U' => ∃ v L, o = .returned v ∧ own_Q1 Z p0 h0 n0 v U'.heap L ∧ FrameEnd U o U' L ({ frames := 0, cells := 0, slots := 0, locals := 0 } : Room).cells ({ frames := 0, cells := 0, slots := 0, locals := 0 } : Room).slots) := by
  refine MetFree.of_bodySF (plainFor_of_name own_pn0) hisR ?_
  intro p e s m args below meth c s₁ Bd hml0 hP hK
  obtain ⟨rfl, hZ, hh⟩ := hP
  have hx := Bd.exec
  have hby := Bd.bytes
  have hml : c.maxLocals = 1 := hml0
  have hown : s.vm.findClass "com/example/psyche/psyche/XmlChars" = some m.cls := findClass_of_methodNamed Bd.named
  have X0 : Stand p l e ({ frames := 0, cells := 0, slots := 0, locals := 0 } : Room) s m #[(.int p0)] below meth c s₁ [] 0 0 := Stand.of_body Bd
  have e0 : s₁.heap = h0 := by rw [← hh, Bd.state]; rfl
  have N0 := Fr.nil n0
  have pre0 : ∀ t, Steps p.tables e below (s₁.setTop (mkF m 0 #[.val (.int p0)] [])) t → Steps p.tables e below (s₁.setTop (entryFrame m #[(.int p0)] 1)) t := fun t k => castTop (own_ef1 m p0) k
  refine own_run (own_st pre0 ?_)
  obtain ⟨P, hP⟩ : ∃ P : State → Prop, P = (fun B => ∃ o, B.status = .running ∧ Ended B below o ∧ ∃ v L, o = .returned v ∧ own_Q1 Z p0 h0 n0 v B.heap L ∧ FrameEnd s o B L ({ frames := 0, cells := 0, slots := 0, locals := 0 } : Room).cells ({ frames := 0, cells := 0, slots := 0, locals := 0 } : Room).slots) := ⟨_, rfl⟩
  have nd208 : own_b (own_R1_0 p0) = own_b (own_R1_208 p0) → own_Lead p.tables e below (s₁.setTop (mkF m 208 #[.val (.int p0)] [])) P := by
    intro hV
    refine own_st (B := s₁.setTop (mkF m 209 #[.val (.int p0)] [(.int (0 : Int32))])) (fun target kt => ?_) ?_
    · show Steps p.tables e below (s₁.setTop (mkF m 208 #[.val (.int p0)] [])) target
      refine XS.iconst X0.here hx rfl (hb hby own_d1_208) ?_
      exact kt
    have hval : own_b (own_R1_0 p0) = (0 : Int32) := hV.trans (show (0 : Int32) = own_b (own_R1_208 p0) from (own_b0 (fun w => w)).symm).symm
    rw [hP]
    obtain ⟨fs, hr, hrun, hended, hW, hsame⟩ := X0.leave (v := some (.int (0 : Int32))) (fun h => by rw [Bd.returns] at h; cases h)
    have hend : Steps p.tables e below (s₁.setTop (mkF m 209 #[.val (.int p0)] [(.int (0 : Int32))])) (s₁.setFrames fs) := by
      exact retN X0 hx (t := .boolean) Bd.returns (by simp) (hb hby own_d1_209) hr
    refine own_fin hend ⟨_, hrun, hended, _, _, rfl, ?_, ⟨_, rfl⟩, hW, hsame.mono (by decide) (by decide)⟩
    show own_Q1 Z p0 h0 n0 _ s₁.heap _
    rw [e0]
    exact ⟨(congrArg (fun z => some (Value.int z)) hval).symm, N0, rfl⟩
  have nd204 : own_b (own_R1_0 p0) = own_b (own_R1_204 p0) → own_Lead p.tables e below (s₁.setTop (mkF m 204 #[.val (.int p0)] [])) P := by
    intro hV
    refine own_st (B := s₁.setTop (mkF m 209 #[.val (.int p0)] [(.int (1 : Int32))])) (fun target kt => ?_) ?_
    · show Steps p.tables e below (s₁.setTop (mkF m 204 #[.val (.int p0)] [])) target
      refine XS.iconst X0.here hx rfl (hb hby own_d1_204) ?_
      show Steps p.tables e below (s₁.setTop (mkF m 205 #[.val (.int p0)] [(.int (1 : Int32))])) target
      refine XS.goto X0.here hx rfl (pc0 := 205) (pc' := 209) rfl (hb hby own_d1_205) (by decide) (by decide) ?_
      exact kt
    have hval : own_b (own_R1_0 p0) = (1 : Int32) := hV.trans (show (1 : Int32) = own_b (own_R1_204 p0) from (own_b1 trivial).symm).symm
    rw [hP]
    obtain ⟨fs, hr, hrun, hended, hW, hsame⟩ := X0.leave (v := some (.int (1 : Int32))) (fun h => by rw [Bd.returns] at h; cases h)
    have hend : Steps p.tables e below (s₁.setTop (mkF m 209 #[.val (.int p0)] [(.int (1 : Int32))])) (s₁.setFrames fs) := by
      exact retN X0 hx (t := .boolean) Bd.returns (by simp) (hb hby own_d1_209) hr
    refine own_fin hend ⟨_, hrun, hended, _, _, rfl, ?_, ⟨_, rfl⟩, hW, hsame.mono (by decide) (by decide)⟩
    show own_Q1 Z p0 h0 n0 _ s₁.heap _
    rw [e0]
    exact ⟨(congrArg (fun z => some (Value.int z)) hval).symm, N0, rfl⟩
  have nd192 : own_b (own_R1_0 p0) = own_b (own_R1_192 p0) → own_Lead p.tables e below (s₁.setTop (mkF m 192 #[.val (.int p0)] [])) P := by
    intro hV
    refine own_st (B := s₁.setTop (mkF m 195 #[.val (.int p0)] [(.int (65536 : Int32)), (.int p0)])) (fun target kt => ?_) ?_
    · show Steps p.tables e below (s₁.setTop (mkF m 192 #[.val (.int p0)] [])) target
      refine XS.iloadN X0.here hx rfl (hb hby own_d1_192) rfl ?_
      show Steps p.tables e below (s₁.setTop (mkF m 193 #[.val (.int p0)] [(.int p0)])) target
      refine X0.ldcInt hx hown (mvT hZ (hw _ (List.mem_of_getElem? (i := 17) rfl))) (g := (mkF m 193 #[.val (.int p0)] [(.int p0)])) rfl (hb hby own_d1_193) _ ?_
      exact kt
    by_cases c195 : p0 < (65536 : Int32)
    · refine own_st (B := s₁.setTop (mkF m 208 #[.val (.int p0)] [])) (fun target kt => ?_) ?_
      · show Steps p.tables e below (s₁.setTop (mkF m 195 #[.val (.int p0)] [(.int (65536 : Int32)), (.int p0)])) target
        refine XS.icmpYes X0.here hx rfl (pc0 := 195) (pc' := 208) rfl (hb hby own_d1_195) rfl (tlt c195).1 (by decide) (by decide) ?_
        exact kt
      exact nd208 (hV.trans (own_bj rfl (fun q => (Or.inl ⟨c195, q⟩)) (fun q => (fun w => w.elim (fun u => q u.2) (fun u => u.1 c195)))).symm)
    · refine own_st (B := s₁.setTop (mkF m 201 #[.val (.int p0)] [(.int (983039 : Int32)), (.int p0)])) (fun target kt => ?_) ?_
      · show Steps p.tables e below (s₁.setTop (mkF m 195 #[.val (.int p0)] [(.int (65536 : Int32)), (.int p0)])) target
        refine XS.icmpNo X0.here hx rfl (hb hby own_d1_195) rfl (flt c195).1 ?_
        show Steps p.tables e below (s₁.setTop (mkF m 198 #[.val (.int p0)] [])) target
        refine XS.iloadN X0.here hx rfl (hb hby own_d1_198) rfl ?_
        show Steps p.tables e below (s₁.setTop (mkF m 199 #[.val (.int p0)] [(.int p0)])) target
        refine X0.ldcInt hx hown (mvT hZ (hw _ (List.mem_of_getElem? (i := 20) rfl))) (g := (mkF m 199 #[.val (.int p0)] [(.int p0)])) rfl (hb hby own_d1_199) _ ?_
        exact kt
      by_cases c201 : (983039 : Int32) < p0
      · refine own_st (B := s₁.setTop (mkF m 208 #[.val (.int p0)] [])) (fun target kt => ?_) ?_
        · show Steps p.tables e below (s₁.setTop (mkF m 201 #[.val (.int p0)] [(.int (983039 : Int32)), (.int p0)])) target
          refine XS.icmpYes X0.here hx rfl (pc0 := 201) (pc' := 208) rfl (hb hby own_d1_201) rfl (tlt c201).2.2.1 (by decide) (by decide) ?_
          exact kt
        exact nd208 (hV.trans (own_bj rfl (fun q => (Or.inr ⟨c195, (Or.inl ⟨c201, q⟩)⟩)) (fun q => (fun w => w.elim (fun u => c195 u.1) (fun u => (fun w => w.elim (fun u => q u.2) (fun u => u.1 c201)) u.2)))).symm)
      · refine own_st (B := s₁.setTop (mkF m 204 #[.val (.int p0)] [])) (fun target kt => ?_) ?_
        · show Steps p.tables e below (s₁.setTop (mkF m 201 #[.val (.int p0)] [(.int (983039 : Int32)), (.int p0)])) target
          refine XS.icmpNo X0.here hx rfl (hb hby own_d1_201) rfl (flt c201).2.2.1 ?_
          exact kt
        exact nd204 (hV.trans (own_bj rfl (fun q => (Or.inr ⟨c195, (Or.inr ⟨c201, q⟩)⟩)) (fun q => (fun w => w.elim (fun u => c195 u.1) (fun u => (fun w => w.elim (fun u => c201 u.1) (fun u => q u.2)) u.2)))).symm)
  have nd180 : own_b (own_R1_0 p0) = own_b (own_R1_180 p0) → own_Lead p.tables e below (s₁.setTop (mkF m 180 #[.val (.int p0)] [])) P := by
    intro hV
    refine own_st (B := s₁.setTop (mkF m 183 #[.val (.int p0)] [(.int (65008 : Int32)), (.int p0)])) (fun target kt => ?_) ?_
    · show Steps p.tables e below (s₁.setTop (mkF m 180 #[.val (.int p0)] [])) target
      refine XS.iloadN X0.here hx rfl (hb hby own_d1_180) rfl ?_
      show Steps p.tables e below (s₁.setTop (mkF m 181 #[.val (.int p0)] [(.int p0)])) target
      refine X0.ldcInt hx hown (mvT hZ (hw _ (List.mem_of_getElem? (i := 16) rfl))) (g := (mkF m 181 #[.val (.int p0)] [(.int p0)])) rfl (hb hby own_d1_181) _ ?_
      exact kt
    by_cases c183 : p0 < (65008 : Int32)
    · refine own_st (B := s₁.setTop (mkF m 192 #[.val (.int p0)] [])) (fun target kt => ?_) ?_
      · show Steps p.tables e below (s₁.setTop (mkF m 183 #[.val (.int p0)] [(.int (65008 : Int32)), (.int p0)])) target
        refine XS.icmpYes X0.here hx rfl (pc0 := 183) (pc' := 192) rfl (hb hby own_d1_183) rfl (tlt c183).1 (by decide) (by decide) ?_
        exact kt
      exact nd192 (hV.trans (own_bj rfl (fun q => (Or.inl ⟨c183, q⟩)) (fun q => (fun w => w.elim (fun u => q u.2) (fun u => u.1 c183)))).symm)
    · refine own_st (B := s₁.setTop (mkF m 189 #[.val (.int p0)] [(.int (65533 : Int32)), (.int p0)])) (fun target kt => ?_) ?_
      · show Steps p.tables e below (s₁.setTop (mkF m 183 #[.val (.int p0)] [(.int (65008 : Int32)), (.int p0)])) target
        refine XS.icmpNo X0.here hx rfl (hb hby own_d1_183) rfl (flt c183).1 ?_
        show Steps p.tables e below (s₁.setTop (mkF m 186 #[.val (.int p0)] [])) target
        refine XS.iloadN X0.here hx rfl (hb hby own_d1_186) rfl ?_
        show Steps p.tables e below (s₁.setTop (mkF m 187 #[.val (.int p0)] [(.int p0)])) target
        refine X0.ldcInt hx hown (mvT hZ (hw _ (List.mem_of_getElem? (i := 19) rfl))) (g := (mkF m 187 #[.val (.int p0)] [(.int p0)])) rfl (hb hby own_d1_187) _ ?_
        exact kt
      by_cases c189 : (65533 : Int32) < p0
      · refine own_st (B := s₁.setTop (mkF m 192 #[.val (.int p0)] [])) (fun target kt => ?_) ?_
        · show Steps p.tables e below (s₁.setTop (mkF m 189 #[.val (.int p0)] [(.int (65533 : Int32)), (.int p0)])) target
          refine XS.icmpNo X0.here hx rfl (hb hby own_d1_189) rfl (tlt c189).2.2.2 ?_
          exact kt
        exact nd192 (hV.trans (own_bj rfl (fun q => (Or.inr ⟨c183, (Or.inl ⟨c189, q⟩)⟩)) (fun q => (fun w => w.elim (fun u => c183 u.1) (fun u => (fun w => w.elim (fun u => q u.2) (fun u => u.1 c189)) u.2)))).symm)
      · refine own_st (B := s₁.setTop (mkF m 204 #[.val (.int p0)] [])) (fun target kt => ?_) ?_
        · show Steps p.tables e below (s₁.setTop (mkF m 189 #[.val (.int p0)] [(.int (65533 : Int32)), (.int p0)])) target
          refine XS.icmpYes X0.here hx rfl (pc0 := 189) (pc' := 204) rfl (hb hby own_d1_189) rfl (flt c189).2.2.2 (by decide) (by decide) ?_
          exact kt
        exact nd204 (hV.trans (own_bj rfl (fun q => (Or.inr ⟨c183, (Or.inr ⟨c189, q⟩)⟩)) (fun q => (fun w => w.elim (fun u => c183 u.1) (fun u => (fun w => w.elim (fun u => c189 u.1) (fun u => q u.2)) u.2)))).symm)
  have nd168 : own_b (own_R1_0 p0) = own_b (own_R1_168 p0) → own_Lead p.tables e below (s₁.setTop (mkF m 168 #[.val (.int p0)] [])) P := by
    intro hV
    refine own_st (B := s₁.setTop (mkF m 171 #[.val (.int p0)] [(.int (63744 : Int32)), (.int p0)])) (fun target kt => ?_) ?_
    · show Steps p.tables e below (s₁.setTop (mkF m 168 #[.val (.int p0)] [])) target
      refine XS.iloadN X0.here hx rfl (hb hby own_d1_168) rfl ?_
      show Steps p.tables e below (s₁.setTop (mkF m 169 #[.val (.int p0)] [(.int p0)])) target
      refine X0.ldcInt hx hown (mvT hZ (hw _ (List.mem_of_getElem? (i := 15) rfl))) (g := (mkF m 169 #[.val (.int p0)] [(.int p0)])) rfl (hb hby own_d1_169) _ ?_
      exact kt
    by_cases c171 : p0 < (63744 : Int32)
    · refine own_st (B := s₁.setTop (mkF m 180 #[.val (.int p0)] [])) (fun target kt => ?_) ?_
      · show Steps p.tables e below (s₁.setTop (mkF m 171 #[.val (.int p0)] [(.int (63744 : Int32)), (.int p0)])) target
        refine XS.icmpYes X0.here hx rfl (pc0 := 171) (pc' := 180) rfl (hb hby own_d1_171) rfl (tlt c171).1 (by decide) (by decide) ?_
        exact kt
      exact nd180 (hV.trans (own_bj rfl (fun q => (Or.inl ⟨c171, q⟩)) (fun q => (fun w => w.elim (fun u => q u.2) (fun u => u.1 c171)))).symm)
    · refine own_st (B := s₁.setTop (mkF m 177 #[.val (.int p0)] [(.int (64975 : Int32)), (.int p0)])) (fun target kt => ?_) ?_
      · show Steps p.tables e below (s₁.setTop (mkF m 171 #[.val (.int p0)] [(.int (63744 : Int32)), (.int p0)])) target
        refine XS.icmpNo X0.here hx rfl (hb hby own_d1_171) rfl (flt c171).1 ?_
        show Steps p.tables e below (s₁.setTop (mkF m 174 #[.val (.int p0)] [])) target
        refine XS.iloadN X0.here hx rfl (hb hby own_d1_174) rfl ?_
        show Steps p.tables e below (s₁.setTop (mkF m 175 #[.val (.int p0)] [(.int p0)])) target
        refine X0.ldcInt hx hown (mvT hZ (hw _ (List.mem_of_getElem? (i := 18) rfl))) (g := (mkF m 175 #[.val (.int p0)] [(.int p0)])) rfl (hb hby own_d1_175) _ ?_
        exact kt
      by_cases c177 : (64975 : Int32) < p0
      · refine own_st (B := s₁.setTop (mkF m 180 #[.val (.int p0)] [])) (fun target kt => ?_) ?_
        · show Steps p.tables e below (s₁.setTop (mkF m 177 #[.val (.int p0)] [(.int (64975 : Int32)), (.int p0)])) target
          refine XS.icmpNo X0.here hx rfl (hb hby own_d1_177) rfl (tlt c177).2.2.2 ?_
          exact kt
        exact nd180 (hV.trans (own_bj rfl (fun q => (Or.inr ⟨c171, (Or.inl ⟨c177, q⟩)⟩)) (fun q => (fun w => w.elim (fun u => c171 u.1) (fun u => (fun w => w.elim (fun u => q u.2) (fun u => u.1 c177)) u.2)))).symm)
      · refine own_st (B := s₁.setTop (mkF m 204 #[.val (.int p0)] [])) (fun target kt => ?_) ?_
        · show Steps p.tables e below (s₁.setTop (mkF m 177 #[.val (.int p0)] [(.int (64975 : Int32)), (.int p0)])) target
          refine XS.icmpYes X0.here hx rfl (pc0 := 177) (pc' := 204) rfl (hb hby own_d1_177) rfl (flt c177).2.2.2 (by decide) (by decide) ?_
          exact kt
        exact nd204 (hV.trans (own_bj rfl (fun q => (Or.inr ⟨c171, (Or.inr ⟨c177, q⟩)⟩)) (fun q => (fun w => w.elim (fun u => c171 u.1) (fun u => (fun w => w.elim (fun u => c177 u.1) (fun u => q u.2)) u.2)))).symm)
  have nd155 : own_b (own_R1_0 p0) = own_b (own_R1_155 p0) → own_Lead p.tables e below (s₁.setTop (mkF m 155 #[.val (.int p0)] [])) P := by
    intro hV
    refine own_st (B := s₁.setTop (mkF m 159 #[.val (.int p0)] [(.int (12289 : Int32)), (.int p0)])) (fun target kt => ?_) ?_
    · show Steps p.tables e below (s₁.setTop (mkF m 155 #[.val (.int p0)] [])) target
      refine XS.iloadN X0.here hx rfl (hb hby own_d1_155) rfl ?_
      show Steps p.tables e below (s₁.setTop (mkF m 156 #[.val (.int p0)] [(.int p0)])) target
      refine XS.sipush X0.here hx rfl (hb hby own_d1_156) ?_
      exact kt
    by_cases c159 : p0 < (12289 : Int32)
    · refine own_st (B := s₁.setTop (mkF m 168 #[.val (.int p0)] [])) (fun target kt => ?_) ?_
      · show Steps p.tables e below (s₁.setTop (mkF m 159 #[.val (.int p0)] [(.int (12289 : Int32)), (.int p0)])) target
        refine XS.icmpYes X0.here hx rfl (pc0 := 159) (pc' := 168) rfl (hb hby own_d1_159) rfl (tlt c159).1 (by decide) (by decide) ?_
        exact kt
      exact nd168 (hV.trans (own_bj rfl (fun q => (Or.inl ⟨c159, q⟩)) (fun q => (fun w => w.elim (fun u => q u.2) (fun u => u.1 c159)))).symm)
    · refine own_st (B := s₁.setTop (mkF m 165 #[.val (.int p0)] [(.int (55295 : Int32)), (.int p0)])) (fun target kt => ?_) ?_
      · show Steps p.tables e below (s₁.setTop (mkF m 159 #[.val (.int p0)] [(.int (12289 : Int32)), (.int p0)])) target
        refine XS.icmpNo X0.here hx rfl (hb hby own_d1_159) rfl (flt c159).1 ?_
        show Steps p.tables e below (s₁.setTop (mkF m 162 #[.val (.int p0)] [])) target
        refine XS.iloadN X0.here hx rfl (hb hby own_d1_162) rfl ?_
        show Steps p.tables e below (s₁.setTop (mkF m 163 #[.val (.int p0)] [(.int p0)])) target
        refine X0.ldcInt hx hown (mvT hZ (hw _ (List.mem_of_getElem? (i := 9) rfl))) (g := (mkF m 163 #[.val (.int p0)] [(.int p0)])) rfl (hb hby own_d1_163) _ ?_
        exact kt
      by_cases c165 : (55295 : Int32) < p0
      · refine own_st (B := s₁.setTop (mkF m 168 #[.val (.int p0)] [])) (fun target kt => ?_) ?_
        · show Steps p.tables e below (s₁.setTop (mkF m 165 #[.val (.int p0)] [(.int (55295 : Int32)), (.int p0)])) target
          refine XS.icmpNo X0.here hx rfl (hb hby own_d1_165) rfl (tlt c165).2.2.2 ?_
          exact kt
        exact nd168 (hV.trans (own_bj rfl (fun q => (Or.inr ⟨c159, (Or.inl ⟨c165, q⟩)⟩)) (fun q => (fun w => w.elim (fun u => c159 u.1) (fun u => (fun w => w.elim (fun u => q u.2) (fun u => u.1 c165)) u.2)))).symm)
      · refine own_st (B := s₁.setTop (mkF m 204 #[.val (.int p0)] [])) (fun target kt => ?_) ?_
        · show Steps p.tables e below (s₁.setTop (mkF m 165 #[.val (.int p0)] [(.int (55295 : Int32)), (.int p0)])) target
          refine XS.icmpYes X0.here hx rfl (pc0 := 165) (pc' := 204) rfl (hb hby own_d1_165) rfl (flt c165).2.2.2 (by decide) (by decide) ?_
          exact kt
        exact nd204 (hV.trans (own_bj rfl (fun q => (Or.inr ⟨c159, (Or.inr ⟨c165, q⟩)⟩)) (fun q => (fun w => w.elim (fun u => c159 u.1) (fun u => (fun w => w.elim (fun u => c165 u.1) (fun u => q u.2)) u.2)))).symm)
  have nd141 : own_b (own_R1_0 p0) = own_b (own_R1_141 p0) → own_Lead p.tables e below (s₁.setTop (mkF m 141 #[.val (.int p0)] [])) P := by
    intro hV
    refine own_st (B := s₁.setTop (mkF m 145 #[.val (.int p0)] [(.int (11264 : Int32)), (.int p0)])) (fun target kt => ?_) ?_
    · show Steps p.tables e below (s₁.setTop (mkF m 141 #[.val (.int p0)] [])) target
      refine XS.iloadN X0.here hx rfl (hb hby own_d1_141) rfl ?_
      show Steps p.tables e below (s₁.setTop (mkF m 142 #[.val (.int p0)] [(.int p0)])) target
      refine XS.sipush X0.here hx rfl (hb hby own_d1_142) ?_
      exact kt
    by_cases c145 : p0 < (11264 : Int32)
    · refine own_st (B := s₁.setTop (mkF m 155 #[.val (.int p0)] [])) (fun target kt => ?_) ?_
      · show Steps p.tables e below (s₁.setTop (mkF m 145 #[.val (.int p0)] [(.int (11264 : Int32)), (.int p0)])) target
        refine XS.icmpYes X0.here hx rfl (pc0 := 145) (pc' := 155) rfl (hb hby own_d1_145) rfl (tlt c145).1 (by decide) (by decide) ?_
        exact kt
      exact nd155 (hV.trans (own_bj rfl (fun q => (Or.inl ⟨c145, q⟩)) (fun q => (fun w => w.elim (fun u => q u.2) (fun u => u.1 c145)))).symm)
    · refine own_st (B := s₁.setTop (mkF m 152 #[.val (.int p0)] [(.int (12271 : Int32)), (.int p0)])) (fun target kt => ?_) ?_
      · show Steps p.tables e below (s₁.setTop (mkF m 145 #[.val (.int p0)] [(.int (11264 : Int32)), (.int p0)])) target
        refine XS.icmpNo X0.here hx rfl (hb hby own_d1_145) rfl (flt c145).1 ?_
        show Steps p.tables e below (s₁.setTop (mkF m 148 #[.val (.int p0)] [])) target
        refine XS.iloadN X0.here hx rfl (hb hby own_d1_148) rfl ?_
        show Steps p.tables e below (s₁.setTop (mkF m 149 #[.val (.int p0)] [(.int p0)])) target
        refine XS.sipush X0.here hx rfl (hb hby own_d1_149) ?_
        exact kt
      by_cases c152 : (12271 : Int32) < p0
      · refine own_st (B := s₁.setTop (mkF m 155 #[.val (.int p0)] [])) (fun target kt => ?_) ?_
        · show Steps p.tables e below (s₁.setTop (mkF m 152 #[.val (.int p0)] [(.int (12271 : Int32)), (.int p0)])) target
          refine XS.icmpNo X0.here hx rfl (hb hby own_d1_152) rfl (tlt c152).2.2.2 ?_
          exact kt
        exact nd155 (hV.trans (own_bj rfl (fun q => (Or.inr ⟨c145, (Or.inl ⟨c152, q⟩)⟩)) (fun q => (fun w => w.elim (fun u => c145 u.1) (fun u => (fun w => w.elim (fun u => q u.2) (fun u => u.1 c152)) u.2)))).symm)
      · refine own_st (B := s₁.setTop (mkF m 204 #[.val (.int p0)] [])) (fun target kt => ?_) ?_
        · show Steps p.tables e below (s₁.setTop (mkF m 152 #[.val (.int p0)] [(.int (12271 : Int32)), (.int p0)])) target
          refine XS.icmpYes X0.here hx rfl (pc0 := 152) (pc' := 204) rfl (hb hby own_d1_152) rfl (flt c152).2.2.2 (by decide) (by decide) ?_
          exact kt
        exact nd204 (hV.trans (own_bj rfl (fun q => (Or.inr ⟨c145, (Or.inr ⟨c152, q⟩)⟩)) (fun q => (fun w => w.elim (fun u => c145 u.1) (fun u => (fun w => w.elim (fun u => c152 u.1) (fun u => q u.2)) u.2)))).symm)
  have nd113 : own_b (own_R1_0 p0) = own_b (own_R1_113 p0) → own_Lead p.tables e below (s₁.setTop (mkF m 113 #[.val (.int p0)] [])) P := by
    intro hV
    refine own_st (B := s₁.setTop (mkF m 117 #[.val (.int p0)] [(.int (8204 : Int32)), (.int p0)])) (fun target kt => ?_) ?_
    · show Steps p.tables e below (s₁.setTop (mkF m 113 #[.val (.int p0)] [])) target
      refine XS.iloadN X0.here hx rfl (hb hby own_d1_113) rfl ?_
      show Steps p.tables e below (s₁.setTop (mkF m 114 #[.val (.int p0)] [(.int p0)])) target
      refine XS.sipush X0.here hx rfl (hb hby own_d1_114) ?_
      exact kt
    by_cases c117 : p0 = (8204 : Int32)
    · refine own_st (B := s₁.setTop (mkF m 204 #[.val (.int p0)] [])) (fun target kt => ?_) ?_
      · show Steps p.tables e below (s₁.setTop (mkF m 117 #[.val (.int p0)] [(.int (8204 : Int32)), (.int p0)])) target
        refine XS.icmpYes X0.here hx rfl (pc0 := 117) (pc' := 204) rfl (hb hby own_d1_117) rfl (teq c117).1 (by decide) (by decide) ?_
        exact kt
      exact nd204 (hV.trans (own_bj rfl (fun q => (Or.inl ⟨c117, q⟩)) (fun q => (fun w => w.elim (fun u => q u.2) (fun u => u.1 c117)))).symm)
    · refine own_st (B := s₁.setTop (mkF m 124 #[.val (.int p0)] [(.int (8205 : Int32)), (.int p0)])) (fun target kt => ?_) ?_
      · show Steps p.tables e below (s₁.setTop (mkF m 117 #[.val (.int p0)] [(.int (8204 : Int32)), (.int p0)])) target
        refine XS.icmpNo X0.here hx rfl (hb hby own_d1_117) rfl (feq c117).1 ?_
        show Steps p.tables e below (s₁.setTop (mkF m 120 #[.val (.int p0)] [])) target
        refine XS.iloadN X0.here hx rfl (hb hby own_d1_120) rfl ?_
        show Steps p.tables e below (s₁.setTop (mkF m 121 #[.val (.int p0)] [(.int p0)])) target
        refine XS.sipush X0.here hx rfl (hb hby own_d1_121) ?_
        exact kt
      by_cases c124 : p0 = (8205 : Int32)
      · refine own_st (B := s₁.setTop (mkF m 204 #[.val (.int p0)] [])) (fun target kt => ?_) ?_
        · show Steps p.tables e below (s₁.setTop (mkF m 124 #[.val (.int p0)] [(.int (8205 : Int32)), (.int p0)])) target
          refine XS.icmpYes X0.here hx rfl (pc0 := 124) (pc' := 204) rfl (hb hby own_d1_124) rfl (teq c124).1 (by decide) (by decide) ?_
          exact kt
        exact nd204 (hV.trans (own_bj rfl (fun q => (Or.inr ⟨c117, (Or.inl ⟨c124, q⟩)⟩)) (fun q => (fun w => w.elim (fun u => c117 u.1) (fun u => (fun w => w.elim (fun u => q u.2) (fun u => u.1 c124)) u.2)))).symm)
      · refine own_st (B := s₁.setTop (mkF m 131 #[.val (.int p0)] [(.int (8304 : Int32)), (.int p0)])) (fun target kt => ?_) ?_
        · show Steps p.tables e below (s₁.setTop (mkF m 124 #[.val (.int p0)] [(.int (8205 : Int32)), (.int p0)])) target
          refine XS.icmpNo X0.here hx rfl (hb hby own_d1_124) rfl (feq c124).1 ?_
          show Steps p.tables e below (s₁.setTop (mkF m 127 #[.val (.int p0)] [])) target
          refine XS.iloadN X0.here hx rfl (hb hby own_d1_127) rfl ?_
          show Steps p.tables e below (s₁.setTop (mkF m 128 #[.val (.int p0)] [(.int p0)])) target
          refine XS.sipush X0.here hx rfl (hb hby own_d1_128) ?_
          exact kt
        by_cases c131 : p0 < (8304 : Int32)
        · refine own_st (B := s₁.setTop (mkF m 141 #[.val (.int p0)] [])) (fun target kt => ?_) ?_
          · show Steps p.tables e below (s₁.setTop (mkF m 131 #[.val (.int p0)] [(.int (8304 : Int32)), (.int p0)])) target
            refine XS.icmpYes X0.here hx rfl (pc0 := 131) (pc' := 141) rfl (hb hby own_d1_131) rfl (tlt c131).1 (by decide) (by decide) ?_
            exact kt
          exact nd141 (hV.trans (own_bj rfl (fun q => (Or.inr ⟨c117, (Or.inr ⟨c124, (Or.inl ⟨c131, q⟩)⟩)⟩)) (fun q => (fun w => w.elim (fun u => c117 u.1) (fun u => (fun w => w.elim (fun u => c124 u.1) (fun u => (fun w => w.elim (fun u => q u.2) (fun u => u.1 c131)) u.2)) u.2)))).symm)
        · refine own_st (B := s₁.setTop (mkF m 138 #[.val (.int p0)] [(.int (8591 : Int32)), (.int p0)])) (fun target kt => ?_) ?_
          · show Steps p.tables e below (s₁.setTop (mkF m 131 #[.val (.int p0)] [(.int (8304 : Int32)), (.int p0)])) target
            refine XS.icmpNo X0.here hx rfl (hb hby own_d1_131) rfl (flt c131).1 ?_
            show Steps p.tables e below (s₁.setTop (mkF m 134 #[.val (.int p0)] [])) target
            refine XS.iloadN X0.here hx rfl (hb hby own_d1_134) rfl ?_
            show Steps p.tables e below (s₁.setTop (mkF m 135 #[.val (.int p0)] [(.int p0)])) target
            refine XS.sipush X0.here hx rfl (hb hby own_d1_135) ?_
            exact kt
          by_cases c138 : (8591 : Int32) < p0
          · refine own_st (B := s₁.setTop (mkF m 141 #[.val (.int p0)] [])) (fun target kt => ?_) ?_
            · show Steps p.tables e below (s₁.setTop (mkF m 138 #[.val (.int p0)] [(.int (8591 : Int32)), (.int p0)])) target
              refine XS.icmpNo X0.here hx rfl (hb hby own_d1_138) rfl (tlt c138).2.2.2 ?_
              exact kt
            exact nd141 (hV.trans (own_bj rfl (fun q => (Or.inr ⟨c117, (Or.inr ⟨c124, (Or.inr ⟨c131, (Or.inl ⟨c138, q⟩)⟩)⟩)⟩)) (fun q => (fun w => w.elim (fun u => c117 u.1) (fun u => (fun w => w.elim (fun u => c124 u.1) (fun u => (fun w => w.elim (fun u => c131 u.1) (fun u => (fun w => w.elim (fun u => q u.2) (fun u => u.1 c138)) u.2)) u.2)) u.2)))).symm)
          · refine own_st (B := s₁.setTop (mkF m 204 #[.val (.int p0)] [])) (fun target kt => ?_) ?_
            · show Steps p.tables e below (s₁.setTop (mkF m 138 #[.val (.int p0)] [(.int (8591 : Int32)), (.int p0)])) target
              refine XS.icmpYes X0.here hx rfl (pc0 := 138) (pc' := 204) rfl (hb hby own_d1_138) rfl (flt c138).2.2.2 (by decide) (by decide) ?_
              exact kt
            exact nd204 (hV.trans (own_bj rfl (fun q => (Or.inr ⟨c117, (Or.inr ⟨c124, (Or.inr ⟨c131, (Or.inr ⟨c138, q⟩)⟩)⟩)⟩)) (fun q => (fun w => w.elim (fun u => c117 u.1) (fun u => (fun w => w.elim (fun u => c124 u.1) (fun u => (fun w => w.elim (fun u => c131 u.1) (fun u => (fun w => w.elim (fun u => c138 u.1) (fun u => q u.2)) u.2)) u.2)) u.2)))).symm)
  have nd99 : own_b (own_R1_0 p0) = own_b (own_R1_99 p0) → own_Lead p.tables e below (s₁.setTop (mkF m 99 #[.val (.int p0)] [])) P := by
    intro hV
    refine own_st (B := s₁.setTop (mkF m 103 #[.val (.int p0)] [(.int (895 : Int32)), (.int p0)])) (fun target kt => ?_) ?_
    · show Steps p.tables e below (s₁.setTop (mkF m 99 #[.val (.int p0)] [])) target
      refine XS.iloadN X0.here hx rfl (hb hby own_d1_99) rfl ?_
      show Steps p.tables e below (s₁.setTop (mkF m 100 #[.val (.int p0)] [(.int p0)])) target
      refine XS.sipush X0.here hx rfl (hb hby own_d1_100) ?_
      exact kt
    by_cases c103 : p0 < (895 : Int32)
    · refine own_st (B := s₁.setTop (mkF m 113 #[.val (.int p0)] [])) (fun target kt => ?_) ?_
      · show Steps p.tables e below (s₁.setTop (mkF m 103 #[.val (.int p0)] [(.int (895 : Int32)), (.int p0)])) target
        refine XS.icmpYes X0.here hx rfl (pc0 := 103) (pc' := 113) rfl (hb hby own_d1_103) rfl (tlt c103).1 (by decide) (by decide) ?_
        exact kt
      exact nd113 (hV.trans (own_bj rfl (fun q => (Or.inl ⟨c103, q⟩)) (fun q => (fun w => w.elim (fun u => q u.2) (fun u => u.1 c103)))).symm)
    · refine own_st (B := s₁.setTop (mkF m 110 #[.val (.int p0)] [(.int (8191 : Int32)), (.int p0)])) (fun target kt => ?_) ?_
      · show Steps p.tables e below (s₁.setTop (mkF m 103 #[.val (.int p0)] [(.int (895 : Int32)), (.int p0)])) target
        refine XS.icmpNo X0.here hx rfl (hb hby own_d1_103) rfl (flt c103).1 ?_
        show Steps p.tables e below (s₁.setTop (mkF m 106 #[.val (.int p0)] [])) target
        refine XS.iloadN X0.here hx rfl (hb hby own_d1_106) rfl ?_
        show Steps p.tables e below (s₁.setTop (mkF m 107 #[.val (.int p0)] [(.int p0)])) target
        refine XS.sipush X0.here hx rfl (hb hby own_d1_107) ?_
        exact kt
      by_cases c110 : (8191 : Int32) < p0
      · refine own_st (B := s₁.setTop (mkF m 113 #[.val (.int p0)] [])) (fun target kt => ?_) ?_
        · show Steps p.tables e below (s₁.setTop (mkF m 110 #[.val (.int p0)] [(.int (8191 : Int32)), (.int p0)])) target
          refine XS.icmpNo X0.here hx rfl (hb hby own_d1_110) rfl (tlt c110).2.2.2 ?_
          exact kt
        exact nd113 (hV.trans (own_bj rfl (fun q => (Or.inr ⟨c103, (Or.inl ⟨c110, q⟩)⟩)) (fun q => (fun w => w.elim (fun u => c103 u.1) (fun u => (fun w => w.elim (fun u => q u.2) (fun u => u.1 c110)) u.2)))).symm)
      · refine own_st (B := s₁.setTop (mkF m 204 #[.val (.int p0)] [])) (fun target kt => ?_) ?_
        · show Steps p.tables e below (s₁.setTop (mkF m 110 #[.val (.int p0)] [(.int (8191 : Int32)), (.int p0)])) target
          refine XS.icmpYes X0.here hx rfl (pc0 := 110) (pc' := 204) rfl (hb hby own_d1_110) rfl (flt c110).2.2.2 (by decide) (by decide) ?_
          exact kt
        exact nd204 (hV.trans (own_bj rfl (fun q => (Or.inr ⟨c103, (Or.inr ⟨c110, q⟩)⟩)) (fun q => (fun w => w.elim (fun u => c103 u.1) (fun u => (fun w => w.elim (fun u => c110 u.1) (fun u => q u.2)) u.2)))).symm)
  have nd85 : own_b (own_R1_0 p0) = own_b (own_R1_85 p0) → own_Lead p.tables e below (s₁.setTop (mkF m 85 #[.val (.int p0)] [])) P := by
    intro hV
    refine own_st (B := s₁.setTop (mkF m 89 #[.val (.int p0)] [(.int (880 : Int32)), (.int p0)])) (fun target kt => ?_) ?_
    · show Steps p.tables e below (s₁.setTop (mkF m 85 #[.val (.int p0)] [])) target
      refine XS.iloadN X0.here hx rfl (hb hby own_d1_85) rfl ?_
      show Steps p.tables e below (s₁.setTop (mkF m 86 #[.val (.int p0)] [(.int p0)])) target
      refine XS.sipush X0.here hx rfl (hb hby own_d1_86) ?_
      exact kt
    by_cases c89 : p0 < (880 : Int32)
    · refine own_st (B := s₁.setTop (mkF m 99 #[.val (.int p0)] [])) (fun target kt => ?_) ?_
      · show Steps p.tables e below (s₁.setTop (mkF m 89 #[.val (.int p0)] [(.int (880 : Int32)), (.int p0)])) target
        refine XS.icmpYes X0.here hx rfl (pc0 := 89) (pc' := 99) rfl (hb hby own_d1_89) rfl (tlt c89).1 (by decide) (by decide) ?_
        exact kt
      exact nd99 (hV.trans (own_bj rfl (fun q => (Or.inl ⟨c89, q⟩)) (fun q => (fun w => w.elim (fun u => q u.2) (fun u => u.1 c89)))).symm)
    · refine own_st (B := s₁.setTop (mkF m 96 #[.val (.int p0)] [(.int (893 : Int32)), (.int p0)])) (fun target kt => ?_) ?_
      · show Steps p.tables e below (s₁.setTop (mkF m 89 #[.val (.int p0)] [(.int (880 : Int32)), (.int p0)])) target
        refine XS.icmpNo X0.here hx rfl (hb hby own_d1_89) rfl (flt c89).1 ?_
        show Steps p.tables e below (s₁.setTop (mkF m 92 #[.val (.int p0)] [])) target
        refine XS.iloadN X0.here hx rfl (hb hby own_d1_92) rfl ?_
        show Steps p.tables e below (s₁.setTop (mkF m 93 #[.val (.int p0)] [(.int p0)])) target
        refine XS.sipush X0.here hx rfl (hb hby own_d1_93) ?_
        exact kt
      by_cases c96 : (893 : Int32) < p0
      · refine own_st (B := s₁.setTop (mkF m 99 #[.val (.int p0)] [])) (fun target kt => ?_) ?_
        · show Steps p.tables e below (s₁.setTop (mkF m 96 #[.val (.int p0)] [(.int (893 : Int32)), (.int p0)])) target
          refine XS.icmpNo X0.here hx rfl (hb hby own_d1_96) rfl (tlt c96).2.2.2 ?_
          exact kt
        exact nd99 (hV.trans (own_bj rfl (fun q => (Or.inr ⟨c89, (Or.inl ⟨c96, q⟩)⟩)) (fun q => (fun w => w.elim (fun u => c89 u.1) (fun u => (fun w => w.elim (fun u => q u.2) (fun u => u.1 c96)) u.2)))).symm)
      · refine own_st (B := s₁.setTop (mkF m 204 #[.val (.int p0)] [])) (fun target kt => ?_) ?_
        · show Steps p.tables e below (s₁.setTop (mkF m 96 #[.val (.int p0)] [(.int (893 : Int32)), (.int p0)])) target
          refine XS.icmpYes X0.here hx rfl (pc0 := 96) (pc' := 204) rfl (hb hby own_d1_96) rfl (flt c96).2.2.2 (by decide) (by decide) ?_
          exact kt
        exact nd204 (hV.trans (own_bj rfl (fun q => (Or.inr ⟨c89, (Or.inr ⟨c96, q⟩)⟩)) (fun q => (fun w => w.elim (fun u => c89 u.1) (fun u => (fun w => w.elim (fun u => c96 u.1) (fun u => q u.2)) u.2)))).symm)
  have nd71 : own_b (own_R1_0 p0) = own_b (own_R1_71 p0) → own_Lead p.tables e below (s₁.setTop (mkF m 71 #[.val (.int p0)] [])) P := by
    intro hV
    refine own_st (B := s₁.setTop (mkF m 75 #[.val (.int p0)] [(.int (248 : Int32)), (.int p0)])) (fun target kt => ?_) ?_
    · show Steps p.tables e below (s₁.setTop (mkF m 71 #[.val (.int p0)] [])) target
      refine XS.iloadN X0.here hx rfl (hb hby own_d1_71) rfl ?_
      show Steps p.tables e below (s₁.setTop (mkF m 72 #[.val (.int p0)] [(.int p0)])) target
      refine XS.sipush X0.here hx rfl (hb hby own_d1_72) ?_
      exact kt
    by_cases c75 : p0 < (248 : Int32)
    · refine own_st (B := s₁.setTop (mkF m 85 #[.val (.int p0)] [])) (fun target kt => ?_) ?_
      · show Steps p.tables e below (s₁.setTop (mkF m 75 #[.val (.int p0)] [(.int (248 : Int32)), (.int p0)])) target
        refine XS.icmpYes X0.here hx rfl (pc0 := 75) (pc' := 85) rfl (hb hby own_d1_75) rfl (tlt c75).1 (by decide) (by decide) ?_
        exact kt
      exact nd85 (hV.trans (own_bj rfl (fun q => (Or.inl ⟨c75, q⟩)) (fun q => (fun w => w.elim (fun u => q u.2) (fun u => u.1 c75)))).symm)
    · refine own_st (B := s₁.setTop (mkF m 82 #[.val (.int p0)] [(.int (767 : Int32)), (.int p0)])) (fun target kt => ?_) ?_
      · show Steps p.tables e below (s₁.setTop (mkF m 75 #[.val (.int p0)] [(.int (248 : Int32)), (.int p0)])) target
        refine XS.icmpNo X0.here hx rfl (hb hby own_d1_75) rfl (flt c75).1 ?_
        show Steps p.tables e below (s₁.setTop (mkF m 78 #[.val (.int p0)] [])) target
        refine XS.iloadN X0.here hx rfl (hb hby own_d1_78) rfl ?_
        show Steps p.tables e below (s₁.setTop (mkF m 79 #[.val (.int p0)] [(.int p0)])) target
        refine XS.sipush X0.here hx rfl (hb hby own_d1_79) ?_
        exact kt
      by_cases c82 : (767 : Int32) < p0
      · refine own_st (B := s₁.setTop (mkF m 85 #[.val (.int p0)] [])) (fun target kt => ?_) ?_
        · show Steps p.tables e below (s₁.setTop (mkF m 82 #[.val (.int p0)] [(.int (767 : Int32)), (.int p0)])) target
          refine XS.icmpNo X0.here hx rfl (hb hby own_d1_82) rfl (tlt c82).2.2.2 ?_
          exact kt
        exact nd85 (hV.trans (own_bj rfl (fun q => (Or.inr ⟨c75, (Or.inl ⟨c82, q⟩)⟩)) (fun q => (fun w => w.elim (fun u => c75 u.1) (fun u => (fun w => w.elim (fun u => q u.2) (fun u => u.1 c82)) u.2)))).symm)
      · refine own_st (B := s₁.setTop (mkF m 204 #[.val (.int p0)] [])) (fun target kt => ?_) ?_
        · show Steps p.tables e below (s₁.setTop (mkF m 82 #[.val (.int p0)] [(.int (767 : Int32)), (.int p0)])) target
          refine XS.icmpYes X0.here hx rfl (pc0 := 82) (pc' := 204) rfl (hb hby own_d1_82) rfl (flt c82).2.2.2 (by decide) (by decide) ?_
          exact kt
        exact nd204 (hV.trans (own_bj rfl (fun q => (Or.inr ⟨c75, (Or.inr ⟨c82, q⟩)⟩)) (fun q => (fun w => w.elim (fun u => c75 u.1) (fun u => (fun w => w.elim (fun u => c82 u.1) (fun u => q u.2)) u.2)))).symm)
  have nd57 : own_b (own_R1_0 p0) = own_b (own_R1_57 p0) → own_Lead p.tables e below (s₁.setTop (mkF m 57 #[.val (.int p0)] [])) P := by
    intro hV
    refine own_st (B := s₁.setTop (mkF m 61 #[.val (.int p0)] [(.int (216 : Int32)), (.int p0)])) (fun target kt => ?_) ?_
    · show Steps p.tables e below (s₁.setTop (mkF m 57 #[.val (.int p0)] [])) target
      refine XS.iloadN X0.here hx rfl (hb hby own_d1_57) rfl ?_
      show Steps p.tables e below (s₁.setTop (mkF m 58 #[.val (.int p0)] [(.int p0)])) target
      refine XS.sipush X0.here hx rfl (hb hby own_d1_58) ?_
      exact kt
    by_cases c61 : p0 < (216 : Int32)
    · refine own_st (B := s₁.setTop (mkF m 71 #[.val (.int p0)] [])) (fun target kt => ?_) ?_
      · show Steps p.tables e below (s₁.setTop (mkF m 61 #[.val (.int p0)] [(.int (216 : Int32)), (.int p0)])) target
        refine XS.icmpYes X0.here hx rfl (pc0 := 61) (pc' := 71) rfl (hb hby own_d1_61) rfl (tlt c61).1 (by decide) (by decide) ?_
        exact kt
      exact nd71 (hV.trans (own_bj rfl (fun q => (Or.inl ⟨c61, q⟩)) (fun q => (fun w => w.elim (fun u => q u.2) (fun u => u.1 c61)))).symm)
    · refine own_st (B := s₁.setTop (mkF m 68 #[.val (.int p0)] [(.int (246 : Int32)), (.int p0)])) (fun target kt => ?_) ?_
      · show Steps p.tables e below (s₁.setTop (mkF m 61 #[.val (.int p0)] [(.int (216 : Int32)), (.int p0)])) target
        refine XS.icmpNo X0.here hx rfl (hb hby own_d1_61) rfl (flt c61).1 ?_
        show Steps p.tables e below (s₁.setTop (mkF m 64 #[.val (.int p0)] [])) target
        refine XS.iloadN X0.here hx rfl (hb hby own_d1_64) rfl ?_
        show Steps p.tables e below (s₁.setTop (mkF m 65 #[.val (.int p0)] [(.int p0)])) target
        refine XS.sipush X0.here hx rfl (hb hby own_d1_65) ?_
        exact kt
      by_cases c68 : (246 : Int32) < p0
      · refine own_st (B := s₁.setTop (mkF m 71 #[.val (.int p0)] [])) (fun target kt => ?_) ?_
        · show Steps p.tables e below (s₁.setTop (mkF m 68 #[.val (.int p0)] [(.int (246 : Int32)), (.int p0)])) target
          refine XS.icmpNo X0.here hx rfl (hb hby own_d1_68) rfl (tlt c68).2.2.2 ?_
          exact kt
        exact nd71 (hV.trans (own_bj rfl (fun q => (Or.inr ⟨c61, (Or.inl ⟨c68, q⟩)⟩)) (fun q => (fun w => w.elim (fun u => c61 u.1) (fun u => (fun w => w.elim (fun u => q u.2) (fun u => u.1 c68)) u.2)))).symm)
      · refine own_st (B := s₁.setTop (mkF m 204 #[.val (.int p0)] [])) (fun target kt => ?_) ?_
        · show Steps p.tables e below (s₁.setTop (mkF m 68 #[.val (.int p0)] [(.int (246 : Int32)), (.int p0)])) target
          refine XS.icmpYes X0.here hx rfl (pc0 := 68) (pc' := 204) rfl (hb hby own_d1_68) rfl (flt c68).2.2.2 (by decide) (by decide) ?_
          exact kt
        exact nd204 (hV.trans (own_bj rfl (fun q => (Or.inr ⟨c61, (Or.inr ⟨c68, q⟩)⟩)) (fun q => (fun w => w.elim (fun u => c61 u.1) (fun u => (fun w => w.elim (fun u => c68 u.1) (fun u => q u.2)) u.2)))).symm)
  have nd37 : own_b (own_R1_0 p0) = own_b (own_R1_37 p0) → own_Lead p.tables e below (s₁.setTop (mkF m 37 #[.val (.int p0)] [])) P := by
    intro hV
    refine own_st (B := s₁.setTop (mkF m 42 #[.val (.int p0)] [(.int (1 : Int32))])) (fun target kt => ?_) ?_
    · show Steps p.tables e below (s₁.setTop (mkF m 37 #[.val (.int p0)] [])) target
      refine XS.iconst X0.here hx rfl (hb hby own_d1_37) ?_
      show Steps p.tables e below (s₁.setTop (mkF m 38 #[.val (.int p0)] [(.int (1 : Int32))])) target
      refine XS.goto X0.here hx rfl (pc0 := 38) (pc' := 42) rfl (hb hby own_d1_38) (by decide) (by decide) ?_
      exact kt
    have hval : own_b (own_R1_0 p0) = (1 : Int32) := hV.trans (show (1 : Int32) = own_b (own_R1_37 p0) from (own_b1 trivial).symm).symm
    rw [hP]
    obtain ⟨fs, hr, hrun, hended, hW, hsame⟩ := X0.leave (v := some (.int (1 : Int32))) (fun h => by rw [Bd.returns] at h; cases h)
    have hend : Steps p.tables e below (s₁.setTop (mkF m 42 #[.val (.int p0)] [(.int (1 : Int32))])) (s₁.setFrames fs) := by
      exact retN X0 hx (t := .boolean) Bd.returns (by simp) (hb hby own_d1_42) hr
    refine own_fin hend ⟨_, hrun, hended, _, _, rfl, ?_, ⟨_, rfl⟩, hW, hsame.mono (by decide) (by decide)⟩
    show own_Q1 Z p0 h0 n0 _ s₁.heap _
    rw [e0]
    exact ⟨(congrArg (fun z => some (Value.int z)) hval).symm, N0, rfl⟩
  have nd31 : own_b (own_R1_0 p0) = own_b (own_R1_31 p0) → own_Lead p.tables e below (s₁.setTop (mkF m 31 #[.val (.int p0)] [])) P := by
    intro hV
    refine own_st (B := s₁.setTop (mkF m 34 #[.val (.int p0)] [(.int (95 : Int32)), (.int p0)])) (fun target kt => ?_) ?_
    · show Steps p.tables e below (s₁.setTop (mkF m 31 #[.val (.int p0)] [])) target
      refine XS.iloadN X0.here hx rfl (hb hby own_d1_31) rfl ?_
      show Steps p.tables e below (s₁.setTop (mkF m 32 #[.val (.int p0)] [(.int p0)])) target
      refine XS.bipush X0.here hx rfl (hb hby own_d1_32) ?_
      exact kt
    by_cases c34 : p0 = (95 : Int32)
    · refine own_st (B := s₁.setTop (mkF m 37 #[.val (.int p0)] [])) (fun target kt => ?_) ?_
      · show Steps p.tables e below (s₁.setTop (mkF m 34 #[.val (.int p0)] [(.int (95 : Int32)), (.int p0)])) target
        refine XS.icmpNo X0.here hx rfl (hb hby own_d1_34) rfl (teq c34).2 ?_
        exact kt
      exact nd37 (hV.trans (own_bj rfl (fun q => ⟨c34, q⟩) (fun q => (fun w => q w.2))).symm)
    · refine own_st (B := s₁.setTop (mkF m 42 #[.val (.int p0)] [(.int (0 : Int32))])) (fun target kt => ?_) ?_
      · show Steps p.tables e below (s₁.setTop (mkF m 34 #[.val (.int p0)] [(.int (95 : Int32)), (.int p0)])) target
        refine XS.icmpYes X0.here hx rfl (pc0 := 34) (pc' := 41) rfl (hb hby own_d1_34) rfl (feq c34).2 (by decide) (by decide) ?_
        show Steps p.tables e below (s₁.setTop (mkF m 41 #[.val (.int p0)] [])) target
        refine XS.iconst X0.here hx rfl (hb hby own_d1_41) ?_
        exact kt
      have hval : own_b (own_R1_0 p0) = (0 : Int32) := hV.trans (show (0 : Int32) = own_b (own_R1_31 p0) from (own_b0 (fun w => c34 w.1)).symm).symm
      rw [hP]
      obtain ⟨fs, hr, hrun, hended, hW, hsame⟩ := X0.leave (v := some (.int (0 : Int32))) (fun h => by rw [Bd.returns] at h; cases h)
      have hend : Steps p.tables e below (s₁.setTop (mkF m 42 #[.val (.int p0)] [(.int (0 : Int32))])) (s₁.setFrames fs) := by
        exact retN X0 hx (t := .boolean) Bd.returns (by simp) (hb hby own_d1_42) hr
      refine own_fin hend ⟨_, hrun, hended, _, _, rfl, ?_, ⟨_, rfl⟩, hW, hsame.mono (by decide) (by decide)⟩
      show own_Q1 Z p0 h0 n0 _ s₁.heap _
      rw [e0]
      exact ⟨(congrArg (fun z => some (Value.int z)) hval).symm, N0, rfl⟩
  have nd19 : own_b (own_R1_0 p0) = own_b (own_R1_19 p0) → own_Lead p.tables e below (s₁.setTop (mkF m 19 #[.val (.int p0)] [])) P := by
    intro hV
    refine own_st (B := s₁.setTop (mkF m 22 #[.val (.int p0)] [(.int (65 : Int32)), (.int p0)])) (fun target kt => ?_) ?_
    · show Steps p.tables e below (s₁.setTop (mkF m 19 #[.val (.int p0)] [])) target
      refine XS.iloadN X0.here hx rfl (hb hby own_d1_19) rfl ?_
      show Steps p.tables e below (s₁.setTop (mkF m 20 #[.val (.int p0)] [(.int p0)])) target
      refine XS.bipush X0.here hx rfl (hb hby own_d1_20) ?_
      exact kt
    by_cases c22 : p0 < (65 : Int32)
    · refine own_st (B := s₁.setTop (mkF m 31 #[.val (.int p0)] [])) (fun target kt => ?_) ?_
      · show Steps p.tables e below (s₁.setTop (mkF m 22 #[.val (.int p0)] [(.int (65 : Int32)), (.int p0)])) target
        refine XS.icmpYes X0.here hx rfl (pc0 := 22) (pc' := 31) rfl (hb hby own_d1_22) rfl (tlt c22).1 (by decide) (by decide) ?_
        exact kt
      exact nd31 (hV.trans (own_bj rfl (fun q => (Or.inl ⟨c22, q⟩)) (fun q => (fun w => w.elim (fun u => q u.2) (fun u => u.1 c22)))).symm)
    · refine own_st (B := s₁.setTop (mkF m 28 #[.val (.int p0)] [(.int (90 : Int32)), (.int p0)])) (fun target kt => ?_) ?_
      · show Steps p.tables e below (s₁.setTop (mkF m 22 #[.val (.int p0)] [(.int (65 : Int32)), (.int p0)])) target
        refine XS.icmpNo X0.here hx rfl (hb hby own_d1_22) rfl (flt c22).1 ?_
        show Steps p.tables e below (s₁.setTop (mkF m 25 #[.val (.int p0)] [])) target
        refine XS.iloadN X0.here hx rfl (hb hby own_d1_25) rfl ?_
        show Steps p.tables e below (s₁.setTop (mkF m 26 #[.val (.int p0)] [(.int p0)])) target
        refine XS.bipush X0.here hx rfl (hb hby own_d1_26) ?_
        exact kt
      by_cases c28 : (90 : Int32) < p0
      · refine own_st (B := s₁.setTop (mkF m 31 #[.val (.int p0)] [])) (fun target kt => ?_) ?_
        · show Steps p.tables e below (s₁.setTop (mkF m 28 #[.val (.int p0)] [(.int (90 : Int32)), (.int p0)])) target
          refine XS.icmpNo X0.here hx rfl (hb hby own_d1_28) rfl (tlt c28).2.2.2 ?_
          exact kt
        exact nd31 (hV.trans (own_bj rfl (fun q => (Or.inr ⟨c22, (Or.inl ⟨c28, q⟩)⟩)) (fun q => (fun w => w.elim (fun u => c22 u.1) (fun u => (fun w => w.elim (fun u => q u.2) (fun u => u.1 c28)) u.2)))).symm)
      · refine own_st (B := s₁.setTop (mkF m 37 #[.val (.int p0)] [])) (fun target kt => ?_) ?_
        · show Steps p.tables e below (s₁.setTop (mkF m 28 #[.val (.int p0)] [(.int (90 : Int32)), (.int p0)])) target
          refine XS.icmpYes X0.here hx rfl (pc0 := 28) (pc' := 37) rfl (hb hby own_d1_28) rfl (flt c28).2.2.2 (by decide) (by decide) ?_
          exact kt
        exact nd37 (hV.trans (own_bj rfl (fun q => (Or.inr ⟨c22, (Or.inr ⟨c28, q⟩)⟩)) (fun q => (fun w => w.elim (fun u => c22 u.1) (fun u => (fun w => w.elim (fun u => c28 u.1) (fun u => q u.2)) u.2)))).symm)
  have nd0 : own_b (own_R1_0 p0) = own_b (own_R1_0 p0) → own_Lead p.tables e below (s₁.setTop (mkF m 0 #[.val (.int p0)] [])) P := by
    intro hV
    refine own_st (B := s₁.setTop (mkF m 4 #[.val (.int p0)] [(.int (128 : Int32)), (.int p0)])) (fun target kt => ?_) ?_
    · show Steps p.tables e below (s₁.setTop (mkF m 0 #[.val (.int p0)] [])) target
      refine XS.iloadN X0.here hx rfl (hb hby own_d1_0) rfl ?_
      show Steps p.tables e below (s₁.setTop (mkF m 1 #[.val (.int p0)] [(.int p0)])) target
      refine XS.sipush X0.here hx rfl (hb hby own_d1_1) ?_
      exact kt
    by_cases c4 : p0 < (128 : Int32)
    · refine own_st (B := s₁.setTop (mkF m 10 #[.val (.int p0)] [(.int (97 : Int32)), (.int p0)])) (fun target kt => ?_) ?_
      · show Steps p.tables e below (s₁.setTop (mkF m 4 #[.val (.int p0)] [(.int (128 : Int32)), (.int p0)])) target
        refine XS.icmpNo X0.here hx rfl (hb hby own_d1_4) rfl (tlt c4).2.1 ?_
        show Steps p.tables e below (s₁.setTop (mkF m 7 #[.val (.int p0)] [])) target
        refine XS.iloadN X0.here hx rfl (hb hby own_d1_7) rfl ?_
        show Steps p.tables e below (s₁.setTop (mkF m 8 #[.val (.int p0)] [(.int p0)])) target
        refine XS.bipush X0.here hx rfl (hb hby own_d1_8) ?_
        exact kt
      by_cases c10 : p0 < (97 : Int32)
      · refine own_st (B := s₁.setTop (mkF m 19 #[.val (.int p0)] [])) (fun target kt => ?_) ?_
        · show Steps p.tables e below (s₁.setTop (mkF m 10 #[.val (.int p0)] [(.int (97 : Int32)), (.int p0)])) target
          refine XS.icmpYes X0.here hx rfl (pc0 := 10) (pc' := 19) rfl (hb hby own_d1_10) rfl (tlt c10).1 (by decide) (by decide) ?_
          exact kt
        exact nd19 (hV.trans (own_bj rfl (fun q => (Or.inl ⟨c4, (Or.inl ⟨c10, q⟩)⟩)) (fun q => (fun w => w.elim (fun u => (fun w => w.elim (fun u => q u.2) (fun u => u.1 c10)) u.2) (fun u => u.1 c4)))).symm)
      · refine own_st (B := s₁.setTop (mkF m 16 #[.val (.int p0)] [(.int (122 : Int32)), (.int p0)])) (fun target kt => ?_) ?_
        · show Steps p.tables e below (s₁.setTop (mkF m 10 #[.val (.int p0)] [(.int (97 : Int32)), (.int p0)])) target
          refine XS.icmpNo X0.here hx rfl (hb hby own_d1_10) rfl (flt c10).1 ?_
          show Steps p.tables e below (s₁.setTop (mkF m 13 #[.val (.int p0)] [])) target
          refine XS.iloadN X0.here hx rfl (hb hby own_d1_13) rfl ?_
          show Steps p.tables e below (s₁.setTop (mkF m 14 #[.val (.int p0)] [(.int p0)])) target
          refine XS.bipush X0.here hx rfl (hb hby own_d1_14) ?_
          exact kt
        by_cases c16 : (122 : Int32) < p0
        · refine own_st (B := s₁.setTop (mkF m 19 #[.val (.int p0)] [])) (fun target kt => ?_) ?_
          · show Steps p.tables e below (s₁.setTop (mkF m 16 #[.val (.int p0)] [(.int (122 : Int32)), (.int p0)])) target
            refine XS.icmpNo X0.here hx rfl (hb hby own_d1_16) rfl (tlt c16).2.2.2 ?_
            exact kt
          exact nd19 (hV.trans (own_bj rfl (fun q => (Or.inl ⟨c4, (Or.inr ⟨c10, (Or.inl ⟨c16, q⟩)⟩)⟩)) (fun q => (fun w => w.elim (fun u => (fun w => w.elim (fun u => c10 u.1) (fun u => (fun w => w.elim (fun u => q u.2) (fun u => u.1 c16)) u.2)) u.2) (fun u => u.1 c4)))).symm)
        · refine own_st (B := s₁.setTop (mkF m 37 #[.val (.int p0)] [])) (fun target kt => ?_) ?_
          · show Steps p.tables e below (s₁.setTop (mkF m 16 #[.val (.int p0)] [(.int (122 : Int32)), (.int p0)])) target
            refine XS.icmpYes X0.here hx rfl (pc0 := 16) (pc' := 37) rfl (hb hby own_d1_16) rfl (flt c16).2.2.2 (by decide) (by decide) ?_
            exact kt
          exact nd37 (hV.trans (own_bj rfl (fun q => (Or.inl ⟨c4, (Or.inr ⟨c10, (Or.inr ⟨c16, q⟩)⟩)⟩)) (fun q => (fun w => w.elim (fun u => (fun w => w.elim (fun u => c10 u.1) (fun u => (fun w => w.elim (fun u => c16 u.1) (fun u => q u.2)) u.2)) u.2) (fun u => u.1 c4)))).symm)
    · refine own_st (B := s₁.setTop (mkF m 47 #[.val (.int p0)] [(.int (192 : Int32)), (.int p0)])) (fun target kt => ?_) ?_
      · show Steps p.tables e below (s₁.setTop (mkF m 4 #[.val (.int p0)] [(.int (128 : Int32)), (.int p0)])) target
        refine XS.icmpYes X0.here hx rfl (pc0 := 4) (pc' := 43) rfl (hb hby own_d1_4) rfl (flt c4).2.1 (by decide) (by decide) ?_
        show Steps p.tables e below (s₁.setTop (mkF m 43 #[.val (.int p0)] [])) target
        refine XS.iloadN X0.here hx rfl (hb hby own_d1_43) rfl ?_
        show Steps p.tables e below (s₁.setTop (mkF m 44 #[.val (.int p0)] [(.int p0)])) target
        refine XS.sipush X0.here hx rfl (hb hby own_d1_44) ?_
        exact kt
      by_cases c47 : p0 < (192 : Int32)
      · refine own_st (B := s₁.setTop (mkF m 57 #[.val (.int p0)] [])) (fun target kt => ?_) ?_
        · show Steps p.tables e below (s₁.setTop (mkF m 47 #[.val (.int p0)] [(.int (192 : Int32)), (.int p0)])) target
          refine XS.icmpYes X0.here hx rfl (pc0 := 47) (pc' := 57) rfl (hb hby own_d1_47) rfl (tlt c47).1 (by decide) (by decide) ?_
          exact kt
        exact nd57 (hV.trans (own_bj rfl (fun q => (Or.inr ⟨c4, (Or.inl ⟨c47, q⟩)⟩)) (fun q => (fun w => w.elim (fun u => c4 u.1) (fun u => (fun w => w.elim (fun u => q u.2) (fun u => u.1 c47)) u.2)))).symm)
      · refine own_st (B := s₁.setTop (mkF m 54 #[.val (.int p0)] [(.int (214 : Int32)), (.int p0)])) (fun target kt => ?_) ?_
        · show Steps p.tables e below (s₁.setTop (mkF m 47 #[.val (.int p0)] [(.int (192 : Int32)), (.int p0)])) target
          refine XS.icmpNo X0.here hx rfl (hb hby own_d1_47) rfl (flt c47).1 ?_
          show Steps p.tables e below (s₁.setTop (mkF m 50 #[.val (.int p0)] [])) target
          refine XS.iloadN X0.here hx rfl (hb hby own_d1_50) rfl ?_
          show Steps p.tables e below (s₁.setTop (mkF m 51 #[.val (.int p0)] [(.int p0)])) target
          refine XS.sipush X0.here hx rfl (hb hby own_d1_51) ?_
          exact kt
        by_cases c54 : (214 : Int32) < p0
        · refine own_st (B := s₁.setTop (mkF m 57 #[.val (.int p0)] [])) (fun target kt => ?_) ?_
          · show Steps p.tables e below (s₁.setTop (mkF m 54 #[.val (.int p0)] [(.int (214 : Int32)), (.int p0)])) target
            refine XS.icmpNo X0.here hx rfl (hb hby own_d1_54) rfl (tlt c54).2.2.2 ?_
            exact kt
          exact nd57 (hV.trans (own_bj rfl (fun q => (Or.inr ⟨c4, (Or.inr ⟨c47, (Or.inl ⟨c54, q⟩)⟩)⟩)) (fun q => (fun w => w.elim (fun u => c4 u.1) (fun u => (fun w => w.elim (fun u => c47 u.1) (fun u => (fun w => w.elim (fun u => q u.2) (fun u => u.1 c54)) u.2)) u.2)))).symm)
        · refine own_st (B := s₁.setTop (mkF m 204 #[.val (.int p0)] [])) (fun target kt => ?_) ?_
          · show Steps p.tables e below (s₁.setTop (mkF m 54 #[.val (.int p0)] [(.int (214 : Int32)), (.int p0)])) target
            refine XS.icmpYes X0.here hx rfl (pc0 := 54) (pc' := 204) rfl (hb hby own_d1_54) rfl (flt c54).2.2.2 (by decide) (by decide) ?_
            exact kt
          exact nd204 (hV.trans (own_bj rfl (fun q => (Or.inr ⟨c4, (Or.inr ⟨c47, (Or.inr ⟨c54, q⟩)⟩)⟩)) (fun q => (fun w => w.elim (fun u => c4 u.1) (fun u => (fun w => w.elim (fun u => c47 u.1) (fun u => (fun w => w.elim (fun u => c54 u.1) (fun u => q u.2)) u.2)) u.2)))).symm)
  have hfin := nd0 rfl
  rw [hP] at hfin
  exact hfin
theorem own_pn1 : plainName "com/example/psyche/psyche/XmlCharsIsNameStartCharPinLaw" = true := by first | (simp [plainName, overriddenIn]; done) | decide +kernel
theorem own_d2_0 : decode method_3_code 0 = .ok (.iload_n 0, 1) := by decide +kernel
theorem own_d2_1 : decode method_3_code 1 = .ok (.ifCond .ge 5, 3) := by decide +kernel
theorem own_d2_4 : decode method_3_code 4 = .ok (.iconst 0, 1) := by decide +kernel
theorem own_d2_5 : decode method_3_code 5 = .ok (.ireturn, 1) := by decide +kernel
theorem own_d2_6 : decode method_3_code 6 = .ok (.iload_n 0, 1) := by decide +kernel
theorem own_d2_7 : decode method_3_code 7 = .ok (.sipush 128, 3) := by decide +kernel
theorem own_d2_10 : decode method_3_code 10 = .ok (.if_icmp .ge 32, 3) := by decide +kernel
theorem own_d2_13 : decode method_3_code 13 = .ok (.iload_n 0, 1) := by decide +kernel
theorem own_d2_14 : decode method_3_code 14 = .ok (.bipush 32, 2) := by decide +kernel
theorem own_d2_16 : decode method_3_code 16 = .ok (.ior, 1) := by decide +kernel
theorem own_d2_17 : decode method_3_code 17 = .ok (.istore_n 1, 1) := by decide +kernel
theorem own_d2_18 : decode method_3_code 18 = .ok (.iload_n 1, 1) := by decide +kernel
theorem own_d2_19 : decode method_3_code 19 = .ok (.bipush 97, 2) := by decide +kernel
theorem own_d2_21 : decode method_3_code 21 = .ok (.if_icmp .lt 9, 3) := by decide +kernel
theorem own_d2_24 : decode method_3_code 24 = .ok (.iload_n 1, 1) := by decide +kernel
theorem own_d2_25 : decode method_3_code 25 = .ok (.bipush 122, 2) := by decide +kernel
theorem own_d2_27 : decode method_3_code 27 = .ok (.if_icmp .le 9, 3) := by decide +kernel
theorem own_d2_30 : decode method_3_code 30 = .ok (.iload_n 0, 1) := by decide +kernel
theorem own_d2_31 : decode method_3_code 31 = .ok (.bipush 95, 2) := by decide +kernel
theorem own_d2_33 : decode method_3_code 33 = .ok (.if_icmp .ne 7, 3) := by decide +kernel
theorem own_d2_36 : decode method_3_code 36 = .ok (.iconst 1, 1) := by decide +kernel
theorem own_d2_37 : decode method_3_code 37 = .ok (.goto 4, 3) := by decide +kernel
theorem own_d2_40 : decode method_3_code 40 = .ok (.iconst 0, 1) := by decide +kernel
theorem own_d2_41 : decode method_3_code 41 = .ok (.ireturn, 1) := by decide +kernel
theorem own_d2_42 : decode method_3_code 42 = .ok (.iload_n 0, 1) := by decide +kernel
theorem own_d2_43 : decode method_3_code 43 = .ok (.ldc 19, 2) := by decide +kernel
theorem own_d2_45 : decode method_3_code 45 = .ok (.if_icmp .le 5, 3) := by decide +kernel
theorem own_d2_48 : decode method_3_code 48 = .ok (.iconst 0, 1) := by decide +kernel
theorem own_d2_49 : decode method_3_code 49 = .ok (.ireturn, 1) := by decide +kernel
theorem own_d2_50 : decode method_3_code 50 = .ok (.iload_n 0, 1) := by decide +kernel
theorem own_d2_51 : decode method_3_code 51 = .ok (.sipush 192, 3) := by decide +kernel
theorem own_d2_54 : decode method_3_code 54 = .ok (.if_icmp .ge 5, 3) := by decide +kernel
theorem own_d2_57 : decode method_3_code 57 = .ok (.iconst 0, 1) := by decide +kernel
theorem own_d2_58 : decode method_3_code 58 = .ok (.ireturn, 1) := by decide +kernel
theorem own_d2_59 : decode method_3_code 59 = .ok (.iload_n 0, 1) := by decide +kernel
theorem own_d2_60 : decode method_3_code 60 = .ok (.sipush 215, 3) := by decide +kernel
theorem own_d2_63 : decode method_3_code 63 = .ok (.if_icmp .eq 10, 3) := by decide +kernel
theorem own_d2_66 : decode method_3_code 66 = .ok (.iload_n 0, 1) := by decide +kernel
theorem own_d2_67 : decode method_3_code 67 = .ok (.sipush 247, 3) := by decide +kernel
theorem own_d2_70 : decode method_3_code 70 = .ok (.if_icmp .ne 5, 3) := by decide +kernel
theorem own_d2_73 : decode method_3_code 73 = .ok (.iconst 0, 1) := by decide +kernel
theorem own_d2_74 : decode method_3_code 74 = .ok (.ireturn, 1) := by decide +kernel
theorem own_d2_75 : decode method_3_code 75 = .ok (.iload_n 0, 1) := by decide +kernel
theorem own_d2_76 : decode method_3_code 76 = .ok (.sipush 768, 3) := by decide +kernel
theorem own_d2_79 : decode method_3_code 79 = .ok (.if_icmp .lt 12, 3) := by decide +kernel
theorem own_d2_82 : decode method_3_code 82 = .ok (.iload_n 0, 1) := by decide +kernel
theorem own_d2_83 : decode method_3_code 83 = .ok (.sipush 879, 3) := by decide +kernel
theorem own_d2_86 : decode method_3_code 86 = .ok (.if_icmp .gt 5, 3) := by decide +kernel
theorem own_d2_89 : decode method_3_code 89 = .ok (.iconst 0, 1) := by decide +kernel
theorem own_d2_90 : decode method_3_code 90 = .ok (.ireturn, 1) := by decide +kernel
theorem own_d2_91 : decode method_3_code 91 = .ok (.iload_n 0, 1) := by decide +kernel
theorem own_d2_92 : decode method_3_code 92 = .ok (.sipush 894, 3) := by decide +kernel
theorem own_d2_95 : decode method_3_code 95 = .ok (.if_icmp .ne 5, 3) := by decide +kernel
theorem own_d2_98 : decode method_3_code 98 = .ok (.iconst 0, 1) := by decide +kernel
theorem own_d2_99 : decode method_3_code 99 = .ok (.ireturn, 1) := by decide +kernel
theorem own_d2_100 : decode method_3_code 100 = .ok (.iload_n 0, 1) := by decide +kernel
theorem own_d2_101 : decode method_3_code 101 = .ok (.sipush 8192, 3) := by decide +kernel
theorem own_d2_104 : decode method_3_code 104 = .ok (.if_icmp .lt 30, 3) := by decide +kernel
theorem own_d2_107 : decode method_3_code 107 = .ok (.iload_n 0, 1) := by decide +kernel
theorem own_d2_108 : decode method_3_code 108 = .ok (.sipush 8303, 3) := by decide +kernel
theorem own_d2_111 : decode method_3_code 111 = .ok (.if_icmp .gt 23, 3) := by decide +kernel
theorem own_d2_114 : decode method_3_code 114 = .ok (.iload_n 0, 1) := by decide +kernel
theorem own_d2_115 : decode method_3_code 115 = .ok (.sipush 8204, 3) := by decide +kernel
theorem own_d2_118 : decode method_3_code 118 = .ok (.if_icmp .eq 10, 3) := by decide +kernel
theorem own_d2_121 : decode method_3_code 121 = .ok (.iload_n 0, 1) := by decide +kernel
theorem own_d2_122 : decode method_3_code 122 = .ok (.sipush 8205, 3) := by decide +kernel
theorem own_d2_125 : decode method_3_code 125 = .ok (.if_icmp .ne 7, 3) := by decide +kernel
theorem own_d2_128 : decode method_3_code 128 = .ok (.iconst 1, 1) := by decide +kernel
theorem own_d2_129 : decode method_3_code 129 = .ok (.goto 4, 3) := by decide +kernel
theorem own_d2_132 : decode method_3_code 132 = .ok (.iconst 0, 1) := by decide +kernel
theorem own_d2_133 : decode method_3_code 133 = .ok (.ireturn, 1) := by decide +kernel
theorem own_d2_134 : decode method_3_code 134 = .ok (.iload_n 0, 1) := by decide +kernel
theorem own_d2_135 : decode method_3_code 135 = .ok (.sipush 8592, 3) := by decide +kernel
theorem own_d2_138 : decode method_3_code 138 = .ok (.if_icmp .lt 12, 3) := by decide +kernel
theorem own_d2_141 : decode method_3_code 141 = .ok (.iload_n 0, 1) := by decide +kernel
theorem own_d2_142 : decode method_3_code 142 = .ok (.sipush 11263, 3) := by decide +kernel
theorem own_d2_145 : decode method_3_code 145 = .ok (.if_icmp .gt 5, 3) := by decide +kernel
theorem own_d2_148 : decode method_3_code 148 = .ok (.iconst 0, 1) := by decide +kernel
theorem own_d2_149 : decode method_3_code 149 = .ok (.ireturn, 1) := by decide +kernel
theorem own_d2_150 : decode method_3_code 150 = .ok (.iload_n 0, 1) := by decide +kernel
theorem own_d2_151 : decode method_3_code 151 = .ok (.sipush 12272, 3) := by decide +kernel
theorem own_d2_154 : decode method_3_code 154 = .ok (.if_icmp .lt 12, 3) := by decide +kernel
theorem own_d2_157 : decode method_3_code 157 = .ok (.iload_n 0, 1) := by decide +kernel
theorem own_d2_158 : decode method_3_code 158 = .ok (.sipush 12288, 3) := by decide +kernel
theorem own_d2_161 : decode method_3_code 161 = .ok (.if_icmp .gt 5, 3) := by decide +kernel
theorem own_d2_164 : decode method_3_code 164 = .ok (.iconst 0, 1) := by decide +kernel
theorem own_d2_165 : decode method_3_code 165 = .ok (.ireturn, 1) := by decide +kernel
theorem own_d2_166 : decode method_3_code 166 = .ok (.iload_n 0, 1) := by decide +kernel
theorem own_d2_167 : decode method_3_code 167 = .ok (.ldc 20, 2) := by decide +kernel
theorem own_d2_169 : decode method_3_code 169 = .ok (.if_icmp .lt 11, 3) := by decide +kernel
theorem own_d2_172 : decode method_3_code 172 = .ok (.iload_n 0, 1) := by decide +kernel
theorem own_d2_173 : decode method_3_code 173 = .ok (.ldc 21, 2) := by decide +kernel
theorem own_d2_175 : decode method_3_code 175 = .ok (.if_icmp .gt 5, 3) := by decide +kernel
theorem own_d2_178 : decode method_3_code 178 = .ok (.iconst 0, 1) := by decide +kernel
theorem own_d2_179 : decode method_3_code 179 = .ok (.ireturn, 1) := by decide +kernel
theorem own_d2_180 : decode method_3_code 180 = .ok (.iload_n 0, 1) := by decide +kernel
theorem own_d2_181 : decode method_3_code 181 = .ok (.ldc 22, 2) := by decide +kernel
theorem own_d2_183 : decode method_3_code 183 = .ok (.if_icmp .lt 11, 3) := by decide +kernel
theorem own_d2_186 : decode method_3_code 186 = .ok (.iload_n 0, 1) := by decide +kernel
theorem own_d2_187 : decode method_3_code 187 = .ok (.ldc 23, 2) := by decide +kernel
theorem own_d2_189 : decode method_3_code 189 = .ok (.if_icmp .gt 5, 3) := by decide +kernel
theorem own_d2_192 : decode method_3_code 192 = .ok (.iconst 0, 1) := by decide +kernel
theorem own_d2_193 : decode method_3_code 193 = .ok (.ireturn, 1) := by decide +kernel
theorem own_d2_194 : decode method_3_code 194 = .ok (.iload_n 0, 1) := by decide +kernel
theorem own_d2_195 : decode method_3_code 195 = .ok (.ldc 24, 2) := by decide +kernel
theorem own_d2_197 : decode method_3_code 197 = .ok (.if_icmp .eq 9, 3) := by decide +kernel
theorem own_d2_200 : decode method_3_code 200 = .ok (.iload_n 0, 1) := by decide +kernel
theorem own_d2_201 : decode method_3_code 201 = .ok (.ldc 25, 2) := by decide +kernel
theorem own_d2_203 : decode method_3_code 203 = .ok (.if_icmp .ne 5, 3) := by decide +kernel
theorem own_d2_206 : decode method_3_code 206 = .ok (.iconst 0, 1) := by decide +kernel
theorem own_d2_207 : decode method_3_code 207 = .ok (.ireturn, 1) := by decide +kernel
theorem own_d2_208 : decode method_3_code 208 = .ok (.iconst 1, 1) := by decide +kernel
theorem own_d2_209 : decode method_3_code 209 = .ok (.ireturn, 1) := by decide +kernel
def own_R2_206 (p0 : Int32) : Prop := False
instance own_D2_206 (p0 : Int32) : Decidable (own_R2_206 p0) := by unfold own_R2_206; infer_instance
def own_R2_194 (p0 : Int32) : Prop := (((p0 = (65534 : Int32)) ∧ ((own_R2_206 p0))) ∨ (¬ (p0 = (65534 : Int32)) ∧ ((¬ (p0 = (65535 : Int32)) ∨ ((own_R2_206 p0))))))
instance own_D2_194 (p0 : Int32) : Decidable (own_R2_194 p0) := by unfold own_R2_194; infer_instance
def own_R2_180 (p0 : Int32) : Prop := (((p0 < (64976 : Int32)) ∧ ((own_R2_194 p0))) ∨ (¬ (p0 < (64976 : Int32)) ∧ ((((65007 : Int32) < p0) ∧ ((own_R2_194 p0))))))
instance own_D2_180 (p0 : Int32) : Decidable (own_R2_180 p0) := by unfold own_R2_180; infer_instance
def own_R2_166 (p0 : Int32) : Prop := (((p0 < (55296 : Int32)) ∧ ((own_R2_180 p0))) ∨ (¬ (p0 < (55296 : Int32)) ∧ ((((63743 : Int32) < p0) ∧ ((own_R2_180 p0))))))
instance own_D2_166 (p0 : Int32) : Decidable (own_R2_166 p0) := by unfold own_R2_166; infer_instance
def own_R2_150 (p0 : Int32) : Prop := (((p0 < (12272 : Int32)) ∧ ((own_R2_166 p0))) ∨ (¬ (p0 < (12272 : Int32)) ∧ ((((12288 : Int32) < p0) ∧ ((own_R2_166 p0))))))
instance own_D2_150 (p0 : Int32) : Decidable (own_R2_150 p0) := by unfold own_R2_150; infer_instance
def own_R2_134 (p0 : Int32) : Prop := (((p0 < (8592 : Int32)) ∧ ((own_R2_150 p0))) ∨ (¬ (p0 < (8592 : Int32)) ∧ ((((11263 : Int32) < p0) ∧ ((own_R2_150 p0))))))
instance own_D2_134 (p0 : Int32) : Decidable (own_R2_134 p0) := by unfold own_R2_134; infer_instance
def own_R2_128 (p0 : Int32) : Prop := True
instance own_D2_128 (p0 : Int32) : Decidable (own_R2_128 p0) := by unfold own_R2_128; infer_instance
def own_R2_91 (p0 : Int32) : Prop := (¬ (p0 = (894 : Int32)) ∧ ((((p0 < (8192 : Int32)) ∧ ((own_R2_134 p0))) ∨ (¬ (p0 < (8192 : Int32)) ∧ (((((8303 : Int32) < p0) ∧ ((own_R2_134 p0))) ∨ (¬ ((8303 : Int32) < p0) ∧ ((((p0 = (8204 : Int32)) ∧ ((own_R2_128 p0))) ∨ (¬ (p0 = (8204 : Int32)) ∧ (((p0 = (8205 : Int32)) ∧ ((own_R2_128 p0))))))))))))))
instance own_D2_91 (p0 : Int32) : Decidable (own_R2_91 p0) := by unfold own_R2_91; infer_instance
def own_R2_73 (p0 : Int32) : Prop := False
instance own_D2_73 (p0 : Int32) : Decidable (own_R2_73 p0) := by unfold own_R2_73; infer_instance
def own_R2_36 (p0 : Int32) : Prop := True
instance own_D2_36 (p0 : Int32) : Decidable (own_R2_36 p0) := by unfold own_R2_36; infer_instance
def own_R2_30 (p0 : Int32) : Prop := ((p0 = (95 : Int32)) ∧ ((own_R2_36 p0)))
instance own_D2_30 (p0 : Int32) : Decidable (own_R2_30 p0) := by unfold own_R2_30; infer_instance
def own_R2_0 (p0 : Int32) : Prop := (¬ (p0 < (0 : Int32)) ∧ ((((p0 < (128 : Int32)) ∧ (((((p0 ||| (32 : Int32)) < (97 : Int32)) ∧ ((own_R2_30 p0))) ∨ (¬ ((p0 ||| (32 : Int32)) < (97 : Int32)) ∧ (((((122 : Int32) < (p0 ||| (32 : Int32))) ∧ ((own_R2_30 p0))) ∨ (¬ ((122 : Int32) < (p0 ||| (32 : Int32))) ∧ ((own_R2_36 p0))))))))) ∨ (¬ (p0 < (128 : Int32)) ∧ ((¬ ((983039 : Int32) < p0) ∧ ((¬ (p0 < (192 : Int32)) ∧ ((((p0 = (215 : Int32)) ∧ ((own_R2_73 p0))) ∨ (¬ (p0 = (215 : Int32)) ∧ ((((p0 = (247 : Int32)) ∧ ((own_R2_73 p0))) ∨ (¬ (p0 = (247 : Int32)) ∧ ((((p0 < (768 : Int32)) ∧ ((own_R2_91 p0))) ∨ (¬ (p0 < (768 : Int32)) ∧ ((((879 : Int32) < p0) ∧ ((own_R2_91 p0)))))))))))))))))))))
instance own_D2_0 (p0 : Int32) : Decidable (own_R2_0 p0) := by unfold own_R2_0; infer_instance
theorem own_ef2 (m : MethodId) (p0 : Int32) : entryFrame m #[(.int p0)] 2 = mkF m 0 #[.val (.int p0), .unset] [] := by first | (simp [entryFrame, mkF, argsToLocals, Value.category]; done) | rfl
def own_Q2 (Z : State) (p0 : Int32) (h0 : Heap) (n0 : Nat) (v : Option Value) (h : Heap) (L : List Loc) : Prop := (v = some (.int (own_b (own_R2_0 p0)))) ∧ (Fr n0 L) ∧ (h = h0)
set_option maxRecDepth 65536 in
set_option maxHeartbeats 40000000 in
theorem own_rm2 (l : Launch) (Z : State) (a0 : Array Value) (hw : ∀ d ∈ tables_1, d.before a0 Z = true) (ws : List Jvm.Cond) (p0 : Int32) (h0 : Heap) (n0 : Nat) (Z0 : n0 ≤ h0.size) :
    MetFree l (⟨"com/example/psyche/psyche/XmlCharsIsNameStartCharPinLaw", "reference", "(I)Z"⟩ : MethodName) (head1 (Jvm.Cond.code (⟨"com/example/psyche/psyche/XmlCharsIsNameStartCharPinLaw", "reference", "(I)Z"⟩ : MethodName) method_3_code 2 (some .boolean) :: ws) ({ frames := 0, cells := 0, slots := 0, locals := 0 } : Room)) (fun a U => a = #[(.int p0)] ∧ Z.Warmed39 U.vm ∧ U.heap = h0) (fun _ _ _ _ _ => True) (fun _ U o U' => ∃ v L, o = .returned v ∧ own_Q2 Z p0 h0 n0 v U'.heap L ∧ FrameEnd U o U' L ({ frames := 0, cells := 0, slots := 0, locals := 0 } : Room).cells ({ frames := 0, cells := 0, slots := 0, locals := 0 } : Room).slots) := by
  refine MetFree.of_bodySF (plainFor_of_name own_pn1) hisR ?_
  intro p e s m args below meth c s₁ Bd hml0 hP hK
  obtain ⟨rfl, hZ, hh⟩ := hP
  have hx := Bd.exec
  have hby := Bd.bytes
  have hml : c.maxLocals = 2 := hml0
  have hown : s.vm.findClass "com/example/psyche/psyche/XmlCharsIsNameStartCharPinLaw" = some m.cls := findClass_of_methodNamed Bd.named
  have X0 : Stand p l e ({ frames := 0, cells := 0, slots := 0, locals := 0 } : Room) s m #[(.int p0)] below meth c s₁ [] 0 0 := Stand.of_body Bd
  have e0 : s₁.heap = h0 := by rw [← hh, Bd.state]; rfl
  have N0 := Fr.nil n0
  have pre0 : ∀ t, Steps p.tables e below (s₁.setTop (mkF m 0 #[.val (.int p0), .unset] [])) t → Steps p.tables e below (s₁.setTop (entryFrame m #[(.int p0)] 2)) t := fun t k => castTop (own_ef2 m p0) k
  refine own_run (own_st pre0 ?_)
  obtain ⟨P, hP⟩ : ∃ P : State → Prop, P = (fun B => ∃ o, B.status = .running ∧ Ended B below o ∧ ∃ v L, o = .returned v ∧ own_Q2 Z p0 h0 n0 v B.heap L ∧ FrameEnd s o B L ({ frames := 0, cells := 0, slots := 0, locals := 0 } : Room).cells ({ frames := 0, cells := 0, slots := 0, locals := 0 } : Room).slots) := ⟨_, rfl⟩
  have nd206 : own_b (own_R2_0 p0) = own_b (own_R2_206 p0) → own_Lead p.tables e below (s₁.setTop (mkF m 206 #[.val (.int p0), .unset] [])) P := by
    intro hV
    refine own_st (B := s₁.setTop (mkF m 207 #[.val (.int p0), .unset] [(.int (0 : Int32))])) (fun target kt => ?_) ?_
    · show Steps p.tables e below (s₁.setTop (mkF m 206 #[.val (.int p0), .unset] [])) target
      refine XS.iconst X0.here hx rfl (hb hby own_d2_206) ?_
      exact kt
    have hval : own_b (own_R2_0 p0) = (0 : Int32) := hV.trans (show (0 : Int32) = own_b (own_R2_206 p0) from (own_b0 (fun w => w)).symm).symm
    rw [hP]
    obtain ⟨fs, hr, hrun, hended, hW, hsame⟩ := X0.leave (v := some (.int (0 : Int32))) (fun h => by rw [Bd.returns] at h; cases h)
    have hend : Steps p.tables e below (s₁.setTop (mkF m 207 #[.val (.int p0), .unset] [(.int (0 : Int32))])) (s₁.setFrames fs) := by
      exact retN X0 hx (t := .boolean) Bd.returns (by simp) (hb hby own_d2_207) hr
    refine own_fin hend ⟨_, hrun, hended, _, _, rfl, ?_, ⟨_, rfl⟩, hW, hsame.mono (by decide) (by decide)⟩
    show own_Q2 Z p0 h0 n0 _ s₁.heap _
    rw [e0]
    exact ⟨(congrArg (fun z => some (Value.int z)) hval).symm, N0, rfl⟩
  have nd194 : own_b (own_R2_0 p0) = own_b (own_R2_194 p0) → own_Lead p.tables e below (s₁.setTop (mkF m 194 #[.val (.int p0), .unset] [])) P := by
    intro hV
    refine own_st (B := s₁.setTop (mkF m 197 #[.val (.int p0), .unset] [(.int (65534 : Int32)), (.int p0)])) (fun target kt => ?_) ?_
    · show Steps p.tables e below (s₁.setTop (mkF m 194 #[.val (.int p0), .unset] [])) target
      refine XS.iloadN X0.here hx rfl (hb hby own_d2_194) rfl ?_
      show Steps p.tables e below (s₁.setTop (mkF m 195 #[.val (.int p0), .unset] [(.int p0)])) target
      refine X0.ldcInt hx hown (mvT hZ (hw _ (List.mem_of_getElem? (i := 13) rfl))) (g := (mkF m 195 #[.val (.int p0), .unset] [(.int p0)])) rfl (hb hby own_d2_195) _ ?_
      exact kt
    by_cases c197 : p0 = (65534 : Int32)
    · refine own_st (B := s₁.setTop (mkF m 206 #[.val (.int p0), .unset] [])) (fun target kt => ?_) ?_
      · show Steps p.tables e below (s₁.setTop (mkF m 197 #[.val (.int p0), .unset] [(.int (65534 : Int32)), (.int p0)])) target
        refine XS.icmpYes X0.here hx rfl (pc0 := 197) (pc' := 206) rfl (hb hby own_d2_197) rfl (teq c197).1 (by decide) (by decide) ?_
        exact kt
      exact nd206 (hV.trans (own_bj rfl (fun q => (Or.inl ⟨c197, q⟩)) (fun q => (fun w => w.elim (fun u => q u.2) (fun u => u.1 c197)))).symm)
    · refine own_st (B := s₁.setTop (mkF m 203 #[.val (.int p0), .unset] [(.int (65535 : Int32)), (.int p0)])) (fun target kt => ?_) ?_
      · show Steps p.tables e below (s₁.setTop (mkF m 197 #[.val (.int p0), .unset] [(.int (65534 : Int32)), (.int p0)])) target
        refine XS.icmpNo X0.here hx rfl (hb hby own_d2_197) rfl (feq c197).1 ?_
        show Steps p.tables e below (s₁.setTop (mkF m 200 #[.val (.int p0), .unset] [])) target
        refine XS.iloadN X0.here hx rfl (hb hby own_d2_200) rfl ?_
        show Steps p.tables e below (s₁.setTop (mkF m 201 #[.val (.int p0), .unset] [(.int p0)])) target
        refine X0.ldcInt hx hown (mvT hZ (hw _ (List.mem_of_getElem? (i := 14) rfl))) (g := (mkF m 201 #[.val (.int p0), .unset] [(.int p0)])) rfl (hb hby own_d2_201) _ ?_
        exact kt
      by_cases c203 : p0 = (65535 : Int32)
      · refine own_st (B := s₁.setTop (mkF m 206 #[.val (.int p0), .unset] [])) (fun target kt => ?_) ?_
        · show Steps p.tables e below (s₁.setTop (mkF m 203 #[.val (.int p0), .unset] [(.int (65535 : Int32)), (.int p0)])) target
          refine XS.icmpNo X0.here hx rfl (hb hby own_d2_203) rfl (teq c203).2 ?_
          exact kt
        exact nd206 (hV.trans (own_bj rfl (fun q => (Or.inr ⟨c197, (Or.inr q)⟩)) (fun q => (fun w => w.elim (fun u => c197 u.1) (fun u => (fun w => w.elim (fun n => n c203) q) u.2)))).symm)
      · refine own_st (B := s₁.setTop (mkF m 209 #[.val (.int p0), .unset] [(.int (1 : Int32))])) (fun target kt => ?_) ?_
        · show Steps p.tables e below (s₁.setTop (mkF m 203 #[.val (.int p0), .unset] [(.int (65535 : Int32)), (.int p0)])) target
          refine XS.icmpYes X0.here hx rfl (pc0 := 203) (pc' := 208) rfl (hb hby own_d2_203) rfl (feq c203).2 (by decide) (by decide) ?_
          show Steps p.tables e below (s₁.setTop (mkF m 208 #[.val (.int p0), .unset] [])) target
          refine XS.iconst X0.here hx rfl (hb hby own_d2_208) ?_
          exact kt
        have hval : own_b (own_R2_0 p0) = (1 : Int32) := hV.trans (show (1 : Int32) = own_b (own_R2_194 p0) from (own_b1 (Or.inr ⟨c197, (Or.inl c203)⟩)).symm).symm
        rw [hP]
        obtain ⟨fs, hr, hrun, hended, hW, hsame⟩ := X0.leave (v := some (.int (1 : Int32))) (fun h => by rw [Bd.returns] at h; cases h)
        have hend : Steps p.tables e below (s₁.setTop (mkF m 209 #[.val (.int p0), .unset] [(.int (1 : Int32))])) (s₁.setFrames fs) := by
          exact retN X0 hx (t := .boolean) Bd.returns (by simp) (hb hby own_d2_209) hr
        refine own_fin hend ⟨_, hrun, hended, _, _, rfl, ?_, ⟨_, rfl⟩, hW, hsame.mono (by decide) (by decide)⟩
        show own_Q2 Z p0 h0 n0 _ s₁.heap _
        rw [e0]
        exact ⟨(congrArg (fun z => some (Value.int z)) hval).symm, N0, rfl⟩
  have nd180 : own_b (own_R2_0 p0) = own_b (own_R2_180 p0) → own_Lead p.tables e below (s₁.setTop (mkF m 180 #[.val (.int p0), .unset] [])) P := by
    intro hV
    refine own_st (B := s₁.setTop (mkF m 183 #[.val (.int p0), .unset] [(.int (64976 : Int32)), (.int p0)])) (fun target kt => ?_) ?_
    · show Steps p.tables e below (s₁.setTop (mkF m 180 #[.val (.int p0), .unset] [])) target
      refine XS.iloadN X0.here hx rfl (hb hby own_d2_180) rfl ?_
      show Steps p.tables e below (s₁.setTop (mkF m 181 #[.val (.int p0), .unset] [(.int p0)])) target
      refine X0.ldcInt hx hown (mvT hZ (hw _ (List.mem_of_getElem? (i := 12) rfl))) (g := (mkF m 181 #[.val (.int p0), .unset] [(.int p0)])) rfl (hb hby own_d2_181) _ ?_
      exact kt
    by_cases c183 : p0 < (64976 : Int32)
    · refine own_st (B := s₁.setTop (mkF m 194 #[.val (.int p0), .unset] [])) (fun target kt => ?_) ?_
      · show Steps p.tables e below (s₁.setTop (mkF m 183 #[.val (.int p0), .unset] [(.int (64976 : Int32)), (.int p0)])) target
        refine XS.icmpYes X0.here hx rfl (pc0 := 183) (pc' := 194) rfl (hb hby own_d2_183) rfl (tlt c183).1 (by decide) (by decide) ?_
        exact kt
      exact nd194 (hV.trans (own_bj rfl (fun q => (Or.inl ⟨c183, q⟩)) (fun q => (fun w => w.elim (fun u => q u.2) (fun u => u.1 c183)))).symm)
    · refine own_st (B := s₁.setTop (mkF m 189 #[.val (.int p0), .unset] [(.int (65007 : Int32)), (.int p0)])) (fun target kt => ?_) ?_
      · show Steps p.tables e below (s₁.setTop (mkF m 183 #[.val (.int p0), .unset] [(.int (64976 : Int32)), (.int p0)])) target
        refine XS.icmpNo X0.here hx rfl (hb hby own_d2_183) rfl (flt c183).1 ?_
        show Steps p.tables e below (s₁.setTop (mkF m 186 #[.val (.int p0), .unset] [])) target
        refine XS.iloadN X0.here hx rfl (hb hby own_d2_186) rfl ?_
        show Steps p.tables e below (s₁.setTop (mkF m 187 #[.val (.int p0), .unset] [(.int p0)])) target
        refine X0.ldcInt hx hown (mvT hZ (hw _ (List.mem_of_getElem? (i := 22) rfl))) (g := (mkF m 187 #[.val (.int p0), .unset] [(.int p0)])) rfl (hb hby own_d2_187) _ ?_
        exact kt
      by_cases c189 : (65007 : Int32) < p0
      · refine own_st (B := s₁.setTop (mkF m 194 #[.val (.int p0), .unset] [])) (fun target kt => ?_) ?_
        · show Steps p.tables e below (s₁.setTop (mkF m 189 #[.val (.int p0), .unset] [(.int (65007 : Int32)), (.int p0)])) target
          refine XS.icmpYes X0.here hx rfl (pc0 := 189) (pc' := 194) rfl (hb hby own_d2_189) rfl (tlt c189).2.2.1 (by decide) (by decide) ?_
          exact kt
        exact nd194 (hV.trans (own_bj rfl (fun q => (Or.inr ⟨c183, ⟨c189, q⟩⟩)) (fun q => (fun w => w.elim (fun u => c183 u.1) (fun u => (fun w => q w.2) u.2)))).symm)
      · refine own_st (B := s₁.setTop (mkF m 193 #[.val (.int p0), .unset] [(.int (0 : Int32))])) (fun target kt => ?_) ?_
        · show Steps p.tables e below (s₁.setTop (mkF m 189 #[.val (.int p0), .unset] [(.int (65007 : Int32)), (.int p0)])) target
          refine XS.icmpNo X0.here hx rfl (hb hby own_d2_189) rfl (flt c189).2.2.1 ?_
          show Steps p.tables e below (s₁.setTop (mkF m 192 #[.val (.int p0), .unset] [])) target
          refine XS.iconst X0.here hx rfl (hb hby own_d2_192) ?_
          exact kt
        have hval : own_b (own_R2_0 p0) = (0 : Int32) := hV.trans (show (0 : Int32) = own_b (own_R2_180 p0) from (own_b0 (fun w => w.elim (fun u => c183 u.1) (fun u => (fun w => c189 w.1) u.2))).symm).symm
        rw [hP]
        obtain ⟨fs, hr, hrun, hended, hW, hsame⟩ := X0.leave (v := some (.int (0 : Int32))) (fun h => by rw [Bd.returns] at h; cases h)
        have hend : Steps p.tables e below (s₁.setTop (mkF m 193 #[.val (.int p0), .unset] [(.int (0 : Int32))])) (s₁.setFrames fs) := by
          exact retN X0 hx (t := .boolean) Bd.returns (by simp) (hb hby own_d2_193) hr
        refine own_fin hend ⟨_, hrun, hended, _, _, rfl, ?_, ⟨_, rfl⟩, hW, hsame.mono (by decide) (by decide)⟩
        show own_Q2 Z p0 h0 n0 _ s₁.heap _
        rw [e0]
        exact ⟨(congrArg (fun z => some (Value.int z)) hval).symm, N0, rfl⟩
  have nd166 : own_b (own_R2_0 p0) = own_b (own_R2_166 p0) → own_Lead p.tables e below (s₁.setTop (mkF m 166 #[.val (.int p0), .unset] [])) P := by
    intro hV
    refine own_st (B := s₁.setTop (mkF m 169 #[.val (.int p0), .unset] [(.int (55296 : Int32)), (.int p0)])) (fun target kt => ?_) ?_
    · show Steps p.tables e below (s₁.setTop (mkF m 166 #[.val (.int p0), .unset] [])) target
      refine XS.iloadN X0.here hx rfl (hb hby own_d2_166) rfl ?_
      show Steps p.tables e below (s₁.setTop (mkF m 167 #[.val (.int p0), .unset] [(.int p0)])) target
      refine X0.ldcInt hx hown (mvT hZ (hw _ (List.mem_of_getElem? (i := 11) rfl))) (g := (mkF m 167 #[.val (.int p0), .unset] [(.int p0)])) rfl (hb hby own_d2_167) _ ?_
      exact kt
    by_cases c169 : p0 < (55296 : Int32)
    · refine own_st (B := s₁.setTop (mkF m 180 #[.val (.int p0), .unset] [])) (fun target kt => ?_) ?_
      · show Steps p.tables e below (s₁.setTop (mkF m 169 #[.val (.int p0), .unset] [(.int (55296 : Int32)), (.int p0)])) target
        refine XS.icmpYes X0.here hx rfl (pc0 := 169) (pc' := 180) rfl (hb hby own_d2_169) rfl (tlt c169).1 (by decide) (by decide) ?_
        exact kt
      exact nd180 (hV.trans (own_bj rfl (fun q => (Or.inl ⟨c169, q⟩)) (fun q => (fun w => w.elim (fun u => q u.2) (fun u => u.1 c169)))).symm)
    · refine own_st (B := s₁.setTop (mkF m 175 #[.val (.int p0), .unset] [(.int (63743 : Int32)), (.int p0)])) (fun target kt => ?_) ?_
      · show Steps p.tables e below (s₁.setTop (mkF m 169 #[.val (.int p0), .unset] [(.int (55296 : Int32)), (.int p0)])) target
        refine XS.icmpNo X0.here hx rfl (hb hby own_d2_169) rfl (flt c169).1 ?_
        show Steps p.tables e below (s₁.setTop (mkF m 172 #[.val (.int p0), .unset] [])) target
        refine XS.iloadN X0.here hx rfl (hb hby own_d2_172) rfl ?_
        show Steps p.tables e below (s₁.setTop (mkF m 173 #[.val (.int p0), .unset] [(.int p0)])) target
        refine X0.ldcInt hx hown (mvT hZ (hw _ (List.mem_of_getElem? (i := 21) rfl))) (g := (mkF m 173 #[.val (.int p0), .unset] [(.int p0)])) rfl (hb hby own_d2_173) _ ?_
        exact kt
      by_cases c175 : (63743 : Int32) < p0
      · refine own_st (B := s₁.setTop (mkF m 180 #[.val (.int p0), .unset] [])) (fun target kt => ?_) ?_
        · show Steps p.tables e below (s₁.setTop (mkF m 175 #[.val (.int p0), .unset] [(.int (63743 : Int32)), (.int p0)])) target
          refine XS.icmpYes X0.here hx rfl (pc0 := 175) (pc' := 180) rfl (hb hby own_d2_175) rfl (tlt c175).2.2.1 (by decide) (by decide) ?_
          exact kt
        exact nd180 (hV.trans (own_bj rfl (fun q => (Or.inr ⟨c169, ⟨c175, q⟩⟩)) (fun q => (fun w => w.elim (fun u => c169 u.1) (fun u => (fun w => q w.2) u.2)))).symm)
      · refine own_st (B := s₁.setTop (mkF m 179 #[.val (.int p0), .unset] [(.int (0 : Int32))])) (fun target kt => ?_) ?_
        · show Steps p.tables e below (s₁.setTop (mkF m 175 #[.val (.int p0), .unset] [(.int (63743 : Int32)), (.int p0)])) target
          refine XS.icmpNo X0.here hx rfl (hb hby own_d2_175) rfl (flt c175).2.2.1 ?_
          show Steps p.tables e below (s₁.setTop (mkF m 178 #[.val (.int p0), .unset] [])) target
          refine XS.iconst X0.here hx rfl (hb hby own_d2_178) ?_
          exact kt
        have hval : own_b (own_R2_0 p0) = (0 : Int32) := hV.trans (show (0 : Int32) = own_b (own_R2_166 p0) from (own_b0 (fun w => w.elim (fun u => c169 u.1) (fun u => (fun w => c175 w.1) u.2))).symm).symm
        rw [hP]
        obtain ⟨fs, hr, hrun, hended, hW, hsame⟩ := X0.leave (v := some (.int (0 : Int32))) (fun h => by rw [Bd.returns] at h; cases h)
        have hend : Steps p.tables e below (s₁.setTop (mkF m 179 #[.val (.int p0), .unset] [(.int (0 : Int32))])) (s₁.setFrames fs) := by
          exact retN X0 hx (t := .boolean) Bd.returns (by simp) (hb hby own_d2_179) hr
        refine own_fin hend ⟨_, hrun, hended, _, _, rfl, ?_, ⟨_, rfl⟩, hW, hsame.mono (by decide) (by decide)⟩
        show own_Q2 Z p0 h0 n0 _ s₁.heap _
        rw [e0]
        exact ⟨(congrArg (fun z => some (Value.int z)) hval).symm, N0, rfl⟩
  have nd150 : own_b (own_R2_0 p0) = own_b (own_R2_150 p0) → own_Lead p.tables e below (s₁.setTop (mkF m 150 #[.val (.int p0), .unset] [])) P := by
    intro hV
    refine own_st (B := s₁.setTop (mkF m 154 #[.val (.int p0), .unset] [(.int (12272 : Int32)), (.int p0)])) (fun target kt => ?_) ?_
    · show Steps p.tables e below (s₁.setTop (mkF m 150 #[.val (.int p0), .unset] [])) target
      refine XS.iloadN X0.here hx rfl (hb hby own_d2_150) rfl ?_
      show Steps p.tables e below (s₁.setTop (mkF m 151 #[.val (.int p0), .unset] [(.int p0)])) target
      refine XS.sipush X0.here hx rfl (hb hby own_d2_151) ?_
      exact kt
    by_cases c154 : p0 < (12272 : Int32)
    · refine own_st (B := s₁.setTop (mkF m 166 #[.val (.int p0), .unset] [])) (fun target kt => ?_) ?_
      · show Steps p.tables e below (s₁.setTop (mkF m 154 #[.val (.int p0), .unset] [(.int (12272 : Int32)), (.int p0)])) target
        refine XS.icmpYes X0.here hx rfl (pc0 := 154) (pc' := 166) rfl (hb hby own_d2_154) rfl (tlt c154).1 (by decide) (by decide) ?_
        exact kt
      exact nd166 (hV.trans (own_bj rfl (fun q => (Or.inl ⟨c154, q⟩)) (fun q => (fun w => w.elim (fun u => q u.2) (fun u => u.1 c154)))).symm)
    · refine own_st (B := s₁.setTop (mkF m 161 #[.val (.int p0), .unset] [(.int (12288 : Int32)), (.int p0)])) (fun target kt => ?_) ?_
      · show Steps p.tables e below (s₁.setTop (mkF m 154 #[.val (.int p0), .unset] [(.int (12272 : Int32)), (.int p0)])) target
        refine XS.icmpNo X0.here hx rfl (hb hby own_d2_154) rfl (flt c154).1 ?_
        show Steps p.tables e below (s₁.setTop (mkF m 157 #[.val (.int p0), .unset] [])) target
        refine XS.iloadN X0.here hx rfl (hb hby own_d2_157) rfl ?_
        show Steps p.tables e below (s₁.setTop (mkF m 158 #[.val (.int p0), .unset] [(.int p0)])) target
        refine XS.sipush X0.here hx rfl (hb hby own_d2_158) ?_
        exact kt
      by_cases c161 : (12288 : Int32) < p0
      · refine own_st (B := s₁.setTop (mkF m 166 #[.val (.int p0), .unset] [])) (fun target kt => ?_) ?_
        · show Steps p.tables e below (s₁.setTop (mkF m 161 #[.val (.int p0), .unset] [(.int (12288 : Int32)), (.int p0)])) target
          refine XS.icmpYes X0.here hx rfl (pc0 := 161) (pc' := 166) rfl (hb hby own_d2_161) rfl (tlt c161).2.2.1 (by decide) (by decide) ?_
          exact kt
        exact nd166 (hV.trans (own_bj rfl (fun q => (Or.inr ⟨c154, ⟨c161, q⟩⟩)) (fun q => (fun w => w.elim (fun u => c154 u.1) (fun u => (fun w => q w.2) u.2)))).symm)
      · refine own_st (B := s₁.setTop (mkF m 165 #[.val (.int p0), .unset] [(.int (0 : Int32))])) (fun target kt => ?_) ?_
        · show Steps p.tables e below (s₁.setTop (mkF m 161 #[.val (.int p0), .unset] [(.int (12288 : Int32)), (.int p0)])) target
          refine XS.icmpNo X0.here hx rfl (hb hby own_d2_161) rfl (flt c161).2.2.1 ?_
          show Steps p.tables e below (s₁.setTop (mkF m 164 #[.val (.int p0), .unset] [])) target
          refine XS.iconst X0.here hx rfl (hb hby own_d2_164) ?_
          exact kt
        have hval : own_b (own_R2_0 p0) = (0 : Int32) := hV.trans (show (0 : Int32) = own_b (own_R2_150 p0) from (own_b0 (fun w => w.elim (fun u => c154 u.1) (fun u => (fun w => c161 w.1) u.2))).symm).symm
        rw [hP]
        obtain ⟨fs, hr, hrun, hended, hW, hsame⟩ := X0.leave (v := some (.int (0 : Int32))) (fun h => by rw [Bd.returns] at h; cases h)
        have hend : Steps p.tables e below (s₁.setTop (mkF m 165 #[.val (.int p0), .unset] [(.int (0 : Int32))])) (s₁.setFrames fs) := by
          exact retN X0 hx (t := .boolean) Bd.returns (by simp) (hb hby own_d2_165) hr
        refine own_fin hend ⟨_, hrun, hended, _, _, rfl, ?_, ⟨_, rfl⟩, hW, hsame.mono (by decide) (by decide)⟩
        show own_Q2 Z p0 h0 n0 _ s₁.heap _
        rw [e0]
        exact ⟨(congrArg (fun z => some (Value.int z)) hval).symm, N0, rfl⟩
  have nd134 : own_b (own_R2_0 p0) = own_b (own_R2_134 p0) → own_Lead p.tables e below (s₁.setTop (mkF m 134 #[.val (.int p0), .unset] [])) P := by
    intro hV
    refine own_st (B := s₁.setTop (mkF m 138 #[.val (.int p0), .unset] [(.int (8592 : Int32)), (.int p0)])) (fun target kt => ?_) ?_
    · show Steps p.tables e below (s₁.setTop (mkF m 134 #[.val (.int p0), .unset] [])) target
      refine XS.iloadN X0.here hx rfl (hb hby own_d2_134) rfl ?_
      show Steps p.tables e below (s₁.setTop (mkF m 135 #[.val (.int p0), .unset] [(.int p0)])) target
      refine XS.sipush X0.here hx rfl (hb hby own_d2_135) ?_
      exact kt
    by_cases c138 : p0 < (8592 : Int32)
    · refine own_st (B := s₁.setTop (mkF m 150 #[.val (.int p0), .unset] [])) (fun target kt => ?_) ?_
      · show Steps p.tables e below (s₁.setTop (mkF m 138 #[.val (.int p0), .unset] [(.int (8592 : Int32)), (.int p0)])) target
        refine XS.icmpYes X0.here hx rfl (pc0 := 138) (pc' := 150) rfl (hb hby own_d2_138) rfl (tlt c138).1 (by decide) (by decide) ?_
        exact kt
      exact nd150 (hV.trans (own_bj rfl (fun q => (Or.inl ⟨c138, q⟩)) (fun q => (fun w => w.elim (fun u => q u.2) (fun u => u.1 c138)))).symm)
    · refine own_st (B := s₁.setTop (mkF m 145 #[.val (.int p0), .unset] [(.int (11263 : Int32)), (.int p0)])) (fun target kt => ?_) ?_
      · show Steps p.tables e below (s₁.setTop (mkF m 138 #[.val (.int p0), .unset] [(.int (8592 : Int32)), (.int p0)])) target
        refine XS.icmpNo X0.here hx rfl (hb hby own_d2_138) rfl (flt c138).1 ?_
        show Steps p.tables e below (s₁.setTop (mkF m 141 #[.val (.int p0), .unset] [])) target
        refine XS.iloadN X0.here hx rfl (hb hby own_d2_141) rfl ?_
        show Steps p.tables e below (s₁.setTop (mkF m 142 #[.val (.int p0), .unset] [(.int p0)])) target
        refine XS.sipush X0.here hx rfl (hb hby own_d2_142) ?_
        exact kt
      by_cases c145 : (11263 : Int32) < p0
      · refine own_st (B := s₁.setTop (mkF m 150 #[.val (.int p0), .unset] [])) (fun target kt => ?_) ?_
        · show Steps p.tables e below (s₁.setTop (mkF m 145 #[.val (.int p0), .unset] [(.int (11263 : Int32)), (.int p0)])) target
          refine XS.icmpYes X0.here hx rfl (pc0 := 145) (pc' := 150) rfl (hb hby own_d2_145) rfl (tlt c145).2.2.1 (by decide) (by decide) ?_
          exact kt
        exact nd150 (hV.trans (own_bj rfl (fun q => (Or.inr ⟨c138, ⟨c145, q⟩⟩)) (fun q => (fun w => w.elim (fun u => c138 u.1) (fun u => (fun w => q w.2) u.2)))).symm)
      · refine own_st (B := s₁.setTop (mkF m 149 #[.val (.int p0), .unset] [(.int (0 : Int32))])) (fun target kt => ?_) ?_
        · show Steps p.tables e below (s₁.setTop (mkF m 145 #[.val (.int p0), .unset] [(.int (11263 : Int32)), (.int p0)])) target
          refine XS.icmpNo X0.here hx rfl (hb hby own_d2_145) rfl (flt c145).2.2.1 ?_
          show Steps p.tables e below (s₁.setTop (mkF m 148 #[.val (.int p0), .unset] [])) target
          refine XS.iconst X0.here hx rfl (hb hby own_d2_148) ?_
          exact kt
        have hval : own_b (own_R2_0 p0) = (0 : Int32) := hV.trans (show (0 : Int32) = own_b (own_R2_134 p0) from (own_b0 (fun w => w.elim (fun u => c138 u.1) (fun u => (fun w => c145 w.1) u.2))).symm).symm
        rw [hP]
        obtain ⟨fs, hr, hrun, hended, hW, hsame⟩ := X0.leave (v := some (.int (0 : Int32))) (fun h => by rw [Bd.returns] at h; cases h)
        have hend : Steps p.tables e below (s₁.setTop (mkF m 149 #[.val (.int p0), .unset] [(.int (0 : Int32))])) (s₁.setFrames fs) := by
          exact retN X0 hx (t := .boolean) Bd.returns (by simp) (hb hby own_d2_149) hr
        refine own_fin hend ⟨_, hrun, hended, _, _, rfl, ?_, ⟨_, rfl⟩, hW, hsame.mono (by decide) (by decide)⟩
        show own_Q2 Z p0 h0 n0 _ s₁.heap _
        rw [e0]
        exact ⟨(congrArg (fun z => some (Value.int z)) hval).symm, N0, rfl⟩
  have nd128 : own_b (own_R2_0 p0) = own_b (own_R2_128 p0) → own_Lead p.tables e below (s₁.setTop (mkF m 128 #[.val (.int p0), .unset] [])) P := by
    intro hV
    refine own_st (B := s₁.setTop (mkF m 133 #[.val (.int p0), .unset] [(.int (1 : Int32))])) (fun target kt => ?_) ?_
    · show Steps p.tables e below (s₁.setTop (mkF m 128 #[.val (.int p0), .unset] [])) target
      refine XS.iconst X0.here hx rfl (hb hby own_d2_128) ?_
      show Steps p.tables e below (s₁.setTop (mkF m 129 #[.val (.int p0), .unset] [(.int (1 : Int32))])) target
      refine XS.goto X0.here hx rfl (pc0 := 129) (pc' := 133) rfl (hb hby own_d2_129) (by decide) (by decide) ?_
      exact kt
    have hval : own_b (own_R2_0 p0) = (1 : Int32) := hV.trans (show (1 : Int32) = own_b (own_R2_128 p0) from (own_b1 trivial).symm).symm
    rw [hP]
    obtain ⟨fs, hr, hrun, hended, hW, hsame⟩ := X0.leave (v := some (.int (1 : Int32))) (fun h => by rw [Bd.returns] at h; cases h)
    have hend : Steps p.tables e below (s₁.setTop (mkF m 133 #[.val (.int p0), .unset] [(.int (1 : Int32))])) (s₁.setFrames fs) := by
      exact retN X0 hx (t := .boolean) Bd.returns (by simp) (hb hby own_d2_133) hr
    refine own_fin hend ⟨_, hrun, hended, _, _, rfl, ?_, ⟨_, rfl⟩, hW, hsame.mono (by decide) (by decide)⟩
    show own_Q2 Z p0 h0 n0 _ s₁.heap _
    rw [e0]
    exact ⟨(congrArg (fun z => some (Value.int z)) hval).symm, N0, rfl⟩
  have nd91 : own_b (own_R2_0 p0) = own_b (own_R2_91 p0) → own_Lead p.tables e below (s₁.setTop (mkF m 91 #[.val (.int p0), .unset] [])) P := by
    intro hV
    refine own_st (B := s₁.setTop (mkF m 95 #[.val (.int p0), .unset] [(.int (894 : Int32)), (.int p0)])) (fun target kt => ?_) ?_
    · show Steps p.tables e below (s₁.setTop (mkF m 91 #[.val (.int p0), .unset] [])) target
      refine XS.iloadN X0.here hx rfl (hb hby own_d2_91) rfl ?_
      show Steps p.tables e below (s₁.setTop (mkF m 92 #[.val (.int p0), .unset] [(.int p0)])) target
      refine XS.sipush X0.here hx rfl (hb hby own_d2_92) ?_
      exact kt
    by_cases c95 : p0 = (894 : Int32)
    · refine own_st (B := s₁.setTop (mkF m 99 #[.val (.int p0), .unset] [(.int (0 : Int32))])) (fun target kt => ?_) ?_
      · show Steps p.tables e below (s₁.setTop (mkF m 95 #[.val (.int p0), .unset] [(.int (894 : Int32)), (.int p0)])) target
        refine XS.icmpNo X0.here hx rfl (hb hby own_d2_95) rfl (teq c95).2 ?_
        show Steps p.tables e below (s₁.setTop (mkF m 98 #[.val (.int p0), .unset] [])) target
        refine XS.iconst X0.here hx rfl (hb hby own_d2_98) ?_
        exact kt
      have hval : own_b (own_R2_0 p0) = (0 : Int32) := hV.trans (show (0 : Int32) = own_b (own_R2_91 p0) from (own_b0 (fun w => w.1 c95)).symm).symm
      rw [hP]
      obtain ⟨fs, hr, hrun, hended, hW, hsame⟩ := X0.leave (v := some (.int (0 : Int32))) (fun h => by rw [Bd.returns] at h; cases h)
      have hend : Steps p.tables e below (s₁.setTop (mkF m 99 #[.val (.int p0), .unset] [(.int (0 : Int32))])) (s₁.setFrames fs) := by
        exact retN X0 hx (t := .boolean) Bd.returns (by simp) (hb hby own_d2_99) hr
      refine own_fin hend ⟨_, hrun, hended, _, _, rfl, ?_, ⟨_, rfl⟩, hW, hsame.mono (by decide) (by decide)⟩
      show own_Q2 Z p0 h0 n0 _ s₁.heap _
      rw [e0]
      exact ⟨(congrArg (fun z => some (Value.int z)) hval).symm, N0, rfl⟩
    · refine own_st (B := s₁.setTop (mkF m 104 #[.val (.int p0), .unset] [(.int (8192 : Int32)), (.int p0)])) (fun target kt => ?_) ?_
      · show Steps p.tables e below (s₁.setTop (mkF m 95 #[.val (.int p0), .unset] [(.int (894 : Int32)), (.int p0)])) target
        refine XS.icmpYes X0.here hx rfl (pc0 := 95) (pc' := 100) rfl (hb hby own_d2_95) rfl (feq c95).2 (by decide) (by decide) ?_
        show Steps p.tables e below (s₁.setTop (mkF m 100 #[.val (.int p0), .unset] [])) target
        refine XS.iloadN X0.here hx rfl (hb hby own_d2_100) rfl ?_
        show Steps p.tables e below (s₁.setTop (mkF m 101 #[.val (.int p0), .unset] [(.int p0)])) target
        refine XS.sipush X0.here hx rfl (hb hby own_d2_101) ?_
        exact kt
      by_cases c104 : p0 < (8192 : Int32)
      · refine own_st (B := s₁.setTop (mkF m 134 #[.val (.int p0), .unset] [])) (fun target kt => ?_) ?_
        · show Steps p.tables e below (s₁.setTop (mkF m 104 #[.val (.int p0), .unset] [(.int (8192 : Int32)), (.int p0)])) target
          refine XS.icmpYes X0.here hx rfl (pc0 := 104) (pc' := 134) rfl (hb hby own_d2_104) rfl (tlt c104).1 (by decide) (by decide) ?_
          exact kt
        exact nd134 (hV.trans (own_bj rfl (fun q => ⟨c95, (Or.inl ⟨c104, q⟩)⟩) (fun q => (fun w => (fun w => w.elim (fun u => q u.2) (fun u => u.1 c104)) w.2))).symm)
      · refine own_st (B := s₁.setTop (mkF m 111 #[.val (.int p0), .unset] [(.int (8303 : Int32)), (.int p0)])) (fun target kt => ?_) ?_
        · show Steps p.tables e below (s₁.setTop (mkF m 104 #[.val (.int p0), .unset] [(.int (8192 : Int32)), (.int p0)])) target
          refine XS.icmpNo X0.here hx rfl (hb hby own_d2_104) rfl (flt c104).1 ?_
          show Steps p.tables e below (s₁.setTop (mkF m 107 #[.val (.int p0), .unset] [])) target
          refine XS.iloadN X0.here hx rfl (hb hby own_d2_107) rfl ?_
          show Steps p.tables e below (s₁.setTop (mkF m 108 #[.val (.int p0), .unset] [(.int p0)])) target
          refine XS.sipush X0.here hx rfl (hb hby own_d2_108) ?_
          exact kt
        by_cases c111 : (8303 : Int32) < p0
        · refine own_st (B := s₁.setTop (mkF m 134 #[.val (.int p0), .unset] [])) (fun target kt => ?_) ?_
          · show Steps p.tables e below (s₁.setTop (mkF m 111 #[.val (.int p0), .unset] [(.int (8303 : Int32)), (.int p0)])) target
            refine XS.icmpYes X0.here hx rfl (pc0 := 111) (pc' := 134) rfl (hb hby own_d2_111) rfl (tlt c111).2.2.1 (by decide) (by decide) ?_
            exact kt
          exact nd134 (hV.trans (own_bj rfl (fun q => ⟨c95, (Or.inr ⟨c104, (Or.inl ⟨c111, q⟩)⟩)⟩) (fun q => (fun w => (fun w => w.elim (fun u => c104 u.1) (fun u => (fun w => w.elim (fun u => q u.2) (fun u => u.1 c111)) u.2)) w.2))).symm)
        · refine own_st (B := s₁.setTop (mkF m 118 #[.val (.int p0), .unset] [(.int (8204 : Int32)), (.int p0)])) (fun target kt => ?_) ?_
          · show Steps p.tables e below (s₁.setTop (mkF m 111 #[.val (.int p0), .unset] [(.int (8303 : Int32)), (.int p0)])) target
            refine XS.icmpNo X0.here hx rfl (hb hby own_d2_111) rfl (flt c111).2.2.1 ?_
            show Steps p.tables e below (s₁.setTop (mkF m 114 #[.val (.int p0), .unset] [])) target
            refine XS.iloadN X0.here hx rfl (hb hby own_d2_114) rfl ?_
            show Steps p.tables e below (s₁.setTop (mkF m 115 #[.val (.int p0), .unset] [(.int p0)])) target
            refine XS.sipush X0.here hx rfl (hb hby own_d2_115) ?_
            exact kt
          by_cases c118 : p0 = (8204 : Int32)
          · refine own_st (B := s₁.setTop (mkF m 128 #[.val (.int p0), .unset] [])) (fun target kt => ?_) ?_
            · show Steps p.tables e below (s₁.setTop (mkF m 118 #[.val (.int p0), .unset] [(.int (8204 : Int32)), (.int p0)])) target
              refine XS.icmpYes X0.here hx rfl (pc0 := 118) (pc' := 128) rfl (hb hby own_d2_118) rfl (teq c118).1 (by decide) (by decide) ?_
              exact kt
            exact nd128 (hV.trans (own_bj rfl (fun q => ⟨c95, (Or.inr ⟨c104, (Or.inr ⟨c111, (Or.inl ⟨c118, q⟩)⟩)⟩)⟩) (fun q => (fun w => (fun w => w.elim (fun u => c104 u.1) (fun u => (fun w => w.elim (fun u => c111 u.1) (fun u => (fun w => w.elim (fun u => q u.2) (fun u => u.1 c118)) u.2)) u.2)) w.2))).symm)
          · refine own_st (B := s₁.setTop (mkF m 125 #[.val (.int p0), .unset] [(.int (8205 : Int32)), (.int p0)])) (fun target kt => ?_) ?_
            · show Steps p.tables e below (s₁.setTop (mkF m 118 #[.val (.int p0), .unset] [(.int (8204 : Int32)), (.int p0)])) target
              refine XS.icmpNo X0.here hx rfl (hb hby own_d2_118) rfl (feq c118).1 ?_
              show Steps p.tables e below (s₁.setTop (mkF m 121 #[.val (.int p0), .unset] [])) target
              refine XS.iloadN X0.here hx rfl (hb hby own_d2_121) rfl ?_
              show Steps p.tables e below (s₁.setTop (mkF m 122 #[.val (.int p0), .unset] [(.int p0)])) target
              refine XS.sipush X0.here hx rfl (hb hby own_d2_122) ?_
              exact kt
            by_cases c125 : p0 = (8205 : Int32)
            · refine own_st (B := s₁.setTop (mkF m 128 #[.val (.int p0), .unset] [])) (fun target kt => ?_) ?_
              · show Steps p.tables e below (s₁.setTop (mkF m 125 #[.val (.int p0), .unset] [(.int (8205 : Int32)), (.int p0)])) target
                refine XS.icmpNo X0.here hx rfl (hb hby own_d2_125) rfl (teq c125).2 ?_
                exact kt
              exact nd128 (hV.trans (own_bj rfl (fun q => ⟨c95, (Or.inr ⟨c104, (Or.inr ⟨c111, (Or.inr ⟨c118, ⟨c125, q⟩⟩)⟩)⟩)⟩) (fun q => (fun w => (fun w => w.elim (fun u => c104 u.1) (fun u => (fun w => w.elim (fun u => c111 u.1) (fun u => (fun w => w.elim (fun u => c118 u.1) (fun u => (fun w => q w.2) u.2)) u.2)) u.2)) w.2))).symm)
            · refine own_st (B := s₁.setTop (mkF m 133 #[.val (.int p0), .unset] [(.int (0 : Int32))])) (fun target kt => ?_) ?_
              · show Steps p.tables e below (s₁.setTop (mkF m 125 #[.val (.int p0), .unset] [(.int (8205 : Int32)), (.int p0)])) target
                refine XS.icmpYes X0.here hx rfl (pc0 := 125) (pc' := 132) rfl (hb hby own_d2_125) rfl (feq c125).2 (by decide) (by decide) ?_
                show Steps p.tables e below (s₁.setTop (mkF m 132 #[.val (.int p0), .unset] [])) target
                refine XS.iconst X0.here hx rfl (hb hby own_d2_132) ?_
                exact kt
              have hval : own_b (own_R2_0 p0) = (0 : Int32) := hV.trans (show (0 : Int32) = own_b (own_R2_91 p0) from (own_b0 (fun w => (fun w => w.elim (fun u => c104 u.1) (fun u => (fun w => w.elim (fun u => c111 u.1) (fun u => (fun w => w.elim (fun u => c118 u.1) (fun u => (fun w => c125 w.1) u.2)) u.2)) u.2)) w.2)).symm).symm
              rw [hP]
              obtain ⟨fs, hr, hrun, hended, hW, hsame⟩ := X0.leave (v := some (.int (0 : Int32))) (fun h => by rw [Bd.returns] at h; cases h)
              have hend : Steps p.tables e below (s₁.setTop (mkF m 133 #[.val (.int p0), .unset] [(.int (0 : Int32))])) (s₁.setFrames fs) := by
                exact retN X0 hx (t := .boolean) Bd.returns (by simp) (hb hby own_d2_133) hr
              refine own_fin hend ⟨_, hrun, hended, _, _, rfl, ?_, ⟨_, rfl⟩, hW, hsame.mono (by decide) (by decide)⟩
              show own_Q2 Z p0 h0 n0 _ s₁.heap _
              rw [e0]
              exact ⟨(congrArg (fun z => some (Value.int z)) hval).symm, N0, rfl⟩
  have nd73 : own_b (own_R2_0 p0) = own_b (own_R2_73 p0) → own_Lead p.tables e below (s₁.setTop (mkF m 73 #[.val (.int p0), .unset] [])) P := by
    intro hV
    refine own_st (B := s₁.setTop (mkF m 74 #[.val (.int p0), .unset] [(.int (0 : Int32))])) (fun target kt => ?_) ?_
    · show Steps p.tables e below (s₁.setTop (mkF m 73 #[.val (.int p0), .unset] [])) target
      refine XS.iconst X0.here hx rfl (hb hby own_d2_73) ?_
      exact kt
    have hval : own_b (own_R2_0 p0) = (0 : Int32) := hV.trans (show (0 : Int32) = own_b (own_R2_73 p0) from (own_b0 (fun w => w)).symm).symm
    rw [hP]
    obtain ⟨fs, hr, hrun, hended, hW, hsame⟩ := X0.leave (v := some (.int (0 : Int32))) (fun h => by rw [Bd.returns] at h; cases h)
    have hend : Steps p.tables e below (s₁.setTop (mkF m 74 #[.val (.int p0), .unset] [(.int (0 : Int32))])) (s₁.setFrames fs) := by
      exact retN X0 hx (t := .boolean) Bd.returns (by simp) (hb hby own_d2_74) hr
    refine own_fin hend ⟨_, hrun, hended, _, _, rfl, ?_, ⟨_, rfl⟩, hW, hsame.mono (by decide) (by decide)⟩
    show own_Q2 Z p0 h0 n0 _ s₁.heap _
    rw [e0]
    exact ⟨(congrArg (fun z => some (Value.int z)) hval).symm, N0, rfl⟩
  have nd36 : own_b (own_R2_0 p0) = own_b (own_R2_36 p0) → own_Lead p.tables e below (s₁.setTop (mkF m 36 #[.val (.int p0), .val (.int (p0 ||| (32 : Int32)))] [])) P := by
    intro hV
    refine own_st (B := s₁.setTop (mkF m 41 #[.val (.int p0), .val (.int (p0 ||| (32 : Int32)))] [(.int (1 : Int32))])) (fun target kt => ?_) ?_
    · show Steps p.tables e below (s₁.setTop (mkF m 36 #[.val (.int p0), .val (.int (p0 ||| (32 : Int32)))] [])) target
      refine XS.iconst X0.here hx rfl (hb hby own_d2_36) ?_
      show Steps p.tables e below (s₁.setTop (mkF m 37 #[.val (.int p0), .val (.int (p0 ||| (32 : Int32)))] [(.int (1 : Int32))])) target
      refine XS.goto X0.here hx rfl (pc0 := 37) (pc' := 41) rfl (hb hby own_d2_37) (by decide) (by decide) ?_
      exact kt
    have hval : own_b (own_R2_0 p0) = (1 : Int32) := hV.trans (show (1 : Int32) = own_b (own_R2_36 p0) from (own_b1 trivial).symm).symm
    rw [hP]
    obtain ⟨fs, hr, hrun, hended, hW, hsame⟩ := X0.leave (v := some (.int (1 : Int32))) (fun h => by rw [Bd.returns] at h; cases h)
    have hend : Steps p.tables e below (s₁.setTop (mkF m 41 #[.val (.int p0), .val (.int (p0 ||| (32 : Int32)))] [(.int (1 : Int32))])) (s₁.setFrames fs) := by
      exact retN X0 hx (t := .boolean) Bd.returns (by simp) (hb hby own_d2_41) hr
    refine own_fin hend ⟨_, hrun, hended, _, _, rfl, ?_, ⟨_, rfl⟩, hW, hsame.mono (by decide) (by decide)⟩
    show own_Q2 Z p0 h0 n0 _ s₁.heap _
    rw [e0]
    exact ⟨(congrArg (fun z => some (Value.int z)) hval).symm, N0, rfl⟩
  have nd30 : own_b (own_R2_0 p0) = own_b (own_R2_30 p0) → own_Lead p.tables e below (s₁.setTop (mkF m 30 #[.val (.int p0), .val (.int (p0 ||| (32 : Int32)))] [])) P := by
    intro hV
    refine own_st (B := s₁.setTop (mkF m 33 #[.val (.int p0), .val (.int (p0 ||| (32 : Int32)))] [(.int (95 : Int32)), (.int p0)])) (fun target kt => ?_) ?_
    · show Steps p.tables e below (s₁.setTop (mkF m 30 #[.val (.int p0), .val (.int (p0 ||| (32 : Int32)))] [])) target
      refine XS.iloadN X0.here hx rfl (hb hby own_d2_30) rfl ?_
      show Steps p.tables e below (s₁.setTop (mkF m 31 #[.val (.int p0), .val (.int (p0 ||| (32 : Int32)))] [(.int p0)])) target
      refine XS.bipush X0.here hx rfl (hb hby own_d2_31) ?_
      exact kt
    by_cases c33 : p0 = (95 : Int32)
    · refine own_st (B := s₁.setTop (mkF m 36 #[.val (.int p0), .val (.int (p0 ||| (32 : Int32)))] [])) (fun target kt => ?_) ?_
      · show Steps p.tables e below (s₁.setTop (mkF m 33 #[.val (.int p0), .val (.int (p0 ||| (32 : Int32)))] [(.int (95 : Int32)), (.int p0)])) target
        refine XS.icmpNo X0.here hx rfl (hb hby own_d2_33) rfl (teq c33).2 ?_
        exact kt
      exact nd36 (hV.trans (own_bj rfl (fun q => ⟨c33, q⟩) (fun q => (fun w => q w.2))).symm)
    · refine own_st (B := s₁.setTop (mkF m 41 #[.val (.int p0), .val (.int (p0 ||| (32 : Int32)))] [(.int (0 : Int32))])) (fun target kt => ?_) ?_
      · show Steps p.tables e below (s₁.setTop (mkF m 33 #[.val (.int p0), .val (.int (p0 ||| (32 : Int32)))] [(.int (95 : Int32)), (.int p0)])) target
        refine XS.icmpYes X0.here hx rfl (pc0 := 33) (pc' := 40) rfl (hb hby own_d2_33) rfl (feq c33).2 (by decide) (by decide) ?_
        show Steps p.tables e below (s₁.setTop (mkF m 40 #[.val (.int p0), .val (.int (p0 ||| (32 : Int32)))] [])) target
        refine XS.iconst X0.here hx rfl (hb hby own_d2_40) ?_
        exact kt
      have hval : own_b (own_R2_0 p0) = (0 : Int32) := hV.trans (show (0 : Int32) = own_b (own_R2_30 p0) from (own_b0 (fun w => c33 w.1)).symm).symm
      rw [hP]
      obtain ⟨fs, hr, hrun, hended, hW, hsame⟩ := X0.leave (v := some (.int (0 : Int32))) (fun h => by rw [Bd.returns] at h; cases h)
      have hend : Steps p.tables e below (s₁.setTop (mkF m 41 #[.val (.int p0), .val (.int (p0 ||| (32 : Int32)))] [(.int (0 : Int32))])) (s₁.setFrames fs) := by
        exact retN X0 hx (t := .boolean) Bd.returns (by simp) (hb hby own_d2_41) hr
      refine own_fin hend ⟨_, hrun, hended, _, _, rfl, ?_, ⟨_, rfl⟩, hW, hsame.mono (by decide) (by decide)⟩
      show own_Q2 Z p0 h0 n0 _ s₁.heap _
      rw [e0]
      exact ⟨(congrArg (fun z => some (Value.int z)) hval).symm, N0, rfl⟩
  have nd0 : own_b (own_R2_0 p0) = own_b (own_R2_0 p0) → own_Lead p.tables e below (s₁.setTop (mkF m 0 #[.val (.int p0), .unset] [])) P := by
    intro hV
    refine own_st (B := s₁.setTop (mkF m 1 #[.val (.int p0), .unset] [(.int p0)])) (fun target kt => ?_) ?_
    · show Steps p.tables e below (s₁.setTop (mkF m 0 #[.val (.int p0), .unset] [])) target
      refine XS.iloadN X0.here hx rfl (hb hby own_d2_0) rfl ?_
      exact kt
    by_cases c1 : p0 < (0 : Int32)
    · refine own_st (B := s₁.setTop (mkF m 5 #[.val (.int p0), .unset] [(.int (0 : Int32))])) (fun target kt => ?_) ?_
      · show Steps p.tables e below (s₁.setTop (mkF m 1 #[.val (.int p0), .unset] [(.int p0)])) target
        refine XS.ifNo X0.here hx rfl (hb hby own_d2_1) rfl ((if0 _ _).trans (tlt c1).2.1) ?_
        show Steps p.tables e below (s₁.setTop (mkF m 4 #[.val (.int p0), .unset] [])) target
        refine XS.iconst X0.here hx rfl (hb hby own_d2_4) ?_
        exact kt
      have hval : own_b (own_R2_0 p0) = (0 : Int32) := hV.trans (show (0 : Int32) = own_b (own_R2_0 p0) from (own_b0 (fun w => w.1 c1)).symm).symm
      rw [hP]
      obtain ⟨fs, hr, hrun, hended, hW, hsame⟩ := X0.leave (v := some (.int (0 : Int32))) (fun h => by rw [Bd.returns] at h; cases h)
      have hend : Steps p.tables e below (s₁.setTop (mkF m 5 #[.val (.int p0), .unset] [(.int (0 : Int32))])) (s₁.setFrames fs) := by
        exact retN X0 hx (t := .boolean) Bd.returns (by simp) (hb hby own_d2_5) hr
      refine own_fin hend ⟨_, hrun, hended, _, _, rfl, ?_, ⟨_, rfl⟩, hW, hsame.mono (by decide) (by decide)⟩
      show own_Q2 Z p0 h0 n0 _ s₁.heap _
      rw [e0]
      exact ⟨(congrArg (fun z => some (Value.int z)) hval).symm, N0, rfl⟩
    · refine own_st (B := s₁.setTop (mkF m 10 #[.val (.int p0), .unset] [(.int (128 : Int32)), (.int p0)])) (fun target kt => ?_) ?_
      · show Steps p.tables e below (s₁.setTop (mkF m 1 #[.val (.int p0), .unset] [(.int p0)])) target
        refine XS.ifYes X0.here hx rfl (pc0 := 1) (pc' := 6) rfl (hb hby own_d2_1) rfl ((if0 _ _).trans (flt c1).2.1) (by decide) (by decide) ?_
        show Steps p.tables e below (s₁.setTop (mkF m 6 #[.val (.int p0), .unset] [])) target
        refine XS.iloadN X0.here hx rfl (hb hby own_d2_6) rfl ?_
        show Steps p.tables e below (s₁.setTop (mkF m 7 #[.val (.int p0), .unset] [(.int p0)])) target
        refine XS.sipush X0.here hx rfl (hb hby own_d2_7) ?_
        exact kt
      by_cases c10 : p0 < (128 : Int32)
      · refine own_st (B := s₁.setTop (mkF m 21 #[.val (.int p0), .val (.int (p0 ||| (32 : Int32)))] [(.int (97 : Int32)), (.int (p0 ||| (32 : Int32)))])) (fun target kt => ?_) ?_
        · show Steps p.tables e below (s₁.setTop (mkF m 10 #[.val (.int p0), .unset] [(.int (128 : Int32)), (.int p0)])) target
          refine XS.icmpNo X0.here hx rfl (hb hby own_d2_10) rfl (tlt c10).2.1 ?_
          show Steps p.tables e below (s₁.setTop (mkF m 13 #[.val (.int p0), .unset] [])) target
          refine XS.iloadN X0.here hx rfl (hb hby own_d2_13) rfl ?_
          show Steps p.tables e below (s₁.setTop (mkF m 14 #[.val (.int p0), .unset] [(.int p0)])) target
          refine XS.bipush X0.here hx rfl (hb hby own_d2_14) ?_
          show Steps p.tables e below (s₁.setTop (mkF m 16 #[.val (.int p0), .unset] [(.int (32 : Int32)), (.int p0)])) target
          refine XS.ior X0.here hx rfl (hb hby own_d2_16) rfl ?_
          show Steps p.tables e below (s₁.setTop (mkF m 17 #[.val (.int p0), .unset] [(.int (p0 ||| (32 : Int32)))])) target
          refine XS.istoreN X0.here hx rfl (hb hby own_d2_17) rfl (l' := #[.val (.int p0), .val (.int (p0 ||| (32 : Int32)))]) rfl ?_
          show Steps p.tables e below (s₁.setTop (mkF m 18 #[.val (.int p0), .val (.int (p0 ||| (32 : Int32)))] [])) target
          refine XS.iloadN X0.here hx rfl (hb hby own_d2_18) rfl ?_
          show Steps p.tables e below (s₁.setTop (mkF m 19 #[.val (.int p0), .val (.int (p0 ||| (32 : Int32)))] [(.int (p0 ||| (32 : Int32)))])) target
          refine XS.bipush X0.here hx rfl (hb hby own_d2_19) ?_
          exact kt
        by_cases c21 : (p0 ||| (32 : Int32)) < (97 : Int32)
        · refine own_st (B := s₁.setTop (mkF m 30 #[.val (.int p0), .val (.int (p0 ||| (32 : Int32)))] [])) (fun target kt => ?_) ?_
          · show Steps p.tables e below (s₁.setTop (mkF m 21 #[.val (.int p0), .val (.int (p0 ||| (32 : Int32)))] [(.int (97 : Int32)), (.int (p0 ||| (32 : Int32)))])) target
            refine XS.icmpYes X0.here hx rfl (pc0 := 21) (pc' := 30) rfl (hb hby own_d2_21) rfl (tlt c21).1 (by decide) (by decide) ?_
            exact kt
          exact nd30 (hV.trans (own_bj rfl (fun q => ⟨c1, (Or.inl ⟨c10, (Or.inl ⟨c21, q⟩)⟩)⟩) (fun q => (fun w => (fun w => w.elim (fun u => (fun w => w.elim (fun u => q u.2) (fun u => u.1 c21)) u.2) (fun u => u.1 c10)) w.2))).symm)
        · refine own_st (B := s₁.setTop (mkF m 27 #[.val (.int p0), .val (.int (p0 ||| (32 : Int32)))] [(.int (122 : Int32)), (.int (p0 ||| (32 : Int32)))])) (fun target kt => ?_) ?_
          · show Steps p.tables e below (s₁.setTop (mkF m 21 #[.val (.int p0), .val (.int (p0 ||| (32 : Int32)))] [(.int (97 : Int32)), (.int (p0 ||| (32 : Int32)))])) target
            refine XS.icmpNo X0.here hx rfl (hb hby own_d2_21) rfl (flt c21).1 ?_
            show Steps p.tables e below (s₁.setTop (mkF m 24 #[.val (.int p0), .val (.int (p0 ||| (32 : Int32)))] [])) target
            refine XS.iloadN X0.here hx rfl (hb hby own_d2_24) rfl ?_
            show Steps p.tables e below (s₁.setTop (mkF m 25 #[.val (.int p0), .val (.int (p0 ||| (32 : Int32)))] [(.int (p0 ||| (32 : Int32)))])) target
            refine XS.bipush X0.here hx rfl (hb hby own_d2_25) ?_
            exact kt
          by_cases c27 : (122 : Int32) < (p0 ||| (32 : Int32))
          · refine own_st (B := s₁.setTop (mkF m 30 #[.val (.int p0), .val (.int (p0 ||| (32 : Int32)))] [])) (fun target kt => ?_) ?_
            · show Steps p.tables e below (s₁.setTop (mkF m 27 #[.val (.int p0), .val (.int (p0 ||| (32 : Int32)))] [(.int (122 : Int32)), (.int (p0 ||| (32 : Int32)))])) target
              refine XS.icmpNo X0.here hx rfl (hb hby own_d2_27) rfl (tlt c27).2.2.2 ?_
              exact kt
            exact nd30 (hV.trans (own_bj rfl (fun q => ⟨c1, (Or.inl ⟨c10, (Or.inr ⟨c21, (Or.inl ⟨c27, q⟩)⟩)⟩)⟩) (fun q => (fun w => (fun w => w.elim (fun u => (fun w => w.elim (fun u => c21 u.1) (fun u => (fun w => w.elim (fun u => q u.2) (fun u => u.1 c27)) u.2)) u.2) (fun u => u.1 c10)) w.2))).symm)
          · refine own_st (B := s₁.setTop (mkF m 36 #[.val (.int p0), .val (.int (p0 ||| (32 : Int32)))] [])) (fun target kt => ?_) ?_
            · show Steps p.tables e below (s₁.setTop (mkF m 27 #[.val (.int p0), .val (.int (p0 ||| (32 : Int32)))] [(.int (122 : Int32)), (.int (p0 ||| (32 : Int32)))])) target
              refine XS.icmpYes X0.here hx rfl (pc0 := 27) (pc' := 36) rfl (hb hby own_d2_27) rfl (flt c27).2.2.2 (by decide) (by decide) ?_
              exact kt
            exact nd36 (hV.trans (own_bj rfl (fun q => ⟨c1, (Or.inl ⟨c10, (Or.inr ⟨c21, (Or.inr ⟨c27, q⟩)⟩)⟩)⟩) (fun q => (fun w => (fun w => w.elim (fun u => (fun w => w.elim (fun u => c21 u.1) (fun u => (fun w => w.elim (fun u => c27 u.1) (fun u => q u.2)) u.2)) u.2) (fun u => u.1 c10)) w.2))).symm)
      · refine own_st (B := s₁.setTop (mkF m 45 #[.val (.int p0), .unset] [(.int (983039 : Int32)), (.int p0)])) (fun target kt => ?_) ?_
        · show Steps p.tables e below (s₁.setTop (mkF m 10 #[.val (.int p0), .unset] [(.int (128 : Int32)), (.int p0)])) target
          refine XS.icmpYes X0.here hx rfl (pc0 := 10) (pc' := 42) rfl (hb hby own_d2_10) rfl (flt c10).2.1 (by decide) (by decide) ?_
          show Steps p.tables e below (s₁.setTop (mkF m 42 #[.val (.int p0), .unset] [])) target
          refine XS.iloadN X0.here hx rfl (hb hby own_d2_42) rfl ?_
          show Steps p.tables e below (s₁.setTop (mkF m 43 #[.val (.int p0), .unset] [(.int p0)])) target
          refine X0.ldcInt hx hown (mvT hZ (hw _ (List.mem_of_getElem? (i := 10) rfl))) (g := (mkF m 43 #[.val (.int p0), .unset] [(.int p0)])) rfl (hb hby own_d2_43) _ ?_
          exact kt
        by_cases c45 : (983039 : Int32) < p0
        · refine own_st (B := s₁.setTop (mkF m 49 #[.val (.int p0), .unset] [(.int (0 : Int32))])) (fun target kt => ?_) ?_
          · show Steps p.tables e below (s₁.setTop (mkF m 45 #[.val (.int p0), .unset] [(.int (983039 : Int32)), (.int p0)])) target
            refine XS.icmpNo X0.here hx rfl (hb hby own_d2_45) rfl (tlt c45).2.2.2 ?_
            show Steps p.tables e below (s₁.setTop (mkF m 48 #[.val (.int p0), .unset] [])) target
            refine XS.iconst X0.here hx rfl (hb hby own_d2_48) ?_
            exact kt
          have hval : own_b (own_R2_0 p0) = (0 : Int32) := hV.trans (show (0 : Int32) = own_b (own_R2_0 p0) from (own_b0 (fun w => (fun w => w.elim (fun u => c10 u.1) (fun u => (fun w => w.1 c45) u.2)) w.2)).symm).symm
          rw [hP]
          obtain ⟨fs, hr, hrun, hended, hW, hsame⟩ := X0.leave (v := some (.int (0 : Int32))) (fun h => by rw [Bd.returns] at h; cases h)
          have hend : Steps p.tables e below (s₁.setTop (mkF m 49 #[.val (.int p0), .unset] [(.int (0 : Int32))])) (s₁.setFrames fs) := by
            exact retN X0 hx (t := .boolean) Bd.returns (by simp) (hb hby own_d2_49) hr
          refine own_fin hend ⟨_, hrun, hended, _, _, rfl, ?_, ⟨_, rfl⟩, hW, hsame.mono (by decide) (by decide)⟩
          show own_Q2 Z p0 h0 n0 _ s₁.heap _
          rw [e0]
          exact ⟨(congrArg (fun z => some (Value.int z)) hval).symm, N0, rfl⟩
        · refine own_st (B := s₁.setTop (mkF m 54 #[.val (.int p0), .unset] [(.int (192 : Int32)), (.int p0)])) (fun target kt => ?_) ?_
          · show Steps p.tables e below (s₁.setTop (mkF m 45 #[.val (.int p0), .unset] [(.int (983039 : Int32)), (.int p0)])) target
            refine XS.icmpYes X0.here hx rfl (pc0 := 45) (pc' := 50) rfl (hb hby own_d2_45) rfl (flt c45).2.2.2 (by decide) (by decide) ?_
            show Steps p.tables e below (s₁.setTop (mkF m 50 #[.val (.int p0), .unset] [])) target
            refine XS.iloadN X0.here hx rfl (hb hby own_d2_50) rfl ?_
            show Steps p.tables e below (s₁.setTop (mkF m 51 #[.val (.int p0), .unset] [(.int p0)])) target
            refine XS.sipush X0.here hx rfl (hb hby own_d2_51) ?_
            exact kt
          by_cases c54 : p0 < (192 : Int32)
          · refine own_st (B := s₁.setTop (mkF m 58 #[.val (.int p0), .unset] [(.int (0 : Int32))])) (fun target kt => ?_) ?_
            · show Steps p.tables e below (s₁.setTop (mkF m 54 #[.val (.int p0), .unset] [(.int (192 : Int32)), (.int p0)])) target
              refine XS.icmpNo X0.here hx rfl (hb hby own_d2_54) rfl (tlt c54).2.1 ?_
              show Steps p.tables e below (s₁.setTop (mkF m 57 #[.val (.int p0), .unset] [])) target
              refine XS.iconst X0.here hx rfl (hb hby own_d2_57) ?_
              exact kt
            have hval : own_b (own_R2_0 p0) = (0 : Int32) := hV.trans (show (0 : Int32) = own_b (own_R2_0 p0) from (own_b0 (fun w => (fun w => w.elim (fun u => c10 u.1) (fun u => (fun w => (fun w => w.1 c54) w.2) u.2)) w.2)).symm).symm
            rw [hP]
            obtain ⟨fs, hr, hrun, hended, hW, hsame⟩ := X0.leave (v := some (.int (0 : Int32))) (fun h => by rw [Bd.returns] at h; cases h)
            have hend : Steps p.tables e below (s₁.setTop (mkF m 58 #[.val (.int p0), .unset] [(.int (0 : Int32))])) (s₁.setFrames fs) := by
              exact retN X0 hx (t := .boolean) Bd.returns (by simp) (hb hby own_d2_58) hr
            refine own_fin hend ⟨_, hrun, hended, _, _, rfl, ?_, ⟨_, rfl⟩, hW, hsame.mono (by decide) (by decide)⟩
            show own_Q2 Z p0 h0 n0 _ s₁.heap _
            rw [e0]
            exact ⟨(congrArg (fun z => some (Value.int z)) hval).symm, N0, rfl⟩
          · refine own_st (B := s₁.setTop (mkF m 63 #[.val (.int p0), .unset] [(.int (215 : Int32)), (.int p0)])) (fun target kt => ?_) ?_
            · show Steps p.tables e below (s₁.setTop (mkF m 54 #[.val (.int p0), .unset] [(.int (192 : Int32)), (.int p0)])) target
              refine XS.icmpYes X0.here hx rfl (pc0 := 54) (pc' := 59) rfl (hb hby own_d2_54) rfl (flt c54).2.1 (by decide) (by decide) ?_
              show Steps p.tables e below (s₁.setTop (mkF m 59 #[.val (.int p0), .unset] [])) target
              refine XS.iloadN X0.here hx rfl (hb hby own_d2_59) rfl ?_
              show Steps p.tables e below (s₁.setTop (mkF m 60 #[.val (.int p0), .unset] [(.int p0)])) target
              refine XS.sipush X0.here hx rfl (hb hby own_d2_60) ?_
              exact kt
            by_cases c63 : p0 = (215 : Int32)
            · refine own_st (B := s₁.setTop (mkF m 73 #[.val (.int p0), .unset] [])) (fun target kt => ?_) ?_
              · show Steps p.tables e below (s₁.setTop (mkF m 63 #[.val (.int p0), .unset] [(.int (215 : Int32)), (.int p0)])) target
                refine XS.icmpYes X0.here hx rfl (pc0 := 63) (pc' := 73) rfl (hb hby own_d2_63) rfl (teq c63).1 (by decide) (by decide) ?_
                exact kt
              exact nd73 (hV.trans (own_bj rfl (fun q => ⟨c1, (Or.inr ⟨c10, ⟨c45, ⟨c54, (Or.inl ⟨c63, q⟩)⟩⟩⟩)⟩) (fun q => (fun w => (fun w => w.elim (fun u => c10 u.1) (fun u => (fun w => (fun w => (fun w => w.elim (fun u => q u.2) (fun u => u.1 c63)) w.2) w.2) u.2)) w.2))).symm)
            · refine own_st (B := s₁.setTop (mkF m 70 #[.val (.int p0), .unset] [(.int (247 : Int32)), (.int p0)])) (fun target kt => ?_) ?_
              · show Steps p.tables e below (s₁.setTop (mkF m 63 #[.val (.int p0), .unset] [(.int (215 : Int32)), (.int p0)])) target
                refine XS.icmpNo X0.here hx rfl (hb hby own_d2_63) rfl (feq c63).1 ?_
                show Steps p.tables e below (s₁.setTop (mkF m 66 #[.val (.int p0), .unset] [])) target
                refine XS.iloadN X0.here hx rfl (hb hby own_d2_66) rfl ?_
                show Steps p.tables e below (s₁.setTop (mkF m 67 #[.val (.int p0), .unset] [(.int p0)])) target
                refine XS.sipush X0.here hx rfl (hb hby own_d2_67) ?_
                exact kt
              by_cases c70 : p0 = (247 : Int32)
              · refine own_st (B := s₁.setTop (mkF m 73 #[.val (.int p0), .unset] [])) (fun target kt => ?_) ?_
                · show Steps p.tables e below (s₁.setTop (mkF m 70 #[.val (.int p0), .unset] [(.int (247 : Int32)), (.int p0)])) target
                  refine XS.icmpNo X0.here hx rfl (hb hby own_d2_70) rfl (teq c70).2 ?_
                  exact kt
                exact nd73 (hV.trans (own_bj rfl (fun q => ⟨c1, (Or.inr ⟨c10, ⟨c45, ⟨c54, (Or.inr ⟨c63, (Or.inl ⟨c70, q⟩)⟩)⟩⟩⟩)⟩) (fun q => (fun w => (fun w => w.elim (fun u => c10 u.1) (fun u => (fun w => (fun w => (fun w => w.elim (fun u => c63 u.1) (fun u => (fun w => w.elim (fun u => q u.2) (fun u => u.1 c70)) u.2)) w.2) w.2) u.2)) w.2))).symm)
              · refine own_st (B := s₁.setTop (mkF m 79 #[.val (.int p0), .unset] [(.int (768 : Int32)), (.int p0)])) (fun target kt => ?_) ?_
                · show Steps p.tables e below (s₁.setTop (mkF m 70 #[.val (.int p0), .unset] [(.int (247 : Int32)), (.int p0)])) target
                  refine XS.icmpYes X0.here hx rfl (pc0 := 70) (pc' := 75) rfl (hb hby own_d2_70) rfl (feq c70).2 (by decide) (by decide) ?_
                  show Steps p.tables e below (s₁.setTop (mkF m 75 #[.val (.int p0), .unset] [])) target
                  refine XS.iloadN X0.here hx rfl (hb hby own_d2_75) rfl ?_
                  show Steps p.tables e below (s₁.setTop (mkF m 76 #[.val (.int p0), .unset] [(.int p0)])) target
                  refine XS.sipush X0.here hx rfl (hb hby own_d2_76) ?_
                  exact kt
                by_cases c79 : p0 < (768 : Int32)
                · refine own_st (B := s₁.setTop (mkF m 91 #[.val (.int p0), .unset] [])) (fun target kt => ?_) ?_
                  · show Steps p.tables e below (s₁.setTop (mkF m 79 #[.val (.int p0), .unset] [(.int (768 : Int32)), (.int p0)])) target
                    refine XS.icmpYes X0.here hx rfl (pc0 := 79) (pc' := 91) rfl (hb hby own_d2_79) rfl (tlt c79).1 (by decide) (by decide) ?_
                    exact kt
                  exact nd91 (hV.trans (own_bj rfl (fun q => ⟨c1, (Or.inr ⟨c10, ⟨c45, ⟨c54, (Or.inr ⟨c63, (Or.inr ⟨c70, (Or.inl ⟨c79, q⟩)⟩)⟩)⟩⟩⟩)⟩) (fun q => (fun w => (fun w => w.elim (fun u => c10 u.1) (fun u => (fun w => (fun w => (fun w => w.elim (fun u => c63 u.1) (fun u => (fun w => w.elim (fun u => c70 u.1) (fun u => (fun w => w.elim (fun u => q u.2) (fun u => u.1 c79)) u.2)) u.2)) w.2) w.2) u.2)) w.2))).symm)
                · refine own_st (B := s₁.setTop (mkF m 86 #[.val (.int p0), .unset] [(.int (879 : Int32)), (.int p0)])) (fun target kt => ?_) ?_
                  · show Steps p.tables e below (s₁.setTop (mkF m 79 #[.val (.int p0), .unset] [(.int (768 : Int32)), (.int p0)])) target
                    refine XS.icmpNo X0.here hx rfl (hb hby own_d2_79) rfl (flt c79).1 ?_
                    show Steps p.tables e below (s₁.setTop (mkF m 82 #[.val (.int p0), .unset] [])) target
                    refine XS.iloadN X0.here hx rfl (hb hby own_d2_82) rfl ?_
                    show Steps p.tables e below (s₁.setTop (mkF m 83 #[.val (.int p0), .unset] [(.int p0)])) target
                    refine XS.sipush X0.here hx rfl (hb hby own_d2_83) ?_
                    exact kt
                  by_cases c86 : (879 : Int32) < p0
                  · refine own_st (B := s₁.setTop (mkF m 91 #[.val (.int p0), .unset] [])) (fun target kt => ?_) ?_
                    · show Steps p.tables e below (s₁.setTop (mkF m 86 #[.val (.int p0), .unset] [(.int (879 : Int32)), (.int p0)])) target
                      refine XS.icmpYes X0.here hx rfl (pc0 := 86) (pc' := 91) rfl (hb hby own_d2_86) rfl (tlt c86).2.2.1 (by decide) (by decide) ?_
                      exact kt
                    exact nd91 (hV.trans (own_bj rfl (fun q => ⟨c1, (Or.inr ⟨c10, ⟨c45, ⟨c54, (Or.inr ⟨c63, (Or.inr ⟨c70, (Or.inr ⟨c79, ⟨c86, q⟩⟩)⟩)⟩)⟩⟩⟩)⟩) (fun q => (fun w => (fun w => w.elim (fun u => c10 u.1) (fun u => (fun w => (fun w => (fun w => w.elim (fun u => c63 u.1) (fun u => (fun w => w.elim (fun u => c70 u.1) (fun u => (fun w => w.elim (fun u => c79 u.1) (fun u => (fun w => q w.2) u.2)) u.2)) u.2)) w.2) w.2) u.2)) w.2))).symm)
                  · refine own_st (B := s₁.setTop (mkF m 90 #[.val (.int p0), .unset] [(.int (0 : Int32))])) (fun target kt => ?_) ?_
                    · show Steps p.tables e below (s₁.setTop (mkF m 86 #[.val (.int p0), .unset] [(.int (879 : Int32)), (.int p0)])) target
                      refine XS.icmpNo X0.here hx rfl (hb hby own_d2_86) rfl (flt c86).2.2.1 ?_
                      show Steps p.tables e below (s₁.setTop (mkF m 89 #[.val (.int p0), .unset] [])) target
                      refine XS.iconst X0.here hx rfl (hb hby own_d2_89) ?_
                      exact kt
                    have hval : own_b (own_R2_0 p0) = (0 : Int32) := hV.trans (show (0 : Int32) = own_b (own_R2_0 p0) from (own_b0 (fun w => (fun w => w.elim (fun u => c10 u.1) (fun u => (fun w => (fun w => (fun w => w.elim (fun u => c63 u.1) (fun u => (fun w => w.elim (fun u => c70 u.1) (fun u => (fun w => w.elim (fun u => c79 u.1) (fun u => (fun w => c86 w.1) u.2)) u.2)) u.2)) w.2) w.2) u.2)) w.2)).symm).symm
                    rw [hP]
                    obtain ⟨fs, hr, hrun, hended, hW, hsame⟩ := X0.leave (v := some (.int (0 : Int32))) (fun h => by rw [Bd.returns] at h; cases h)
                    have hend : Steps p.tables e below (s₁.setTop (mkF m 90 #[.val (.int p0), .unset] [(.int (0 : Int32))])) (s₁.setFrames fs) := by
                      exact retN X0 hx (t := .boolean) Bd.returns (by simp) (hb hby own_d2_90) hr
                    refine own_fin hend ⟨_, hrun, hended, _, _, rfl, ?_, ⟨_, rfl⟩, hW, hsame.mono (by decide) (by decide)⟩
                    show own_Q2 Z p0 h0 n0 _ s₁.heap _
                    rw [e0]
                    exact ⟨(congrArg (fun z => some (Value.int z)) hval).symm, N0, rfl⟩
  have hfin := nd0 rfl
  rw [hP] at hfin
  exact hfin
theorem own_enum {P : Int32 → Prop} (lo n : Nat) (hl : lo + n ≤ 1000) (h : ∀ k : Fin n, P (Int32.ofNat (lo + k.val))) (x : Int32) (h0 : (lo : Int) ≤ x.toInt) (h1 : x.toInt < lo + n) : P x := by
  have e : x = Int32.ofNat (lo + (x.toInt - lo).toNat) := by
    apply Int32.toInt_inj.mp
    have h2 : (Int32.ofNat (lo + (x.toInt - lo).toNat)).toInt = ((lo + (x.toInt - lo).toNat : Nat) : Int) := Int32.toInt_ofNat_small (by omega)
    rw [h2]
    omega
  have := h ⟨(x.toInt - lo).toNat, by omega⟩
  rw [e]
  exact this
theorem own_low (x : Int32) : 0 ≤ x.toInt → x.toInt < 128 → (((x ||| (32 : Int32)).toInt < 97 ↔ (x.toInt ≤ 64 ∨ x.toInt = 96)) ∧ (122 < (x ||| (32 : Int32)).toInt ↔ ((91 ≤ x.toInt ∧ x.toInt ≤ 95) ∨ 123 ≤ x.toInt))) := fun h0 h1 =>
  own_enum (P := fun x => (((x ||| (32 : Int32)).toInt < 97 ↔ (x.toInt ≤ 64 ∨ x.toInt = 96)) ∧ (122 < (x ||| (32 : Int32)).toInt ↔ ((91 ≤ x.toInt ∧ x.toInt ≤ 95) ∨ 123 ≤ x.toInt)))) 0 128 (by decide) (by decide +kernel) x h0 (by omega)
theorem own_lits : (0 : Int32).toInt = 0 ∧ (32 : Int32).toInt = 32 ∧ (65 : Int32).toInt = 65 ∧ (90 : Int32).toInt = 90 ∧ (95 : Int32).toInt = 95 ∧ (97 : Int32).toInt = 97 ∧ (122 : Int32).toInt = 122 ∧ (128 : Int32).toInt = 128 ∧ (192 : Int32).toInt = 192 ∧ (214 : Int32).toInt = 214 ∧ (215 : Int32).toInt = 215 ∧ (216 : Int32).toInt = 216 ∧ (246 : Int32).toInt = 246 ∧ (247 : Int32).toInt = 247 ∧ (248 : Int32).toInt = 248 ∧ (767 : Int32).toInt = 767 ∧ (768 : Int32).toInt = 768 ∧ (879 : Int32).toInt = 879 ∧ (880 : Int32).toInt = 880 ∧ (893 : Int32).toInt = 893 ∧ (894 : Int32).toInt = 894 ∧ (895 : Int32).toInt = 895 ∧ (8191 : Int32).toInt = 8191 ∧ (8192 : Int32).toInt = 8192 ∧ (8204 : Int32).toInt = 8204 ∧ (8205 : Int32).toInt = 8205 ∧ (8303 : Int32).toInt = 8303 ∧ (8304 : Int32).toInt = 8304 ∧ (8591 : Int32).toInt = 8591 ∧ (8592 : Int32).toInt = 8592 ∧ (11263 : Int32).toInt = 11263 ∧ (11264 : Int32).toInt = 11264 ∧ (12271 : Int32).toInt = 12271 ∧ (12272 : Int32).toInt = 12272 ∧ (12288 : Int32).toInt = 12288 ∧ (12289 : Int32).toInt = 12289 ∧ (55295 : Int32).toInt = 55295 ∧ (55296 : Int32).toInt = 55296 ∧ (63743 : Int32).toInt = 63743 ∧ (63744 : Int32).toInt = 63744 ∧ (64975 : Int32).toInt = 64975 ∧ (64976 : Int32).toInt = 64976 ∧ (65007 : Int32).toInt = 65007 ∧ (65008 : Int32).toInt = 65008 ∧ (65533 : Int32).toInt = 65533 ∧ (65534 : Int32).toInt = 65534 ∧ (65535 : Int32).toInt = 65535 ∧ (65536 : Int32).toInt = 65536 ∧ (983039 : Int32).toInt = 983039 := by decide
theorem own_N1_208 (x : Int32) : own_R1_208 x ↔ (False) := by
  unfold own_R1_208
  exact Iff.rfl
theorem own_N1_204 (x : Int32) : own_R1_204 x ↔ (True) := by
  unfold own_R1_204
  exact Iff.rfl
theorem own_N1_192 (x : Int32) : own_R1_192 x ↔ ((65536 ≤ x.toInt ∧ x.toInt ≤ 983039)) := by
  unfold own_R1_192
  simp only [own_N1_204, own_N1_208, Int32.lt_iff_toInt_lt, ← Int32.toInt_inj, and_true, and_false, or_false, false_or, true_and, false_and, or_true, true_or, show (65536 : Int32).toInt = 65536 by decide, show (983039 : Int32).toInt = 983039 by decide]
  omega
theorem own_N1_180 (x : Int32) : own_R1_180 x ↔ ((65008 ≤ x.toInt ∧ x.toInt ≤ 65533) ∨ (65536 ≤ x.toInt ∧ x.toInt ≤ 983039)) := by
  unfold own_R1_180
  simp only [own_N1_192, own_N1_204, Int32.lt_iff_toInt_lt, ← Int32.toInt_inj, and_true, and_false, or_false, false_or, true_and, false_and, or_true, true_or, show (65008 : Int32).toInt = 65008 by decide, show (65533 : Int32).toInt = 65533 by decide]
  omega
theorem own_N1_168 (x : Int32) : own_R1_168 x ↔ ((63744 ≤ x.toInt ∧ x.toInt ≤ 64975) ∨ (65008 ≤ x.toInt ∧ x.toInt ≤ 65533) ∨ (65536 ≤ x.toInt ∧ x.toInt ≤ 983039)) := by
  unfold own_R1_168
  simp only [own_N1_180, own_N1_204, Int32.lt_iff_toInt_lt, ← Int32.toInt_inj, and_true, and_false, or_false, false_or, true_and, false_and, or_true, true_or, show (63744 : Int32).toInt = 63744 by decide, show (64975 : Int32).toInt = 64975 by decide]
  omega
theorem own_N1_155 (x : Int32) : own_R1_155 x ↔ ((12289 ≤ x.toInt ∧ x.toInt ≤ 55295) ∨ (63744 ≤ x.toInt ∧ x.toInt ≤ 64975) ∨ (65008 ≤ x.toInt ∧ x.toInt ≤ 65533) ∨ (65536 ≤ x.toInt ∧ x.toInt ≤ 983039)) := by
  unfold own_R1_155
  simp only [own_N1_168, own_N1_204, Int32.lt_iff_toInt_lt, ← Int32.toInt_inj, and_true, and_false, or_false, false_or, true_and, false_and, or_true, true_or, show (12289 : Int32).toInt = 12289 by decide, show (55295 : Int32).toInt = 55295 by decide]
  omega
theorem own_N1_141 (x : Int32) : own_R1_141 x ↔ ((11264 ≤ x.toInt ∧ x.toInt ≤ 12271) ∨ (12289 ≤ x.toInt ∧ x.toInt ≤ 55295) ∨ (63744 ≤ x.toInt ∧ x.toInt ≤ 64975) ∨ (65008 ≤ x.toInt ∧ x.toInt ≤ 65533) ∨ (65536 ≤ x.toInt ∧ x.toInt ≤ 983039)) := by
  unfold own_R1_141
  simp only [own_N1_155, own_N1_204, Int32.lt_iff_toInt_lt, ← Int32.toInt_inj, and_true, and_false, or_false, false_or, true_and, false_and, or_true, true_or, show (11264 : Int32).toInt = 11264 by decide, show (12271 : Int32).toInt = 12271 by decide]
  omega
theorem own_N1_113 (x : Int32) : own_R1_113 x ↔ ((8204 ≤ x.toInt ∧ x.toInt ≤ 8205) ∨ (8304 ≤ x.toInt ∧ x.toInt ≤ 8591) ∨ (11264 ≤ x.toInt ∧ x.toInt ≤ 12271) ∨ (12289 ≤ x.toInt ∧ x.toInt ≤ 55295) ∨ (63744 ≤ x.toInt ∧ x.toInt ≤ 64975) ∨ (65008 ≤ x.toInt ∧ x.toInt ≤ 65533) ∨ (65536 ≤ x.toInt ∧ x.toInt ≤ 983039)) := by
  unfold own_R1_113
  simp only [own_N1_141, own_N1_204, Int32.lt_iff_toInt_lt, ← Int32.toInt_inj, and_true, and_false, or_false, false_or, true_and, false_and, or_true, true_or, show (8204 : Int32).toInt = 8204 by decide, show (8205 : Int32).toInt = 8205 by decide, show (8304 : Int32).toInt = 8304 by decide, show (8591 : Int32).toInt = 8591 by decide]
  omega
theorem own_N1_99 (x : Int32) : own_R1_99 x ↔ ((895 ≤ x.toInt ∧ x.toInt ≤ 8191) ∨ (8204 ≤ x.toInt ∧ x.toInt ≤ 8205) ∨ (8304 ≤ x.toInt ∧ x.toInt ≤ 8591) ∨ (11264 ≤ x.toInt ∧ x.toInt ≤ 12271) ∨ (12289 ≤ x.toInt ∧ x.toInt ≤ 55295) ∨ (63744 ≤ x.toInt ∧ x.toInt ≤ 64975) ∨ (65008 ≤ x.toInt ∧ x.toInt ≤ 65533) ∨ (65536 ≤ x.toInt ∧ x.toInt ≤ 983039)) := by
  unfold own_R1_99
  simp only [own_N1_113, own_N1_204, Int32.lt_iff_toInt_lt, ← Int32.toInt_inj, and_true, and_false, or_false, false_or, true_and, false_and, or_true, true_or, show (895 : Int32).toInt = 895 by decide, show (8191 : Int32).toInt = 8191 by decide]
  omega
theorem own_N1_85 (x : Int32) : own_R1_85 x ↔ ((880 ≤ x.toInt ∧ x.toInt ≤ 893) ∨ (895 ≤ x.toInt ∧ x.toInt ≤ 8191) ∨ (8204 ≤ x.toInt ∧ x.toInt ≤ 8205) ∨ (8304 ≤ x.toInt ∧ x.toInt ≤ 8591) ∨ (11264 ≤ x.toInt ∧ x.toInt ≤ 12271) ∨ (12289 ≤ x.toInt ∧ x.toInt ≤ 55295) ∨ (63744 ≤ x.toInt ∧ x.toInt ≤ 64975) ∨ (65008 ≤ x.toInt ∧ x.toInt ≤ 65533) ∨ (65536 ≤ x.toInt ∧ x.toInt ≤ 983039)) := by
  unfold own_R1_85
  simp only [own_N1_99, own_N1_204, Int32.lt_iff_toInt_lt, ← Int32.toInt_inj, and_true, and_false, or_false, false_or, true_and, false_and, or_true, true_or, show (880 : Int32).toInt = 880 by decide, show (893 : Int32).toInt = 893 by decide]
  omega
theorem own_N1_71 (x : Int32) : own_R1_71 x ↔ ((248 ≤ x.toInt ∧ x.toInt ≤ 767) ∨ (880 ≤ x.toInt ∧ x.toInt ≤ 893) ∨ (895 ≤ x.toInt ∧ x.toInt ≤ 8191) ∨ (8204 ≤ x.toInt ∧ x.toInt ≤ 8205) ∨ (8304 ≤ x.toInt ∧ x.toInt ≤ 8591) ∨ (11264 ≤ x.toInt ∧ x.toInt ≤ 12271) ∨ (12289 ≤ x.toInt ∧ x.toInt ≤ 55295) ∨ (63744 ≤ x.toInt ∧ x.toInt ≤ 64975) ∨ (65008 ≤ x.toInt ∧ x.toInt ≤ 65533) ∨ (65536 ≤ x.toInt ∧ x.toInt ≤ 983039)) := by
  unfold own_R1_71
  simp only [own_N1_85, own_N1_204, Int32.lt_iff_toInt_lt, ← Int32.toInt_inj, and_true, and_false, or_false, false_or, true_and, false_and, or_true, true_or, show (248 : Int32).toInt = 248 by decide, show (767 : Int32).toInt = 767 by decide]
  omega
theorem own_N1_57 (x : Int32) : own_R1_57 x ↔ ((216 ≤ x.toInt ∧ x.toInt ≤ 246) ∨ (248 ≤ x.toInt ∧ x.toInt ≤ 767) ∨ (880 ≤ x.toInt ∧ x.toInt ≤ 893) ∨ (895 ≤ x.toInt ∧ x.toInt ≤ 8191) ∨ (8204 ≤ x.toInt ∧ x.toInt ≤ 8205) ∨ (8304 ≤ x.toInt ∧ x.toInt ≤ 8591) ∨ (11264 ≤ x.toInt ∧ x.toInt ≤ 12271) ∨ (12289 ≤ x.toInt ∧ x.toInt ≤ 55295) ∨ (63744 ≤ x.toInt ∧ x.toInt ≤ 64975) ∨ (65008 ≤ x.toInt ∧ x.toInt ≤ 65533) ∨ (65536 ≤ x.toInt ∧ x.toInt ≤ 983039)) := by
  unfold own_R1_57
  simp only [own_N1_71, own_N1_204, Int32.lt_iff_toInt_lt, ← Int32.toInt_inj, and_true, and_false, or_false, false_or, true_and, false_and, or_true, true_or, show (216 : Int32).toInt = 216 by decide, show (246 : Int32).toInt = 246 by decide]
  omega
theorem own_N1_37 (x : Int32) : own_R1_37 x ↔ (True) := by
  unfold own_R1_37
  exact Iff.rfl
theorem own_N1_31 (x : Int32) : own_R1_31 x ↔ ((95 ≤ x.toInt ∧ x.toInt ≤ 95)) := by
  unfold own_R1_31
  simp only [own_N1_37, Int32.lt_iff_toInt_lt, ← Int32.toInt_inj, and_true, and_false, or_false, false_or, true_and, false_and, or_true, true_or, show (95 : Int32).toInt = 95 by decide]
  omega
theorem own_N1_19 (x : Int32) : own_R1_19 x ↔ ((65 ≤ x.toInt ∧ x.toInt ≤ 90) ∨ (95 ≤ x.toInt ∧ x.toInt ≤ 95)) := by
  unfold own_R1_19
  simp only [own_N1_31, own_N1_37, Int32.lt_iff_toInt_lt, ← Int32.toInt_inj, and_true, and_false, or_false, false_or, true_and, false_and, or_true, true_or, show (65 : Int32).toInt = 65 by decide, show (90 : Int32).toInt = 90 by decide]
  omega
theorem own_N1_0 (x : Int32) : own_R1_0 x ↔ ((65 ≤ x.toInt ∧ x.toInt ≤ 90) ∨ (95 ≤ x.toInt ∧ x.toInt ≤ 95) ∨ (97 ≤ x.toInt ∧ x.toInt ≤ 122) ∨ (192 ≤ x.toInt ∧ x.toInt ≤ 214) ∨ (216 ≤ x.toInt ∧ x.toInt ≤ 246) ∨ (248 ≤ x.toInt ∧ x.toInt ≤ 767) ∨ (880 ≤ x.toInt ∧ x.toInt ≤ 893) ∨ (895 ≤ x.toInt ∧ x.toInt ≤ 8191) ∨ (8204 ≤ x.toInt ∧ x.toInt ≤ 8205) ∨ (8304 ≤ x.toInt ∧ x.toInt ≤ 8591) ∨ (11264 ≤ x.toInt ∧ x.toInt ≤ 12271) ∨ (12289 ≤ x.toInt ∧ x.toInt ≤ 55295) ∨ (63744 ≤ x.toInt ∧ x.toInt ≤ 64975) ∨ (65008 ≤ x.toInt ∧ x.toInt ≤ 65533) ∨ (65536 ≤ x.toInt ∧ x.toInt ≤ 983039)) := by
  unfold own_R1_0
  simp only [own_N1_19, own_N1_37, own_N1_57, own_N1_204, Int32.lt_iff_toInt_lt, ← Int32.toInt_inj, and_true, and_false, or_false, false_or, true_and, false_and, or_true, true_or, show (97 : Int32).toInt = 97 by decide, show (122 : Int32).toInt = 122 by decide, show (128 : Int32).toInt = 128 by decide, show (192 : Int32).toInt = 192 by decide, show (214 : Int32).toInt = 214 by decide]
  omega
theorem own_N2_206 (x : Int32) : own_R2_206 x ↔ (False) := by
  unfold own_R2_206
  exact Iff.rfl
theorem own_N2_194 (x : Int32) : own_R2_194 x ↔ ((x.toInt ≤ 65533) ∨ (65536 ≤ x.toInt)) := by
  unfold own_R2_194
  simp only [own_N2_206, Int32.lt_iff_toInt_lt, ← Int32.toInt_inj, and_true, and_false, or_false, false_or, true_and, false_and, or_true, true_or, show (65534 : Int32).toInt = 65534 by decide, show (65535 : Int32).toInt = 65535 by decide]
  omega
theorem own_N2_180 (x : Int32) : own_R2_180 x ↔ ((x.toInt ≤ 64975) ∨ (65008 ≤ x.toInt ∧ x.toInt ≤ 65533) ∨ (65536 ≤ x.toInt)) := by
  unfold own_R2_180
  simp only [own_N2_194, Int32.lt_iff_toInt_lt, ← Int32.toInt_inj, and_true, and_false, or_false, false_or, true_and, false_and, or_true, true_or, show (64976 : Int32).toInt = 64976 by decide, show (65007 : Int32).toInt = 65007 by decide]
  omega
theorem own_N2_166 (x : Int32) : own_R2_166 x ↔ ((x.toInt ≤ 55295) ∨ (63744 ≤ x.toInt ∧ x.toInt ≤ 64975) ∨ (65008 ≤ x.toInt ∧ x.toInt ≤ 65533) ∨ (65536 ≤ x.toInt)) := by
  unfold own_R2_166
  simp only [own_N2_180, Int32.lt_iff_toInt_lt, ← Int32.toInt_inj, and_true, and_false, or_false, false_or, true_and, false_and, or_true, true_or, show (55296 : Int32).toInt = 55296 by decide, show (63743 : Int32).toInt = 63743 by decide]
  omega
theorem own_N2_150 (x : Int32) : own_R2_150 x ↔ ((x.toInt ≤ 12271) ∨ (12289 ≤ x.toInt ∧ x.toInt ≤ 55295) ∨ (63744 ≤ x.toInt ∧ x.toInt ≤ 64975) ∨ (65008 ≤ x.toInt ∧ x.toInt ≤ 65533) ∨ (65536 ≤ x.toInt)) := by
  unfold own_R2_150
  simp only [own_N2_166, Int32.lt_iff_toInt_lt, ← Int32.toInt_inj, and_true, and_false, or_false, false_or, true_and, false_and, or_true, true_or, show (12272 : Int32).toInt = 12272 by decide, show (12288 : Int32).toInt = 12288 by decide]
  omega
theorem own_N2_134 (x : Int32) : own_R2_134 x ↔ ((x.toInt ≤ 8591) ∨ (11264 ≤ x.toInt ∧ x.toInt ≤ 12271) ∨ (12289 ≤ x.toInt ∧ x.toInt ≤ 55295) ∨ (63744 ≤ x.toInt ∧ x.toInt ≤ 64975) ∨ (65008 ≤ x.toInt ∧ x.toInt ≤ 65533) ∨ (65536 ≤ x.toInt)) := by
  unfold own_R2_134
  simp only [own_N2_150, Int32.lt_iff_toInt_lt, ← Int32.toInt_inj, and_true, and_false, or_false, false_or, true_and, false_and, or_true, true_or, show (8592 : Int32).toInt = 8592 by decide, show (11263 : Int32).toInt = 11263 by decide]
  omega
theorem own_N2_128 (x : Int32) : own_R2_128 x ↔ (True) := by
  unfold own_R2_128
  exact Iff.rfl
theorem own_N2_91 (x : Int32) : own_R2_91 x ↔ ((x.toInt ≤ 893) ∨ (895 ≤ x.toInt ∧ x.toInt ≤ 8191) ∨ (8204 ≤ x.toInt ∧ x.toInt ≤ 8205) ∨ (8304 ≤ x.toInt ∧ x.toInt ≤ 8591) ∨ (11264 ≤ x.toInt ∧ x.toInt ≤ 12271) ∨ (12289 ≤ x.toInt ∧ x.toInt ≤ 55295) ∨ (63744 ≤ x.toInt ∧ x.toInt ≤ 64975) ∨ (65008 ≤ x.toInt ∧ x.toInt ≤ 65533) ∨ (65536 ≤ x.toInt)) := by
  unfold own_R2_91
  simp only [own_N2_128, own_N2_134, Int32.lt_iff_toInt_lt, ← Int32.toInt_inj, and_true, and_false, or_false, false_or, true_and, false_and, or_true, true_or, show (894 : Int32).toInt = 894 by decide, show (8192 : Int32).toInt = 8192 by decide, show (8204 : Int32).toInt = 8204 by decide, show (8205 : Int32).toInt = 8205 by decide, show (8303 : Int32).toInt = 8303 by decide]
  omega
theorem own_N2_73 (x : Int32) : own_R2_73 x ↔ (False) := by
  unfold own_R2_73
  exact Iff.rfl
theorem own_N2_36 (x : Int32) : own_R2_36 x ↔ (True) := by
  unfold own_R2_36
  exact Iff.rfl
theorem own_N2_30 (x : Int32) : own_R2_30 x ↔ ((95 ≤ x.toInt ∧ x.toInt ≤ 95)) := by
  unfold own_R2_30
  simp only [own_N2_36, Int32.lt_iff_toInt_lt, ← Int32.toInt_inj, and_true, and_false, or_false, false_or, true_and, false_and, or_true, true_or, show (95 : Int32).toInt = 95 by decide]
  omega
theorem own_N2_0 (x : Int32) : own_R2_0 x ↔ ((65 ≤ x.toInt ∧ x.toInt ≤ 90) ∨ (95 ≤ x.toInt ∧ x.toInt ≤ 95) ∨ (97 ≤ x.toInt ∧ x.toInt ≤ 122) ∨ (192 ≤ x.toInt ∧ x.toInt ≤ 214) ∨ (216 ≤ x.toInt ∧ x.toInt ≤ 246) ∨ (248 ≤ x.toInt ∧ x.toInt ≤ 767) ∨ (880 ≤ x.toInt ∧ x.toInt ≤ 893) ∨ (895 ≤ x.toInt ∧ x.toInt ≤ 8191) ∨ (8204 ≤ x.toInt ∧ x.toInt ≤ 8205) ∨ (8304 ≤ x.toInt ∧ x.toInt ≤ 8591) ∨ (11264 ≤ x.toInt ∧ x.toInt ≤ 12271) ∨ (12289 ≤ x.toInt ∧ x.toInt ≤ 55295) ∨ (63744 ≤ x.toInt ∧ x.toInt ≤ 64975) ∨ (65008 ≤ x.toInt ∧ x.toInt ≤ 65533) ∨ (65536 ≤ x.toInt ∧ x.toInt ≤ 983039)) := by
  unfold own_R2_0
  have hlow := own_low x
  simp only [own_N2_30, own_N2_36, own_N2_73, own_N2_91, Int32.lt_iff_toInt_lt, ← Int32.toInt_inj, and_true, and_false, or_false, false_or, true_and, false_and, or_true, true_or, show (0 : Int32).toInt = 0 by decide, show (32 : Int32).toInt = 32 by decide, show (97 : Int32).toInt = 97 by decide, show (122 : Int32).toInt = 122 by decide, show (128 : Int32).toInt = 128 by decide, show (192 : Int32).toInt = 192 by decide, show (215 : Int32).toInt = 215 by decide, show (247 : Int32).toInt = 247 by decide, show (768 : Int32).toInt = 768 by decide, show (879 : Int32).toInt = 879 by decide, show (983039 : Int32).toInt = 983039 by decide]
  omega
theorem own_law (x : Int32) : own_R1_0 x ↔ own_R2_0 x := by
  rw [own_N1_0, own_N2_0]
theorem own_pd0 : parseMethodDescriptor "(I)Z" = some ⟨[.int], some .boolean⟩ := by decide +kernel
theorem own_ef0 (m : MethodId) (p0 : Int32) (p1 : Int32) : entryFrame m #[(.int p0), (.int p1)] maxLocals = mkF m 0 #[.val (.int p0), .val (.int p1), .unset] [] := by first | (simp [entryFrame, mkF, argsToLocals, Value.category, maxLocals]; done) | rfl
def own_Q0 (Z : State) (p0 : Int32) (p1 : Int32) (h0 : Heap) (n0 : Nat) (v : Option Value) (h : Heap) (L : List Loc) : Prop := (v = some (.int (1 : Int32))) ∧ (Fr n0 L)
set_option maxRecDepth 65536 in
set_option maxHeartbeats 40000000 in
theorem own_rm0 (l : Launch) (Z : State) (a0 : Array Value) (hw : ∀ d ∈ tables_1, d.before a0 Z = true) (ws : List Jvm.Cond) (p0 : Int32) (p1 : Int32) (h0 : Heap) (n0 : Nat) (Z0 : n0 ≤ h0.size) :
    MetFree l x (head1 (Jvm.Cond.code x code maxLocals ret :: ws) room_1) (fun a U => a = #[(.int p0), (.int p1)] ∧ Z.Warmed39 U.vm ∧ U.heap = h0) (fun _ _ _ _ _ => True) (fun _ U o U' => ∃ v L, o = .returned v ∧ own_Q0 Z p0 p1 h0 n0 v U'.heap L ∧ FrameEnd U o U' L room_1.cells room_1.slots) := by
  refine MetFree.of_bodySF (plainFor_of_name own_pn1) hisR ?_
  intro p e s m args below meth c s₁ Bd hml0 hP hK
  obtain ⟨rfl, hZ, hh⟩ := hP
  have hx := Bd.exec
  have hby := Bd.bytes
  have hml : c.maxLocals = 3 := hml0
  have hown : s.vm.findClass "com/example/psyche/psyche/XmlCharsIsNameStartCharPinLaw" = some m.cls := findClass_of_methodNamed Bd.named
  have hnm := (name_of_methodNamed Bd.named Bd.method).1
  have X0 : Stand p l e room_1 s m #[(.int p0), (.int p1)] below meth c s₁ [] 0 0 := Stand.of_body Bd
  have e0 : s₁.heap = h0 := by rw [← hh, Bd.state]; rfl
  have N0 := Fr.nil n0
  have pre0 : ∀ t, Steps p.tables e below (s₁.setTop (mkF m 0 #[.val (.int p0), .val (.int p1), .unset] [])) t → Steps p.tables e below (s₁.setTop (entryFrame m #[(.int p0), (.int p1)] maxLocals)) t := fun t k => castTop (own_ef0 m p0 p1) k
  refine own_run (own_st pre0 ?_)
  refine own_st (B := s₁.setTop (mkF m 3 #[.val (.int p0), .val (.int p1), .unset] [(.int (p1 &&& (1 : Int32)))])) (fun target kt => ?_) ?_
  · show Steps p.tables e below (s₁.setTop (mkF m 0 #[.val (.int p0), .val (.int p1), .unset] [])) target
    refine XS.iloadN X0.here hx rfl (hb hby at_0) rfl ?_
    show Steps p.tables e below (s₁.setTop (mkF m 1 #[.val (.int p0), .val (.int p1), .unset] [(.int p1)])) target
    refine XS.iconst X0.here hx rfl (hb hby at_1) ?_
    show Steps p.tables e below (s₁.setTop (mkF m 2 #[.val (.int p0), .val (.int p1), .unset] [(.int (1 : Int32)), (.int p1)])) target
    refine XS.iand X0.here hx rfl (hb hby at_2) rfl ?_
    exact kt
  obtain ⟨_, ⟨j18_s0, rfl, hj18_s0⟩, st_M18⟩ : own_Lead p.tables e below (s₁.setTop (mkF m 3 #[.val (.int p0), .val (.int p1), .unset] [(.int (p1 &&& (1 : Int32)))])) (fun B => ∃ (j18_s0 : Int32), B = s₁.setTop (mkF m 18 #[.val (.int p0), .val (.int p1), .unset] [(.int j18_s0)]) ∧ j18_s0 = (if (p1 &&& (1 : Int32)) = (0 : Int32) then ((p0 &&& (262143 : Int32)) - (256 : Int32)) else p0)) := by
    by_cases c3 : (p1 &&& (1 : Int32)) = (0 : Int32)
    · refine own_st (B := s₁.setTop (mkF m 18 #[.val (.int p0), .val (.int p1), .unset] [(.int ((p0 &&& (262143 : Int32)) - (256 : Int32)))])) (fun target kt => ?_) ?_
      · show Steps p.tables e below (s₁.setTop (mkF m 3 #[.val (.int p0), .val (.int p1), .unset] [(.int (p1 &&& (1 : Int32)))])) target
        refine XS.ifYes X0.here hx rfl (pc0 := 3) (pc' := 10) rfl (hb hby at_3) rfl ((if0 _ _).trans (teq c3).1) (by decide) (by decide) ?_
        show Steps p.tables e below (s₁.setTop (mkF m 10 #[.val (.int p0), .val (.int p1), .unset] [])) target
        refine XS.iloadN X0.here hx rfl (hb hby at_10) rfl ?_
        show Steps p.tables e below (s₁.setTop (mkF m 11 #[.val (.int p0), .val (.int p1), .unset] [(.int p0)])) target
        refine X0.ldcInt hx hown (mvT hZ (hw _ (List.mem_of_getElem? (i := 8) rfl))) (g := (mkF m 11 #[.val (.int p0), .val (.int p1), .unset] [(.int p0)])) rfl (hb hby at_11) _ ?_
        show Steps p.tables e below (s₁.setTop (mkF m 13 #[.val (.int p0), .val (.int p1), .unset] [(.int (262143 : Int32)), (.int p0)])) target
        refine XS.iand X0.here hx rfl (hb hby at_13) rfl ?_
        show Steps p.tables e below (s₁.setTop (mkF m 14 #[.val (.int p0), .val (.int p1), .unset] [(.int (p0 &&& (262143 : Int32)))])) target
        refine XS.sipush X0.here hx rfl (hb hby at_14) ?_
        show Steps p.tables e below (s₁.setTop (mkF m 17 #[.val (.int p0), .val (.int p1), .unset] [(.int (256 : Int32)), (.int (p0 &&& (262143 : Int32)))])) target
        refine XS.isub X0.here hx rfl (hb hby at_17) rfl ?_
        exact kt
      exact ⟨_, ⟨((p0 &&& (262143 : Int32)) - (256 : Int32)), rfl, (if_pos c3).symm⟩, fun _ k => k⟩
    · refine own_st (B := s₁.setTop (mkF m 18 #[.val (.int p0), .val (.int p1), .unset] [(.int p0)])) (fun target kt => ?_) ?_
      · show Steps p.tables e below (s₁.setTop (mkF m 3 #[.val (.int p0), .val (.int p1), .unset] [(.int (p1 &&& (1 : Int32)))])) target
        refine XS.ifNo X0.here hx rfl (hb hby at_3) rfl ((if0 _ _).trans (feq c3).1) ?_
        show Steps p.tables e below (s₁.setTop (mkF m 6 #[.val (.int p0), .val (.int p1), .unset] [])) target
        refine XS.iloadN X0.here hx rfl (hb hby at_6) rfl ?_
        show Steps p.tables e below (s₁.setTop (mkF m 7 #[.val (.int p0), .val (.int p1), .unset] [(.int p0)])) target
        refine XS.goto X0.here hx rfl (pc0 := 7) (pc' := 18) rfl (hb hby at_7) (by decide) (by decide) ?_
        exact kt
      exact ⟨_, ⟨p0, rfl, (if_neg c3).symm⟩, fun _ k => k⟩
  refine own_st st_M18 ?_
  refine own_st (B := s₁.setTop (mkF m 20 #[.val (.int p0), .val (.int p1), .val (.int j18_s0)] [(.int j18_s0)])) (fun target kt => ?_) ?_
  · show Steps p.tables e below (s₁.setTop (mkF m 18 #[.val (.int p0), .val (.int p1), .unset] [(.int j18_s0)])) target
    refine XS.istoreN X0.here hx rfl (hb hby at_18) rfl (l' := #[.val (.int p0), .val (.int p1), .val (.int j18_s0)]) rfl ?_
    show Steps p.tables e below (s₁.setTop (mkF m 19 #[.val (.int p0), .val (.int p1), .val (.int j18_s0)] [])) target
    refine XS.iloadN X0.here hx rfl (hb hby at_19) rfl ?_
    exact kt
  obtain ⟨_, _, ⟨Tg20, Lg20, kg20, ng20⟩, -, Xg20, ⟨Lcg20, hQg20, lg20, yg20, zg20⟩, stg20⟩ := Jvm.LawKit.callS X0 hx (y := (⟨"com/example/psyche/psyche/XmlChars", "isNameStartChar", "(I)Z"⟩ : MethodName)) hown (mvT hZ (hw _ (List.mem_of_getElem? (i := 0) rfl))) (mvT hZ (hw _ (List.mem_of_getElem? (i := 1) rfl))) (mvT hZ (hw _ (List.mem_of_getElem? (i := 2) rfl))) (mvT hZ (hw _ (List.mem_of_getElem? (i := 3) rfl))) (by decide) (backOf (W := 0) (own_rm1 l Z a0 hw [] j18_s0 h0 n0 Z0) hZ (hw _ (List.mem_of_getElem? (i := 3) rfl)) (hw _ (List.mem_of_getElem? (i := 2) rfl)) (by decide) (by decide)) (g := (mkF m 20 #[.val (.int p0), .val (.int p1), .val (.int j18_s0)] [(.int j18_s0)])) rfl (by rw [hml]; rfl) (argsL := [(.int j18_s0)]) (rest := []) (lenOf own_pd0 rfl) rfl (by show 2 * 0 + _ ≤ _; exact Nat.le_of_eq rfl) (hb hby at_20) (fun _ _ => ⟨rfl, e0, (by decide : 0 + 0 ≤ _), (by decide : 0 + 0 ≤ _)⟩)
  dsimp only [Pt.U, Pt.locs, Pt.cells, Pt.slots] at Xg20 lg20 yg20 zg20 stg20 hQg20
  subst lg20 yg20 zg20
  obtain ⟨rfl, Ng20q, eg20⟩ := hQg20
  have Ng20 := Fr.app N0 Ng20q
  refine own_st (stg20) ?_
  refine own_st (B := Tg20.setTop (mkF m 24 #[.val (.int p0), .val (.int p1), .val (.int j18_s0)] [(.int j18_s0), (.int (own_b (own_R1_0 j18_s0)))])) (fun target kt => ?_) ?_
  · show Steps p.tables e below (Tg20.setTop (mkF m 23 #[.val (.int p0), .val (.int p1), .val (.int j18_s0)] [(.int (own_b (own_R1_0 j18_s0)))])) target
    refine XS.iloadN Xg20.here hx rfl (hb hby at_23) rfl ?_
    exact kt
  obtain ⟨_, _, ⟨Tg24, Lg24, kg24, ng24⟩, -, Xg24, ⟨Lcg24, hQg24, lg24, yg24, zg24⟩, stg24⟩ := Jvm.LawKit.callS Xg20 hx (y := (⟨"com/example/psyche/psyche/XmlCharsIsNameStartCharPinLaw", "reference", "(I)Z"⟩ : MethodName)) hown (mvT hZ (hw _ (List.mem_of_getElem? (i := 4) rfl))) (mvT hZ (hw _ (List.mem_of_getElem? (i := 5) rfl))) (mvT hZ (hw _ (List.mem_of_getElem? (i := 6) rfl))) (mvT hZ (hw _ (List.mem_of_getElem? (i := 7) rfl))) (by decide) (backOf (W := 1) (own_rm2 l Z a0 hw [] j18_s0 h0 n0 Z0) hZ (hw _ (List.mem_of_getElem? (i := 7) rfl)) (hw _ (List.mem_of_getElem? (i := 6) rfl)) (by decide) (by decide)) (g := (mkF m 24 #[.val (.int p0), .val (.int p1), .val (.int j18_s0)] [(.int j18_s0), (.int (own_b (own_R1_0 j18_s0)))])) rfl (by rw [hml]; rfl) (argsL := [(.int j18_s0)]) (rest := [(.int (own_b (own_R1_0 j18_s0)))]) (lenOf own_pd0 rfl) rfl (by show 2 * 0 + _ ≤ _; exact Nat.le_of_eq rfl) (hb hby at_24) (fun _ _ => ⟨rfl, eg20, (by decide : 0 + 0 ≤ _), (by decide : 0 + 0 ≤ _)⟩)
  dsimp only [Pt.U, Pt.locs, Pt.cells, Pt.slots] at Xg24 lg24 yg24 zg24 stg24 hQg24
  subst lg24 yg24 zg24
  obtain ⟨rfl, Ng24q, eg24⟩ := hQg24
  have Ng24 := Fr.app Ng20 Ng24q
  refine own_st (stg24) ?_
  have c27 : (own_R1_0 j18_s0) ↔ (own_R2_0 j18_s0) := by
    exact own_law _
  refine own_st (B := Tg24.setTop (mkF m 35 #[.val (.int p0), .val (.int p1), .val (.int j18_s0)] [(.int (1 : Int32))])) (fun target kt => ?_) ?_
  · show Steps p.tables e below (Tg24.setTop (mkF m 27 #[.val (.int p0), .val (.int p1), .val (.int j18_s0)] [(.int (own_b (own_R2_0 j18_s0))), (.int (own_b (own_R1_0 j18_s0)))])) target
    refine XS.icmpNo Xg24.here hx rfl (hb hby at_27) rfl (teq (own_bb rfl rfl c27)).2 ?_
    show Steps p.tables e below (Tg24.setTop (mkF m 30 #[.val (.int p0), .val (.int p1), .val (.int j18_s0)] [])) target
    refine XS.iconst Xg24.here hx rfl (hb hby at_30) ?_
    show Steps p.tables e below (Tg24.setTop (mkF m 31 #[.val (.int p0), .val (.int p1), .val (.int j18_s0)] [(.int (1 : Int32))])) target
    refine XS.goto Xg24.here hx rfl (pc0 := 31) (pc' := 35) rfl (hb hby at_31) (by decide) (by decide) ?_
    exact kt
  obtain ⟨fs, hr, hrun, hended, hW, hsame⟩ := Xg24.leave (v := some (.int (1 : Int32))) (fun h => by rw [Bd.returns] at h; cases h)
  have hend : Steps p.tables e below (Tg24.setTop (mkF m 35 #[.val (.int p0), .val (.int p1), .val (.int j18_s0)] [(.int (1 : Int32))])) (Tg24.setFrames fs) := by
    exact retN Xg24 hx (t := .boolean) Bd.returns (by simp) (hb hby at_35) hr
  refine own_fin hend ⟨_, hrun, hended, _, _, rfl, ?_, ⟨_, rfl⟩, hW, hsame.mono (by decide) (by decide)⟩
  show own_Q0 Z p0 p1 h0 n0 _ Tg24.heap _
  rw [eg24]
  exact ⟨rfl, Ng24⟩
set_option maxRecDepth 65536 in
set_option maxHeartbeats 40000000 in
theorem own_comes_1 {Post : Tables → Env → Array Value → State → Outcome → State → Prop} (hpost : ∀ tb e args s v u, (limb_1_1.after args s (.returned v) u = true ∧ limb_1_2.after args s (.returned v) u = true ∧ True) → FrameEnd s (.returned v) u (Jvm.fieldLocs frame_1_writes args s ++ Jvm.arrayLocs frame_1_arrays args s ++ Jvm.staticLocs frame_1_statics s) 0 0 → Post tb e args s (.returned v) u) :
    ArmFor flags0 classFile x code maxLocals ret World_1 tables_1 room_1 Calls_1 rest_1 Pre_1 Post := by
  intro l hfl _ _ p e ha hc hk s m args below hf hA hF happ hP
  obtain ⟨hcalls, hrest, hpre⟩ := hP
  obtain ⟨-, -, -, hnamed, -, -, -, hat⟩ := (Spec.applies_iff hf).mp happ
  obtain ⟨hg, hn⟩ := and_e (Cond.before_iff.mp (show (Jvm.Cond.and given_1 narrow_1).before args s = true from hpre))
  obtain ⟨g1, g2⟩ := and_e hg
  obtain ⟨g3, g4⟩ := and_e g2
  obtain ⟨w0, w1, rfl⟩ : ∃ w0 w1 : Value, args = #[w0, w1] := by
    have hs : args.size = 2 := by simpa [Cond.value, given_1] using g1
    obtain ⟨L⟩ := args
    match L, hs with
    | [w0, w1], _ => exact ⟨w0, w1, rfl⟩
  have hw := fun d (hd : d ∈ tables_1) => atoms_spec (ws := Jvm.Cond.code x code maxLocals ret :: tables_1) hat d (List.mem_cons_of_mem _ hd)
  obtain ⟨i0, ei0⟩ := is_v g3
  obtain rfl : w0 = (.int i0) := Option.some.inj ei0
  obtain ⟨i1, ei1⟩ := is_v g4
  obtain rfl : w1 = (.int i1) := Option.some.inj ei1
  obtain ⟨n, o, h1, h2, h3, _, L, rfl, ⟨rfl, N⟩, hq⟩ := own_rm0 l s _ hw tables_1 i0 i1 s.heap s.heap.size (Nat.le_refl _) p e ha hc hk s m _ below hf ((Spec.applies_iff_loose hf).mp happ).1 ⟨rfl, State.Warmed39.refl s, rfl⟩ trivial
  refine ⟨n, _, h1, h2, h3, hpost _ _ _ _ _ _ ⟨Cond.after_iff.mpr rfl, Cond.after_iff.mpr (eq_i res_at (Term.int_eval (1)) rfl), trivial⟩ ⟨hq.1, hq.2.1, (hq.2.2.sift fun y hy => Or.inr (N y hy)).mono (by decide) (by decide)⟩⟩
theorem main_1_1 : Claimed_1_1 := own_comes_1 fun _ _ _ _ _ _ h hF => ⟨h.1, hF⟩
theorem main_1_2 : Claimed_1_2 := own_comes_1 fun _ _ _ _ _ _ h hF => ⟨h.2.1, hF⟩
end Jvm.Pilot.@@N@@
namespace Jvm.Pilot.@@N@@
open Jvm Jvm.ClassFile Sem Op Lib Jvm.Free Jvm.Stand Jvm.Pilot.@@N@@.Jvm.D
/-! MADE BY PROGRAM (witnessworld.py) out of the Statement's table words and the real class files: 9 classes; the members and pool entries that the words name. The judged class is class 1, her method 1. -/
namespace start1
open Jvm.ClassFile
def u (s : String) : CpInfo := .utf8 (stringToUtf16 s)
/-- a pool by its gaps: so many unusable entries, then the entry; so many at the end -/
def gap : Nat → List CpInfo → List CpInfo
  | 0, r => r
  | n + 1, r => .unusable :: gap n r
def poolList (es : List (Nat × CpInfo)) (last : Nat) : List CpInfo := es.foldr (fun e r => gap e.1 (e.2 :: r)) (gap last [])
def pool (es : List (Nat × CpInfo)) (last : Nat) : Array CpInfo := ⟨poolList es last⟩
def fileOf (pool : Array CpInfo) (this : Nat) (attrs : Array Attribute := #[]) (ms : Array MethodInfo := #[]) (fl : Nat := 33) (sup : Nat := 0) (ifs : Array Nat := #[]) (fds : Array FieldInfo := #[]) : ClassFile where
  minorVersion := 0
  majorVersion := 65
  constantPool := pool
  accessFlags := fl
  thisClass := this
  superClass := sup
  interfaces := ifs
  fields := fds
  methods := ms
  attributes := attrs
def plain (name : String) (sup : Option ClassId) : Class where
  name := name
  kind := .ordinary
  loader := none
  accessFlags := 33
  super := sup
  interfaces := #[]
  cf := none
  fields := #[]
  methods := #[]
  instanceTypes := #[]
  staticTypes := #[]
  resolved := #[]
  callSites := []
  init := .initialized
  statics := none
  mirror := none

def pool0 : Array CpInfo := pool [(5, u "<init>"), (0, u "()V"), (1, .class_ 10), (1, u "java/lang/Object")] 113

def k0m0 : Method := { name := "<init>", desc := "()V", sig := { parameters := [], returnType := none }, accessFlags := 1, code := none }
/-- java/lang/Object -/
def k0 : Class := { plain "java/lang/Object" none with
  accessFlags := 33
  interfaces := #[]
  cf := some (fileOf pool0 8 #[] #[{ accessFlags := 1, nameIndex := 5, descriptorIndex := 6, attributes := #[] }] 33 0 #[] #[])
  fields := #[]
  methods := #[k0m0]
  instanceTypes := #[]
  staticTypes := #[]
  resolved := Array.replicate 124 none
  statics := none }

def pool1 : Array CpInfo := pool [(2, .class_ 4), (1, u "java/lang/Object"), (0, u "<init>"), (0, u "()V"), (0, .integer 262143), (0, .methodref 9 10), (0, .class_ 11), (0, .nameAndType 12 13), (0, u "com/example/psyche/psyche/XmlChars"), (0, u "isNameStartChar"), (0, u "(I)Z"), (0, .methodref 15 16), (0, .class_ 17), (0, .nameAndType 18 13), (0, u "com/example/psyche/psyche/XmlCharsIsNameStartCharPinLaw"), (0, u "reference"), (0, .integer 983039), (0, .integer 55296), (0, .integer 63743), (0, .integer 64976), (0, .integer 65007), (0, .integer 65534), (0, .integer 65535), (2, u "law"), (0, u "(II)Z")] 3

def k1m0 : Method := { name := "<init>", desc := "()V", sig := { parameters := [], returnType := none }, accessFlags := 2, code := none }
def k1c1 : Code := { maxStack := 2, maxLocals := 3, code := code, exceptionTable := #[], attributes := #[] }
def k1m1 : Method := { name := "law", desc := "(II)Z", sig := { parameters := [.int, .int], returnType := some .boolean }, accessFlags := 9, code := some k1c1 }
def k1c2 : Code := { maxStack := 2, maxLocals := 2, code := method_3_code, exceptionTable := #[], attributes := #[] }
def k1m2 : Method := { name := "reference", desc := "(I)Z", sig := { parameters := [.int], returnType := some .boolean }, accessFlags := 10, code := some k1c2 }
/-- com/example/psyche/psyche/XmlCharsIsNameStartCharPinLaw -/
def k1 : Class := { plain "com/example/psyche/psyche/XmlCharsIsNameStartCharPinLaw" (some 0) with
  accessFlags := 49
  interfaces := #[]
  cf := some (fileOf pool1 15 #[] #[{ accessFlags := 2, nameIndex := 5, descriptorIndex := 6, attributes := #[] }, { accessFlags := 9, nameIndex := 28, descriptorIndex := 29, attributes := #[] }, { accessFlags := 10, nameIndex := 18, descriptorIndex := 13, attributes := #[] }] 49 2 #[] #[])
  fields := #[]
  methods := #[k1m0, k1m1, k1m2]
  instanceTypes := #[]
  staticTypes := #[]
  resolved := Array.replicate 33 none
  statics := none }

def pool2 : Array CpInfo := pool [(2, .class_ 4), (1, u "java/lang/Object"), (0, u "<init>"), (0, u "()V"), (1, .class_ 10), (1, u "com/example/psyche/psyche/XmlChars"), (0, u "ASCII_NAME_START"), (0, u "[Z"), (2, u "ASCII_NAME_CHAR"), (9, u "isNameStartChar"), (0, u "(I)Z"), (8, u "XMLNS"), (0, u "[B"), (20, .integer 55295), (0, .integer 63744), (0, .integer 64975), (0, .integer 65008), (0, .integer 65533), (0, .integer 65536), (0, .integer 983039), (55, u "NOT_UTF8"), (0, u "I"), (2, u "NOT_A_CHARACTER"), (1, u "CHARACTER_REFERENCE_FORM"), (0, u "Ljava/lang/String;"), (2, u "ENTITY_REFERENCE_FORM"), (2, u "DOUBLE_HYPHEN_IN_COMMENT"), (2, u "COLON_IN_TARGET"), (29, .class_ 166), (0, u "com/example/psyche/psyche/XmlChars$CharacterReference")] 16

def k2m0 : Method := { name := "<init>", desc := "()V", sig := { parameters := [], returnType := none }, accessFlags := 2, code := none }
def k2c1 : Code := { maxStack := 2, maxLocals := 1, code := prog_171_method_12_code, exceptionTable := #[], attributes := #[] }
def k2m1 : Method := { name := "isNameStartChar", desc := "(I)Z", sig := { parameters := [.int], returnType := some .boolean }, accessFlags := 8, code := some k2c1 }
/-- com/example/psyche/psyche/XmlChars -/
def k2 : Class := { plain "com/example/psyche/psyche/XmlChars" (some 0) with
  accessFlags := 48
  interfaces := #[]
  cf := some (fileOf pool2 8 #[.nestMembers #[165]] #[{ accessFlags := 2, nameIndex := 5, descriptorIndex := 6, attributes := #[] }, { accessFlags := 8, nameIndex := 25, descriptorIndex := 26, attributes := #[] }] 48 2 #[] #[{ accessFlags := 24, nameIndex := 119, descriptorIndex := 120, attributes := #[] }, { accessFlags := 24, nameIndex := 123, descriptorIndex := 120, attributes := #[] }, { accessFlags := 24, nameIndex := 125, descriptorIndex := 126, attributes := #[] }, { accessFlags := 24, nameIndex := 129, descriptorIndex := 126, attributes := #[] }, { accessFlags := 24, nameIndex := 132, descriptorIndex := 126, attributes := #[] }, { accessFlags := 24, nameIndex := 135, descriptorIndex := 126, attributes := #[] }, { accessFlags := 26, nameIndex := 35, descriptorIndex := 36, attributes := #[] }, { accessFlags := 26, nameIndex := 11, descriptorIndex := 12, attributes := #[] }, { accessFlags := 26, nameIndex := 15, descriptorIndex := 12, attributes := #[] }])
  fields := #[{ name := "NOT_UTF8", type := .int, accessFlags := 24, slot := 0, constantValue := 0 }, { name := "NOT_A_CHARACTER", type := .int, accessFlags := 24, slot := 1, constantValue := 0 }, { name := "CHARACTER_REFERENCE_FORM", type := (.object "java/lang/String"), accessFlags := 24, slot := 2, constantValue := 0 }, { name := "ENTITY_REFERENCE_FORM", type := (.object "java/lang/String"), accessFlags := 24, slot := 3, constantValue := 0 }, { name := "DOUBLE_HYPHEN_IN_COMMENT", type := (.object "java/lang/String"), accessFlags := 24, slot := 4, constantValue := 0 }, { name := "COLON_IN_TARGET", type := (.object "java/lang/String"), accessFlags := 24, slot := 5, constantValue := 0 }, { name := "XMLNS", type := (.array .byte), accessFlags := 26, slot := 6, constantValue := 0 }, { name := "ASCII_NAME_START", type := (.array .boolean), accessFlags := 26, slot := 7, constantValue := 0 }, { name := "ASCII_NAME_CHAR", type := (.array .boolean), accessFlags := 26, slot := 8, constantValue := 0 }]
  methods := #[k2m0, k2m1]
  instanceTypes := #[]
  staticTypes := #[.int, .int, (.object "java/lang/String"), (.object "java/lang/String"), (.object "java/lang/String"), (.object "java/lang/String"), (.array .byte), (.array .boolean), (.array .boolean)]
  resolved := Array.replicate 183 none
  statics := none }

def pool3 : Array CpInfo := pool [(1, u "java/lang/Cloneable"), (0, .class_ 1), (0, u "java/lang/Object"), (0, .class_ 3)] 3

/-- java/lang/Cloneable -/
def k3 : Class := { plain "java/lang/Cloneable" (some 0) with
  accessFlags := 1537
  interfaces := #[]
  cf := some (fileOf pool3 2 #[] #[] 1537 4 #[] #[])
  fields := #[]
  methods := #[]
  instanceTypes := #[]
  staticTypes := #[]
  resolved := Array.replicate 8 none
  statics := none }

def pool4 : Array CpInfo := pool [(1, u "java/io/Serializable"), (0, .class_ 1), (0, u "java/lang/Object"), (0, .class_ 3)] 3

/-- java/io/Serializable -/
def k4 : Class := { plain "java/io/Serializable" (some 0) with
  accessFlags := 1537
  interfaces := #[]
  cf := some (fileOf pool4 2 #[] #[] 1537 4 #[] #[])
  fields := #[]
  methods := #[]
  instanceTypes := #[]
  staticTypes := #[]
  resolved := Array.replicate 8 none
  statics := none }

/-- the primitive byte -/
def k5 : Class := { plain "byte" none with kind := .primitive 'B', accessFlags := 0x411 }
/-- [B -/
def k6 : Class := { plain "[B" (some 0) with kind := .array 5 .byte, interfaces := #[3, 4], accessFlags := 1041 }

/-- the primitive int -/
def k7 : Class := { plain "int" none with kind := .primitive 'I', accessFlags := 0x411 }
/-- [I -/
def k8 : Class := { plain "[I" (some 0) with kind := .array 7 .int, interfaces := #[3, 4], accessFlags := 1041 }

def heap : Heap := #[]
def classes : Array Class := #[k0, k1, k2, k3, k4, k5, k6, k7, k8]
def interned : List (Array UInt16 × Addr) := []
def slotsUsed : Nat := 0
def theMethod : MethodId := ⟨1, 1⟩
def args0 : Array Value := #[.int 3, .int 4]
def aboutOver (below : List Frame) : State where
  vm := { classes := classes, interned := interned.toArray }
  heap := heap
  slotsUsed := slotsUsed
  threads := #[{ frames := .invoking theMethod args0 :: below }]
def below0 : List Frame := [.native { method := ⟨0, 0⟩, args := #[] }]
def about1 : State := aboutOver below0
def p0 : Program := .bare "" "" ""
def e0 : Env := launch0.env 0 0 0
theorem w_frames : about1.frames = Frame.invoking theMethod args0 :: below0 := rfl
set_option maxRecDepth 65536 in
theorem w_args : argsFit about1.vm theMethod args0 = true := by decide +kernel
set_option maxRecDepth 65536 in
theorem w_heap : heapFits about1 = true := by decide +kernel
set_option maxRecDepth 65536 in
theorem w_runnable : about1.curStatus? = some .runnable := by decide +kernel
set_option maxRecDepth 65536 in
theorem w_alone : about1.alone = true := by decide +kernel
set_option maxRecDepth 65536 in
theorem w_named : about1.methodNamed? x = some theMethod := by decide +kernel
set_option maxRecDepth 65536 in
theorem w_hears : about1.hears theMethod below0 = true := by decide +kernel
set_option maxRecDepth 65536 in
theorem w_ripe : about1.ripe theMethod args0 below0 = true := by decide +kernel
theorem w_running : about1.status = .running := rfl
set_option maxRecDepth 65536 in
theorem w_room : about1.hasRoom e0.platform room_1 = true :=
  launch0.hasRoom_least _ room_1 (by decide +kernel) (by decide +kernel) (by decide +kernel) (by decide +kernel) (by decide +kernel) (by decide +kernel)
theorem allAtoms_all (ts : List Jvm.Cond) (a : Array Jvm.Value) (st : Jvm.State) : (allAtoms ts).before a st = ts.all (fun c => c.before a st) := by
  induction ts with
  | nil => rfl
  | cons c t ih =>
    show (Jvm.Cond.and c (allAtoms t)).before a st = _
    rw [Jvm.Cond.before_and, ih, List.all_cons]
def words1 : List Jvm.Cond := Jvm.Cond.code x code maxLocals ret :: tables_1
/-- a 'code' word, met by the world's own term for the bytes: nothing is compared byte by byte -/
theorem code_word {y : MethodName} {bytes : ByteArray} {mx : Nat} {rt : Option FieldType} {a : Array Value} {s : State} {m : MethodId} {meth : Method} {c : Code} (h1 : s.methodNamed? y = some m) (h2 : s.vm.method? m = some meth) (h3 : meth.code = some c) (h4 : c.code = bytes)
    (h5 : (c.maxLocals == mx && c.exceptionTable.isEmpty && decide (c.maxStack ≤ mostOperands) && decide (meth.sig.returnType = rt) && !meth.locks && decide (parseMethodDescriptor y.desc = some meth.sig)) = true) : (Jvm.Cond.code y bytes mx rt).before a s = true := by
  simp only [Bool.and_eq_true, beq_iff_eq, Bool.not_eq_true', decide_eq_true_eq] at h5
  obtain ⟨⟨⟨⟨⟨g1, g2⟩, g3⟩, g4⟩, g5⟩, g6⟩ := h5
  simp [Cond.before, Cond.holds, Cond.value, h1, h2, h3, h4, g1, g2, g3, g4, g5, g6]
def isCode : Jvm.Cond → Bool
  | .code _ _ _ _ => true
  | _ => false
theorem all_split {L : List Jvm.Cond} {P : Jvm.Cond → Bool} (h1 : L.all (fun c => isCode c || P c) = true) (h2 : ∀ c ∈ L.filter isCode, P c = true) : L.all P = true := by
  refine List.all_eq_true.mpr fun c hc => ?_
  have h := List.all_eq_true.mp h1 c hc
  rcases Bool.eq_false_or_eq_true (isCode c) with hi | hi
  · exact h2 c (List.mem_filter.mpr ⟨hc, hi⟩)
  · simpa [hi] using h
set_option maxRecDepth 65536 in
theorem w_c0 : (Jvm.Cond.code x code maxLocals ret).before args0 about1 = true := code_word (m := ⟨1, 1⟩) (meth := k1m1) (c := k1c1) (by decide +kernel) rfl rfl rfl (by decide +kernel)
set_option maxRecDepth 65536 in
theorem w_c1 : (Jvm.Cond.code ({ cls := "com/example/psyche/psyche/XmlChars", name := "isNameStartChar", desc := "(I)Z" } : Jvm.MethodName) prog_171_method_12_code (1 : Nat) (Option.some Jvm.ClassFile.FieldType.boolean)).before args0 about1 = true := code_word (m := ⟨2, 1⟩) (meth := k2m1) (c := k2c1) (by decide +kernel) rfl rfl rfl (by decide +kernel)
set_option maxRecDepth 65536 in
theorem w_c2 : (Jvm.Cond.code ({ cls := "com/example/psyche/psyche/XmlCharsIsNameStartCharPinLaw", name := "reference", desc := "(I)Z" } : Jvm.MethodName) method_3_code (2 : Nat) (Option.some Jvm.ClassFile.FieldType.boolean)).before args0 about1 = true := code_word (m := ⟨1, 2⟩) (meth := k1m2) (c := k1c2) (by decide +kernel) rfl rfl rfl (by decide +kernel)
def codes1 : List Jvm.Cond := [Jvm.Cond.code x code maxLocals ret, Jvm.Cond.code ({ cls := "com/example/psyche/psyche/XmlChars", name := "isNameStartChar", desc := "(I)Z" } : Jvm.MethodName) prog_171_method_12_code (1 : Nat) (Option.some Jvm.ClassFile.FieldType.boolean), Jvm.Cond.code ({ cls := "com/example/psyche/psyche/XmlCharsIsNameStartCharPinLaw", name := "reference", desc := "(I)Z" } : Jvm.MethodName) method_3_code (2 : Nat) (Option.some Jvm.ClassFile.FieldType.boolean)]
set_option maxRecDepth 65536 in
theorem codes_eq : words1.filter isCode = codes1 := rfl
theorem w_codes : ∀ c ∈ words1.filter isCode, c.before args0 about1 = true := by
  rw [codes_eq]
  intro c hc
  simp only [codes1, List.mem_cons, List.not_mem_nil, or_false] at hc
  rcases hc with rfl | rfl | rfl
  · exact w_c0
  · exact w_c1
  · exact w_c2
set_option maxRecDepth 65536 in
theorem w_t1 : words1.all (fun c => isCode c || c.before args0 about1) = true := by decide +kernel
theorem w_tables : (allAtoms (Jvm.Cond.code x code maxLocals ret :: tables_1)).before args0 about1 = true := by
  rw [allAtoms_all]
  show words1.all (fun c => c.before args0 about1) = true
  refine all_split ?_ w_codes
  rw [w_t1]
set_option maxRecDepth 65536 in
theorem w_case : (Jvm.Cond.and given_1 narrow_1).before args0 about1 = true := by decide +kernel
theorem w_applies : (headSpec (Jvm.Cond.code x code maxLocals ret :: tables_1) room_1).applies x e0.platform about1 = true :=
  (Spec.applies_iff w_frames).mpr ⟨w_running, w_runnable, w_alone, w_named, w_hears, w_ripe, w_room, w_tables⟩
theorem atStart : AtStart classFile x code maxLocals ret World_1 tables_1 room_1 Calls_1 rest_1 Pre_1 launch0 p0 e0 about1 theMethod args0 below0 :=
  ⟨lists_1, trivial, launch0.admits_env _ _ _, launch0.least_env, fairChoices_fair.cas, fairChoices_fair.clock, w_frames, w_args, w_heap, w_applies, trivial, trivial, w_case⟩
end start1
theorem witness_1 : WitnessClaimed_1 := ⟨start1.p0, start1.e0, start1.about1, start1.theMethod, start1.args0, start1.below0, start1.atStart⟩
end Jvm.Pilot.@@N@@
