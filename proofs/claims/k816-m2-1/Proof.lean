import JvmDerived
import JvmDerived.Pilot.@@N@@Statement
import JvmDerived.Pilot.@@N@@Code
set_option linter.unusedVariables false
set_option linter.unusedSimpArgs false
namespace Jvm.RoadKit
open Sem ClassFile Op Lib Jvm.Stand Jvm.Free Jvm.LawKit
section New
variable {p : Program} {l : Launch} {e : Env} {R : Room} {s : State} {m : MethodId} {args : Array Value} {below : List Frame} {meth : Method} {c : Code} {T : State} {locs : List Loc} {cells slots : Nat}
theorem retI (X : Stand p l e R s m args below meth c T locs cells slots) (hx : p.tables.exec = Jvm.exec) {pc : Nat} {Ls : Array Slot} {z : Int32} {rest : List Value} (hret : meth.sig.returnType = some .int) (hd : decode c.code pc = .ok (.ireturn, 1)) {fs : List Frame}
    (hl : ∀ (f : JFrame) (acts : List Action), f.method = m → f.locked = none → f.entered = [] → (doReturn e (T.setTop f) acts (some (.int z))).1 = T.setFrames fs) : Steps p.tables e below (T.setTop (mkF m pc Ls (.int z :: rest))) (T.setFrames fs) := by
  have hm' : T.vm.method? m = some meth := X.method'
  have hn : narrow .int (.int z) = .int z := rfl
  show Steps p.tables e below (T.setTop { method := m, pc := pc, locals := Ls, stack := _ :: rest, locked := none }) _
  jvm_step X.here [X.here.top, hx, hd, hm', hret, hn]
  first | (intro acts; rw [hl _ acts rfl rfl rfl]) | rw [hl _ _ rfl rfl rfl]
  exact Steps.refl _
theorem own_lremM {g : JFrame} {target : State} (X : Stand p l e R s m args below meth c T locs cells slots) (hx : p.tables.exec = Jvm.exec) (hg : g.method = m) {x y : Int64} {rest : List Value} (hd : decode c.code g.pc = .ok (.lrem, 1)) (hs : g.stack = .long y :: .long x :: rest) (hy : y ≠ 0)
    (hr : Steps p.tables e below (T.setTop { g with pc := g.pc + 1, stack := .long (x % y) :: rest }) target) : Steps p.tables e below (T.setTop g) target :=
  XS.lrem X.here hx hg hd hs hy (by rw [lrem_mod]; exact hr)
end New
/-- from the state A the run comes to a state that P describes -/
def own_Lead (tb : Tables) (e : Env) (below : List Frame) (A : State) (P : State → Prop) : Prop := ∃ B, P B ∧ ∀ t, Steps tb e below B t → Steps tb e below A t
theorem own_st {tb : Tables} {e : Env} {below : List Frame} {A B : State} {P : State → Prop} (st : ∀ t, Steps tb e below B t → Steps tb e below A t) (h : own_Lead tb e below B P) : own_Lead tb e below A P := by
  obtain ⟨C, hp, hs⟩ := h
  exact ⟨C, hp, fun t k => st t (hs t k)⟩
theorem own_fin {tb : Tables} {e : Env} {below : List Frame} {A B : State} {P : State → Prop} (st : Steps tb e below A B) (h : P B) : own_Lead tb e below A P := ⟨B, h, fun t k => st.trans k⟩
theorem own_run {tb : Tables} {e : Env} {below : List Frame} {A : State} {K : State → Outcome → Prop} (h : own_Lead tb e below A (fun B => ∃ o, K B o)) : ∃ s₂ o, Steps tb e below A s₂ ∧ K s₂ o := by
  obtain ⟨B, ⟨o, hk⟩, st⟩ := h
  exact ⟨B, o, st B (Steps.refl _), hk⟩
/-- a boolean as an int -/
def own_b (P : Prop) [Decidable P] : Int32 := if P then 1 else 0
theorem own_b1 {P : Prop} [Decidable P] (h : P) : own_b P = 1 := if_pos h
theorem own_b0 {P : Prop} [Decidable P] (h : ¬ P) : own_b P = 0 := if_neg h
theorem own_bi {P Q : Prop} [Decidable P] [Decidable Q] (h : P ↔ Q) : own_b P = own_b Q := by
  by_cases hp : P
  · rw [own_b1 hp, own_b1 (h.mp hp)]
  · rw [own_b0 hp, own_b0 (fun q => hp (h.mpr q))]
theorem own_bj {P Q : Prop} [Decidable P] [Decidable Q] {x : Int32} (hx : x = own_b Q) (h1 : Q → P) (h2 : ¬ Q → ¬ P) : x = own_b P := by
  rw [hx]
  by_cases hq : Q
  · rw [own_b1 hq, own_b1 (h1 hq)]
  · rw [own_b0 hq, own_b0 (h2 hq)]
theorem own_bn0 {P : Prop} [Decidable P] {x : Int32} (hx : x = own_b P) (h : P) : ¬ x = 0 := by rw [hx, own_b1 h]; decide
theorem own_b00 {P : Prop} [Decidable P] {x : Int32} (hx : x = own_b P) (h : ¬ P) : x = 0 := by rw [hx, own_b0 h]
theorem own_bb {P Q : Prop} [Decidable P] [Decidable Q] {x y : Int32} (hx : x = own_b P) (hy : y = own_b Q) (h : P ↔ Q) : x = y := by rw [hx, hy, own_bi h]
theorem own_bnar {P : Prop} [Decidable P] : nar .boolean (own_b P) = own_b P := by
  by_cases hp : P
  · rw [own_b1 hp]; decide
  · rw [own_b0 hp]; decide
theorem own_nar {P : Prop} [Decidable P] {x : Int32} (hx : x = own_b P) : nar .boolean x = own_b P := by rw [hx]; exact own_bnar
theorem own_bnarw {P : Prop} [Decidable P] {x : Int32} (hx : x = own_b P) : narrow .boolean (.int x) = .int x := by
  show Value.int (nar .boolean x) = _
  rw [own_nar hx, hx]
theorem own_bfits {x : Int32} (h : narrow .boolean (.int x) = .int x) : fits .boolean (.int x) = true := by
  have := fits_nar_bool x
  have e : nar .boolean x = x := Value.int.inj h
  rwa [e] at this
theorem own_cast {Z : State} {h : Heap} {a : Addr} {C n d : String} {v w : Value} (e : v = w) (F : Fld Z h a C n d v) : Fld Z h a C n d w := e ▸ F
theorem own_selPriv {Z : State} {a0 : Array Value} {y z : MethodName} {C : String} (hp : (Cond.privateMethod y).before a0 Z = true) (hi : (Cond.instanceMethod y).before a0 Z = true) (hs : (Cond.selects C z z).before a0 Z = true) (hc : z.cls = y.cls)
    (hy : y.cls ≠ "java/lang/invoke/MethodHandle" ∧ y.cls ≠ "java/lang/invoke/VarHandle") : (Cond.selects y.cls y y).before a0 Z = true := by
  obtain ⟨mk, methM, hnamed, hmethM, hstM, habM⟩ := Cond.instanceMethod_spec hi
  obtain ⟨c2, r2, m2, q1, q2, q3, q4, kP, hkP, hkPi⟩ := Cond.selects_spec hs
  have e1 := findClass_of_methodNamed hnamed
  have e2 := findClass_of_methodNamed q3
  rw [hc, e1] at e2
  have e3 : mk.cls = m2.cls := Option.some.inj e2
  have hf := State.methodFound?_of_named hnamed hy
  have hpm := Cond.privateMethod_at hp mk methM hnamed hmethM
  simp [Cond.before, Cond.holds, Cond.value, e1, hf, hnamed, selectMethod_private hmethM hpm, e3, hkP, hkPi]
section Copy
variable {p : Program} {l : Launch} {e : Env} {R : Room} {s : State} {m : MethodId} {args : Array Value} {below : List Frame} {meth : Method} {c : Code} {T : State} {locs : List Loc} {cells slots : Nat} {Z : State} {h : Heap} {a b : Addr}
end Copy
section Cold
variable {p : Program} {l : Launch} {e : Env} {R : Room} {s : State} {vm0 : Vm} {m : MethodId} {args : Array Value} {below : List Frame} {meth : Method} {c : Code} {T : State} {locs : List Loc} {cells slots : Nat} {Z : State} {a0 : Array Value} {h : Heap}
end Cold
end Jvm.RoadKit
namespace Jvm.Pilot.@@N@@
open Jvm Jvm.ClassFile Sem Op Lib Jvm.Free Jvm.Stand Jvm.LawKit Jvm.RoadKit Bundle Jvm.Pilot.@@N@@.Jvm.D
theorem own_pn0 : plainName "com/example/evenkeel/evenkeel/FullCycles" = true := by first | (simp [plainName, overriddenIn]; done) | decide +kernel
theorem own_d1_0 : decode prog_34_method_1_code 0 = .ok (.aload_n 0, 1) := by decide +kernel
theorem own_d1_1 : decode prog_34_method_1_code 1 = .ok (.invokespecial 1, 3) := by decide +kernel
theorem own_d1_4 : decode prog_34_method_1_code 4 = .ok (.return_, 1) := by decide +kernel
theorem own_ef1 (m : MethodId) (r0 : Addr) : entryFrame m #[(.ref r0)] 1 = mkF m 0 #[.val (.ref r0)] [] := by first | (simp [entryFrame, mkF, argsToLocals, Value.category]; done) | rfl
def own_Q1 (Z : State) (r0 : Addr) (h0 : Heap) (n0 : Nat) (v : Option Value) (h : Heap) (L : List Loc) : Prop := (v = none) ∧ (Fr n0 L) ∧ (h = h0)
set_option maxRecDepth 65536 in
set_option maxHeartbeats 40000000 in
theorem own_rm1 (l : Launch) (Z : State) (a0 : Array Value) (hw : ∀ d ∈ tables_1, d.before a0 Z = true) (ws : List Jvm.Cond) (r0 : Addr) (h0 : Heap) (n0 : Nat) (Z0 : n0 ≤ h0.size) :
    MetFree l (⟨"com/example/evenkeel/evenkeel/FullCycles", "<init>", "()V"⟩ : MethodName) (head1 (Jvm.Cond.code (⟨"com/example/evenkeel/evenkeel/FullCycles", "<init>", "()V"⟩ : MethodName) prog_34_method_1_code 1 none :: ws) ({ frames := 1, cells := 0, slots := 0, locals := 12 } : Room)) (fun a U => a = #[(.ref r0)] ∧ Z.Warmed39 U.vm ∧ U.heap = h0) (fun _ _ _ _ _ => True) (fun _ U o U' => ∃ v L, o = .returned v ∧ own_Q1 Z r0 h0 n0 v U'.heap L ∧ FrameEnd U o U' L ({ frames := 1, cells := 0, slots := 0, locals := 12 } : Room).cells ({ frames := 1, cells := 0, slots := 0, locals := 12 } : Room).slots) := by
  refine MetFree.of_bodySF (plainFor_of_name own_pn0) hisR ?_
  intro p e s m args below meth c s₁ Bd hml0 hP hK
  obtain ⟨rfl, hZ, hh⟩ := hP
  have hx := Bd.exec
  have hby := Bd.bytes
  have hml : c.maxLocals = 1 := hml0
  have hown : s.vm.findClass "com/example/evenkeel/evenkeel/FullCycles" = some m.cls := findClass_of_methodNamed Bd.named
  have hnm := (name_of_methodNamed Bd.named Bd.method).1
  have X0 : Stand p l e ({ frames := 1, cells := 0, slots := 0, locals := 12 } : Room) s m #[(.ref r0)] below meth c s₁ [] 0 0 := Stand.of_body Bd
  have e0 : s₁.heap = h0 := by rw [← hh, Bd.state]; rfl
  have N0 := Fr.nil n0
  have pre0 : ∀ t, Steps p.tables e below (s₁.setTop (mkF m 0 #[.val (.ref r0)] [])) t → Steps p.tables e below (s₁.setTop (entryFrame m #[(.ref r0)] 1)) t := fun t k => castTop (own_ef1 m r0) k
  refine own_run (own_st pre0 ?_)
  refine own_st (B := s₁.setTop (mkF m 1 #[.val (.ref r0)] [(.ref r0)])) (fun target kt => ?_) ?_
  · show Steps p.tables e below (s₁.setTop (mkF m 0 #[.val (.ref r0)] [])) target
    refine XS.aloadN X0.here hx rfl (hb hby own_d1_0) rfl rfl ?_
    exact kt
  obtain ⟨Tg1, Xg1, eg1, stg1⟩ := initO X0 hx hZ hown (hw _ (List.mem_of_getElem? (i := 8) rfl)) (hw _ (List.mem_of_getElem? (i := 9) rfl)) (hw _ (List.mem_of_getElem? (i := 10) rfl)) e0 (g := (mkF m 1 #[.val (.ref r0)] [(.ref r0)])) rfl (by rw [hml]; rfl) rfl (hb hby own_d1_1) (by decide) (W := 0) (by show 2 * 0 + _ ≤ _; exact Nat.le_of_eq rfl) (by decide)
  refine own_st stg1 ?_
  obtain ⟨fs, hr, hrun, hended, hW, hsame⟩ := Xg1.leave (v := none) (fun _ => rfl)
  have hend : Steps p.tables e below (Tg1.setTop (mkF m 4 #[.val (.ref r0)] [])) (Tg1.setFrames fs) := by
    exact Xg1.returnOut hx Bd.returns (hb hby own_d1_4) hr
  refine own_fin hend ⟨_, hrun, hended, _, _, rfl, ?_, ⟨_, rfl⟩, hW, hsame.mono (by decide) (by decide)⟩
  show own_Q1 Z r0 h0 n0 _ Tg1.heap _
  rw [eg1]
  exact ⟨rfl, N0, rfl⟩
theorem own_pn1 : plainName "com/example/evenkeel/evenkeel/CurrentValue" = true := by first | (simp [plainName, overriddenIn]; done) | decide +kernel
theorem own_d3_0 : decode prog_13_method_1_code 0 = .ok (.aload_n 0, 1) := by decide +kernel
theorem own_d3_1 : decode prog_13_method_1_code 1 = .ok (.invokespecial 1, 3) := by decide +kernel
theorem own_d3_4 : decode prog_13_method_1_code 4 = .ok (.return_, 1) := by decide +kernel
theorem own_ef3 (m : MethodId) (r0 : Addr) : entryFrame m #[(.ref r0)] 1 = mkF m 0 #[.val (.ref r0)] [] := by first | (simp [entryFrame, mkF, argsToLocals, Value.category]; done) | rfl
def own_Q3 (Z : State) (r0 : Addr) (h0 : Heap) (n0 : Nat) (v : Option Value) (h : Heap) (L : List Loc) : Prop := (v = none) ∧ (Fr n0 L) ∧ (h = h0)
set_option maxRecDepth 65536 in
set_option maxHeartbeats 40000000 in
theorem own_rm3 (l : Launch) (Z : State) (a0 : Array Value) (hw : ∀ d ∈ tables_1, d.before a0 Z = true) (ws : List Jvm.Cond) (r0 : Addr) (h0 : Heap) (n0 : Nat) (Z0 : n0 ≤ h0.size) :
    MetFree l (⟨"com/example/evenkeel/evenkeel/CurrentValue", "<init>", "()V"⟩ : MethodName) (head1 (Jvm.Cond.code (⟨"com/example/evenkeel/evenkeel/CurrentValue", "<init>", "()V"⟩ : MethodName) prog_13_method_1_code 1 none :: ws) ({ frames := 1, cells := 0, slots := 0, locals := 12 } : Room)) (fun a U => a = #[(.ref r0)] ∧ Z.Warmed39 U.vm ∧ U.heap = h0) (fun _ _ _ _ _ => True) (fun _ U o U' => ∃ v L, o = .returned v ∧ own_Q3 Z r0 h0 n0 v U'.heap L ∧ FrameEnd U o U' L ({ frames := 1, cells := 0, slots := 0, locals := 12 } : Room).cells ({ frames := 1, cells := 0, slots := 0, locals := 12 } : Room).slots) := by
  refine MetFree.of_bodySF (plainFor_of_name own_pn1) hisR ?_
  intro p e s m args below meth c s₁ Bd hml0 hP hK
  obtain ⟨rfl, hZ, hh⟩ := hP
  have hx := Bd.exec
  have hby := Bd.bytes
  have hml : c.maxLocals = 1 := hml0
  have hown : s.vm.findClass "com/example/evenkeel/evenkeel/CurrentValue" = some m.cls := findClass_of_methodNamed Bd.named
  have hnm := (name_of_methodNamed Bd.named Bd.method).1
  have X0 : Stand p l e ({ frames := 1, cells := 0, slots := 0, locals := 12 } : Room) s m #[(.ref r0)] below meth c s₁ [] 0 0 := Stand.of_body Bd
  have e0 : s₁.heap = h0 := by rw [← hh, Bd.state]; rfl
  have N0 := Fr.nil n0
  have pre0 : ∀ t, Steps p.tables e below (s₁.setTop (mkF m 0 #[.val (.ref r0)] [])) t → Steps p.tables e below (s₁.setTop (entryFrame m #[(.ref r0)] 1)) t := fun t k => castTop (own_ef3 m r0) k
  refine own_run (own_st pre0 ?_)
  refine own_st (B := s₁.setTop (mkF m 1 #[.val (.ref r0)] [(.ref r0)])) (fun target kt => ?_) ?_
  · show Steps p.tables e below (s₁.setTop (mkF m 0 #[.val (.ref r0)] [])) target
    refine XS.aloadN X0.here hx rfl (hb hby own_d3_0) rfl rfl ?_
    exact kt
  obtain ⟨Tg1, Xg1, eg1, stg1⟩ := initO X0 hx hZ hown (hw _ (List.mem_of_getElem? (i := 17) rfl)) (hw _ (List.mem_of_getElem? (i := 9) rfl)) (hw _ (List.mem_of_getElem? (i := 10) rfl)) e0 (g := (mkF m 1 #[.val (.ref r0)] [(.ref r0)])) rfl (by rw [hml]; rfl) rfl (hb hby own_d3_1) (by decide) (W := 0) (by show 2 * 0 + _ ≤ _; exact Nat.le_of_eq rfl) (by decide)
  refine own_st stg1 ?_
  obtain ⟨fs, hr, hrun, hended, hW, hsame⟩ := Xg1.leave (v := none) (fun _ => rfl)
  have hend : Steps p.tables e below (Tg1.setTop (mkF m 4 #[.val (.ref r0)] [])) (Tg1.setFrames fs) := by
    exact Xg1.returnOut hx Bd.returns (hb hby own_d3_4) hr
  refine own_fin hend ⟨_, hrun, hended, _, _, rfl, ?_, ⟨_, rfl⟩, hW, hsame.mono (by decide) (by decide)⟩
  show own_Q3 Z r0 h0 n0 _ Tg1.heap _
  rw [eg1]
  exact ⟨rfl, N0, rfl⟩
theorem own_d5_0 : decode prog_34_method_13_code 0 = .ok (.aload_n 0, 1) := by decide +kernel
theorem own_d5_1 : decode prog_34_method_13_code 1 = .ok (.lload_n 1, 1) := by decide +kernel
theorem own_d5_2 : decode prog_34_method_13_code 2 = .ok (.putfield 39, 3) := by decide +kernel
theorem own_d5_5 : decode prog_34_method_13_code 5 = .ok (.aload_n 0, 1) := by decide +kernel
theorem own_d5_6 : decode prog_34_method_13_code 6 = .ok (.lconst 0, 1) := by decide +kernel
theorem own_d5_7 : decode prog_34_method_13_code 7 = .ok (.putfield 42, 3) := by decide +kernel
theorem own_d5_10 : decode prog_34_method_13_code 10 = .ok (.aload_n 0, 1) := by decide +kernel
theorem own_d5_11 : decode prog_34_method_13_code 11 = .ok (.iconst 1, 1) := by decide +kernel
theorem own_d5_12 : decode prog_34_method_13_code 12 = .ok (.putfield 36, 3) := by decide +kernel
theorem own_d5_15 : decode prog_34_method_13_code 15 = .ok (.return_, 1) := by decide +kernel
theorem own_ef5 (m : MethodId) (r0 : Addr) (q1 : Int64) : entryFrame m #[(.ref r0), (.long q1)] 3 = mkF m 0 #[.val (.ref r0), .val (.long q1), .second] [] := by first | (simp [entryFrame, mkF, argsToLocals, Value.category]; done) | rfl
def own_Q5 (Z : State) (r0 : Addr) (q1 : Int64) (w_p : Int64) (W_s : Prop) [Decidable W_s] (w_k : Int32) (w_b : Int64) (w_m : Int64) (w_t : Int64) (W_h : Prop) [Decidable W_h] (h0 : Heap) (n0 : Nat) (v : Option Value) (h : Heap) (L : List Loc) : Prop := (v = none) ∧ (Fr n0 L) ∧ (Keep h0 h [r0]) ∧ (Exa Z h r0 "com/example/evenkeel/evenkeel/FullCycles") ∧ (Fld Z h r0 "com/example/evenkeel/evenkeel/FullCycles" "picks" "J" (.long w_p)) ∧ (Fld Z h r0 "com/example/evenkeel/evenkeel/FullCycles" "steady" "Z" (.int (own_b W_s))) ∧ (Fld Z h r0 "com/example/evenkeel/evenkeel/FullCycles" "taking" "I" (.int w_k)) ∧ (Fld Z h r0 "com/example/evenkeel/evenkeel/FullCycles" "began" "J" (.long q1)) ∧ (Fld Z h r0 "com/example/evenkeel/evenkeel/FullCycles" "made" "J" (.long (0 : Int64))) ∧ (Fld Z h r0 "com/example/evenkeel/evenkeel/FullCycles" "total" "J" (.long w_t)) ∧ (Fld Z h r0 "com/example/evenkeel/evenkeel/FullCycles" "holding" "Z" (.int (1 : Int32)))
set_option maxRecDepth 65536 in
set_option maxHeartbeats 40000000 in
theorem own_rm5 (l : Launch) (Z : State) (a0 : Array Value) (hw : ∀ d ∈ tables_1, d.before a0 Z = true) (ws : List Jvm.Cond) (r0 : Addr) (q1 : Int64) (w_p : Int64) (W_s : Prop) [Decidable W_s] (w_k : Int32) (w_b : Int64) (w_m : Int64) (w_t : Int64) (W_h : Prop) [Decidable W_h] (h0 : Heap) (n0 : Nat) (Z0 : n0 ≤ h0.size) (E_r0 : Exa Z h0 r0 "com/example/evenkeel/evenkeel/FullCycles") (F_r0_picks : Fld Z h0 r0 "com/example/evenkeel/evenkeel/FullCycles" "picks" "J" (.long w_p)) (F_r0_steady : Fld Z h0 r0 "com/example/evenkeel/evenkeel/FullCycles" "steady" "Z" (.int (own_b W_s))) (F_r0_taking : Fld Z h0 r0 "com/example/evenkeel/evenkeel/FullCycles" "taking" "I" (.int w_k)) (F_r0_began : Fld Z h0 r0 "com/example/evenkeel/evenkeel/FullCycles" "began" "J" (.long w_b)) (F_r0_made : Fld Z h0 r0 "com/example/evenkeel/evenkeel/FullCycles" "made" "J" (.long w_m)) (F_r0_total : Fld Z h0 r0 "com/example/evenkeel/evenkeel/FullCycles" "total" "J" (.long w_t)) (F_r0_holding : Fld Z h0 r0 "com/example/evenkeel/evenkeel/FullCycles" "holding" "Z" (.int (own_b W_h))) (g_r0 : n0 ≤ r0) :
    MetFree l (⟨"com/example/evenkeel/evenkeel/FullCycles", "begin", "(J)V"⟩ : MethodName) (head1 (Jvm.Cond.code (⟨"com/example/evenkeel/evenkeel/FullCycles", "begin", "(J)V"⟩ : MethodName) prog_34_method_13_code 3 none :: ws) ({ frames := 0, cells := 0, slots := 0, locals := 0 } : Room)) (fun a U => a = #[(.ref r0), (.long q1)] ∧ Z.Warmed39 U.vm ∧ U.heap = h0) (fun _ _ _ _ _ => True) (fun _ U o U' => ∃ v L, o = .returned v ∧ own_Q5 Z r0 q1 w_p W_s w_k w_b w_m w_t W_h h0 n0 v U'.heap L ∧ FrameEnd U o U' L ({ frames := 0, cells := 0, slots := 0, locals := 0 } : Room).cells ({ frames := 0, cells := 0, slots := 0, locals := 0 } : Room).slots) := by
  refine MetFree.of_bodySF (plainFor_of_name own_pn0) hisR ?_
  intro p e s m args below meth c s₁ Bd hml0 hP hK
  obtain ⟨rfl, hZ, hh⟩ := hP
  have hx := Bd.exec
  have hby := Bd.bytes
  have hml : c.maxLocals = 3 := hml0
  have hown : s.vm.findClass "com/example/evenkeel/evenkeel/FullCycles" = some m.cls := findClass_of_methodNamed Bd.named
  have hnm := (name_of_methodNamed Bd.named Bd.method).1
  have X0 : Stand p l e ({ frames := 0, cells := 0, slots := 0, locals := 0 } : Room) s m #[(.ref r0), (.long q1)] below meth c s₁ [] 0 0 := Stand.of_body Bd
  have e0 : s₁.heap = h0 := by rw [← hh, Bd.state]; rfl
  have N0 := Fr.nil n0
  have pre0 : ∀ t, Steps p.tables e below (s₁.setTop (mkF m 0 #[.val (.ref r0), .val (.long q1), .second] [])) t → Steps p.tables e below (s₁.setTop (entryFrame m #[(.ref r0), (.long q1)] 3)) t := fun t k => castTop (own_ef5 m r0 q1) k
  refine own_run (own_st pre0 ?_)
  refine own_st (B := s₁.setTop (mkF m 2 #[.val (.ref r0), .val (.long q1), .second] [(.long q1), (.ref r0)])) (fun target kt => ?_) ?_
  · show Steps p.tables e below (s₁.setTop (mkF m 0 #[.val (.ref r0), .val (.long q1), .second] [])) target
    refine XS.aloadN X0.here hx rfl (hb hby own_d5_0) rfl rfl ?_
    show Steps p.tables e below (s₁.setTop (mkF m 1 #[.val (.ref r0), .val (.long q1), .second] [(.ref r0)])) target
    refine XS.lloadN X0.here hx rfl (hb hby own_d5_1) rfl ?_
    exact kt
  obtain ⟨Tg2, hg2, Xg2, eg2, Wg2, stg2⟩ := putF X0 hx hZ hown (host := "") (Or.inl (hw _ (List.mem_of_getElem? (i := 31) rfl))) Via.refl e0 F_r0_began E_r0 (Or.inl (hw _ (List.mem_of_getElem? (i := 32) rfl))) (hw _ (List.mem_of_getElem? (i := 3) rfl)) (ty := .long) (by decide) rfl rfl (g := (mkF m 2 #[.val (.ref r0), .val (.long q1), .second] [(.long q1), (.ref r0)])) rfl rfl (hb hby own_d5_2)
  refine own_st stg2 ?_
  have Ng2 := Fr.snoc Xg2 N0 g_r0
  have F := E_r0.wr Wg2
  have F_1 := F_r0_picks.other Wg2 (Or.inr (slot_ne (Or.inl (hw _ (List.mem_of_getElem? (i := 26) rfl))) (Or.inl (hw _ (List.mem_of_getElem? (i := 32) rfl))) (by decide) (t := .long) (t' := .long) (by decide) (by decide)))
  have F_2 := F_r0_steady.other Wg2 (Or.inr (slot_ne (Or.inl (hw _ (List.mem_of_getElem? (i := 24) rfl))) (Or.inl (hw _ (List.mem_of_getElem? (i := 32) rfl))) (by decide) (t := .boolean) (t' := .long) (by decide) (by decide)))
  have F_3 := F_r0_taking.other Wg2 (Or.inr (slot_ne (Or.inl (hw _ (List.mem_of_getElem? (i := 40) rfl))) (Or.inl (hw _ (List.mem_of_getElem? (i := 32) rfl))) (by decide) (t := .int) (t' := .long) (by decide) (by decide)))
  have F_4 := F_r0_began.same Wg2
  have F_5 := F_r0_made.other Wg2 (Or.inr (slot_ne (Or.inl (hw _ (List.mem_of_getElem? (i := 34) rfl))) (Or.inl (hw _ (List.mem_of_getElem? (i := 32) rfl))) (by decide) (t := .long) (t' := .long) (by decide) (by decide)))
  have F_6 := F_r0_total.other Wg2 (Or.inr (slot_ne (Or.inl (hw _ (List.mem_of_getElem? (i := 38) rfl))) (Or.inl (hw _ (List.mem_of_getElem? (i := 32) rfl))) (by decide) (t := .long) (t' := .long) (by decide) (by decide)))
  have F_7 := F_r0_holding.other Wg2 (Or.inr (slot_ne (Or.inl (hw _ (List.mem_of_getElem? (i := 36) rfl))) (Or.inl (hw _ (List.mem_of_getElem? (i := 32) rfl))) (by decide) (t := .boolean) (t' := .long) (by decide) (by decide)))
  have Zz : n0 ≤ hg2.size := Nat.le_trans Z0 (Keep.of_wr Wg2).1
  have Kc := (Keep.refl h0 [r0]).wr Wg2 (Or.inl (List.mem_of_getElem? (i := 0) rfl))
  refine own_st (B := Tg2.setTop (mkF m 7 #[.val (.ref r0), .val (.long q1), .second] [(.long (0 : Int64)), (.ref r0)])) (fun target kt => ?_) ?_
  · show Steps p.tables e below (Tg2.setTop (mkF m 5 #[.val (.ref r0), .val (.long q1), .second] [])) target
    refine XS.aloadN Xg2.here hx rfl (hb hby own_d5_5) rfl rfl ?_
    show Steps p.tables e below (Tg2.setTop (mkF m 6 #[.val (.ref r0), .val (.long q1), .second] [(.ref r0)])) target
    refine XS.lconst Xg2.here hx rfl (hb hby own_d5_6) ?_
    exact kt
  obtain ⟨Tg7, hg7, Xg7, eg7, Wg7, stg7⟩ := putF Xg2 hx hZ hown (host := "") (Or.inl (hw _ (List.mem_of_getElem? (i := 33) rfl))) Via.refl eg2 F_5 F (Or.inl (hw _ (List.mem_of_getElem? (i := 34) rfl))) (hw _ (List.mem_of_getElem? (i := 3) rfl)) (ty := .long) (by decide) rfl rfl (g := (mkF m 7 #[.val (.ref r0), .val (.long q1), .second] [(.long (0 : Int64)), (.ref r0)])) rfl rfl (hb hby own_d5_7)
  refine own_st stg7 ?_
  have Ng7 := Fr.snoc Xg7 Ng2 g_r0
  have F_8 := F.wr Wg7
  have F_9 := F_1.other Wg7 (Or.inr (slot_ne (Or.inl (hw _ (List.mem_of_getElem? (i := 26) rfl))) (Or.inl (hw _ (List.mem_of_getElem? (i := 34) rfl))) (by decide) (t := .long) (t' := .long) (by decide) (by decide)))
  have F_10 := F_2.other Wg7 (Or.inr (slot_ne (Or.inl (hw _ (List.mem_of_getElem? (i := 24) rfl))) (Or.inl (hw _ (List.mem_of_getElem? (i := 34) rfl))) (by decide) (t := .boolean) (t' := .long) (by decide) (by decide)))
  have F_11 := F_3.other Wg7 (Or.inr (slot_ne (Or.inl (hw _ (List.mem_of_getElem? (i := 40) rfl))) (Or.inl (hw _ (List.mem_of_getElem? (i := 34) rfl))) (by decide) (t := .int) (t' := .long) (by decide) (by decide)))
  have F_12 := F_4.other Wg7 (Or.inr (slot_ne (Or.inl (hw _ (List.mem_of_getElem? (i := 32) rfl))) (Or.inl (hw _ (List.mem_of_getElem? (i := 34) rfl))) (by decide) (t := .long) (t' := .long) (by decide) (by decide)))
  have F_13 := F_5.same Wg7
  have F_14 := F_6.other Wg7 (Or.inr (slot_ne (Or.inl (hw _ (List.mem_of_getElem? (i := 38) rfl))) (Or.inl (hw _ (List.mem_of_getElem? (i := 34) rfl))) (by decide) (t := .long) (t' := .long) (by decide) (by decide)))
  have F_15 := F_7.other Wg7 (Or.inr (slot_ne (Or.inl (hw _ (List.mem_of_getElem? (i := 36) rfl))) (Or.inl (hw _ (List.mem_of_getElem? (i := 34) rfl))) (by decide) (t := .boolean) (t' := .long) (by decide) (by decide)))
  have Zz_1 : n0 ≤ hg7.size := Nat.le_trans Zz (Keep.of_wr Wg7).1
  have Kc_1 := Kc.wr Wg7 (Or.inl (List.mem_of_getElem? (i := 0) rfl))
  refine own_st (B := Tg7.setTop (mkF m 12 #[.val (.ref r0), .val (.long q1), .second] [(.int (1 : Int32)), (.ref r0)])) (fun target kt => ?_) ?_
  · show Steps p.tables e below (Tg7.setTop (mkF m 10 #[.val (.ref r0), .val (.long q1), .second] [])) target
    refine XS.aloadN Xg7.here hx rfl (hb hby own_d5_10) rfl rfl ?_
    show Steps p.tables e below (Tg7.setTop (mkF m 11 #[.val (.ref r0), .val (.long q1), .second] [(.ref r0)])) target
    refine XS.iconst Xg7.here hx rfl (hb hby own_d5_11) ?_
    exact kt
  obtain ⟨Tg12, hg12, Xg12, eg12, Wg12, stg12⟩ := putFN Xg7 hx hZ hown (hw _ (List.mem_of_getElem? (i := 35) rfl)) Via.refl eg7 F_15 F_8 (Or.inl (hw _ (List.mem_of_getElem? (i := 36) rfl))) (hw _ (List.mem_of_getElem? (i := 3) rfl)) (ty := .boolean) (v' := (.int (1 : Int32))) (by decide) rfl (own_bfits rfl) (g := (mkF m 12 #[.val (.ref r0), .val (.long q1), .second] [(.int (1 : Int32)), (.ref r0)])) rfl rfl (hb hby own_d5_12)
  refine own_st stg12 ?_
  have Ng12 := Fr.snoc Xg12 Ng7 g_r0
  have F_16 := F_8.wr Wg12
  have F_17 := F_9.other Wg12 (Or.inr (slot_ne (Or.inl (hw _ (List.mem_of_getElem? (i := 26) rfl))) (Or.inl (hw _ (List.mem_of_getElem? (i := 36) rfl))) (by decide) (t := .long) (t' := .boolean) (by decide) (by decide)))
  have F_18 := F_10.other Wg12 (Or.inr (slot_ne (Or.inl (hw _ (List.mem_of_getElem? (i := 24) rfl))) (Or.inl (hw _ (List.mem_of_getElem? (i := 36) rfl))) (by decide) (t := .boolean) (t' := .boolean) (by decide) (by decide)))
  have F_19 := F_11.other Wg12 (Or.inr (slot_ne (Or.inl (hw _ (List.mem_of_getElem? (i := 40) rfl))) (Or.inl (hw _ (List.mem_of_getElem? (i := 36) rfl))) (by decide) (t := .int) (t' := .boolean) (by decide) (by decide)))
  have F_20 := F_12.other Wg12 (Or.inr (slot_ne (Or.inl (hw _ (List.mem_of_getElem? (i := 32) rfl))) (Or.inl (hw _ (List.mem_of_getElem? (i := 36) rfl))) (by decide) (t := .long) (t' := .boolean) (by decide) (by decide)))
  have F_21 := F_13.other Wg12 (Or.inr (slot_ne (Or.inl (hw _ (List.mem_of_getElem? (i := 34) rfl))) (Or.inl (hw _ (List.mem_of_getElem? (i := 36) rfl))) (by decide) (t := .long) (t' := .boolean) (by decide) (by decide)))
  have F_22 := F_14.other Wg12 (Or.inr (slot_ne (Or.inl (hw _ (List.mem_of_getElem? (i := 38) rfl))) (Or.inl (hw _ (List.mem_of_getElem? (i := 36) rfl))) (by decide) (t := .long) (t' := .boolean) (by decide) (by decide)))
  have F_23 := F_15.same Wg12
  have Zz_2 : n0 ≤ hg12.size := Nat.le_trans Zz_1 (Keep.of_wr Wg12).1
  have Kc_2 := Kc_1.wr Wg12 (Or.inl (List.mem_of_getElem? (i := 0) rfl))
  obtain ⟨fs, hr, hrun, hended, hW, hsame⟩ := Xg12.leave (v := none) (fun _ => rfl)
  have hend : Steps p.tables e below (Tg12.setTop (mkF m 15 #[.val (.ref r0), .val (.long q1), .second] [])) (Tg12.setFrames fs) := by
    exact Xg12.returnOut hx Bd.returns (hb hby own_d5_15) hr
  refine own_fin hend ⟨_, hrun, hended, _, _, rfl, ?_, ⟨_, rfl⟩, hW, hsame.mono (by decide) (by decide)⟩
  show own_Q5 Z r0 q1 w_p W_s w_k w_b w_m w_t W_h h0 n0 _ Tg12.heap _
  rw [eg12]
  exact ⟨rfl, Ng12, Kc_2, F_16, F_17, F_18, F_19, F_20, F_21, F_22, F_23⟩
theorem own_pd0 : parseMethodDescriptor "(J)V" = some ⟨[.long], none⟩ := by decide +kernel
theorem own_d4_0 : decode prog_34_method_4_code 0 = .ok (.aload_n 0, 1) := by decide +kernel
theorem own_d4_1 : decode prog_34_method_4_code 1 = .ok (.getfield 22, 3) := by decide +kernel
theorem own_d4_4 : decode prog_34_method_4_code 4 = .ok (.ifCond .eq 16, 3) := by decide +kernel
theorem own_d4_7 : decode prog_34_method_4_code 7 = .ok (.iload_n 2, 1) := by decide +kernel
theorem own_d4_8 : decode prog_34_method_4_code 8 = .ok (.ifCond .eq 12, 3) := by decide +kernel
theorem own_d4_11 : decode prog_34_method_4_code 11 = .ok (.iload 5, 2) := by decide +kernel
theorem own_d4_13 : decode prog_34_method_4_code 13 = .ok (.aload_n 0, 1) := by decide +kernel
theorem own_d4_14 : decode prog_34_method_4_code 14 = .ok (.getfield 26, 3) := by decide +kernel
theorem own_d4_17 : decode prog_34_method_4_code 17 = .ok (.if_icmp .eq 13, 3) := by decide +kernel
theorem own_d4_20 : decode prog_34_method_4_code 20 = .ok (.aload_n 0, 1) := by decide +kernel
theorem own_d4_21 : decode prog_34_method_4_code 21 = .ok (.aload_n 0, 1) := by decide +kernel
theorem own_d4_22 : decode prog_34_method_4_code 22 = .ok (.getfield 13, 3) := by decide +kernel
theorem own_d4_25 : decode prog_34_method_4_code 25 = .ok (.lconst 1, 1) := by decide +kernel
theorem own_d4_26 : decode prog_34_method_4_code 26 = .ok (.ladd, 1) := by decide +kernel
theorem own_d4_27 : decode prog_34_method_4_code 27 = .ok (.invokevirtual 29, 3) := by decide +kernel
theorem own_d4_30 : decode prog_34_method_4_code 30 = .ok (.aload_n 0, 1) := by decide +kernel
theorem own_d4_31 : decode prog_34_method_4_code 31 = .ok (.iload_n 1, 1) := by decide +kernel
theorem own_d4_32 : decode prog_34_method_4_code 32 = .ok (.putfield 22, 3) := by decide +kernel
theorem own_d4_35 : decode prog_34_method_4_code 35 = .ok (.aload_n 0, 1) := by decide +kernel
theorem own_d4_36 : decode prog_34_method_4_code 36 = .ok (.lload_n 3, 1) := by decide +kernel
theorem own_d4_37 : decode prog_34_method_4_code 37 = .ok (.putfield 33, 3) := by decide +kernel
theorem own_d4_40 : decode prog_34_method_4_code 40 = .ok (.aload_n 0, 1) := by decide +kernel
theorem own_d4_41 : decode prog_34_method_4_code 41 = .ok (.iload 5, 2) := by decide +kernel
theorem own_d4_43 : decode prog_34_method_4_code 43 = .ok (.putfield 26, 3) := by decide +kernel
theorem own_d4_46 : decode prog_34_method_4_code 46 = .ok (.aload_n 0, 1) := by decide +kernel
theorem own_d4_47 : decode prog_34_method_4_code 47 = .ok (.getfield 36, 3) := by decide +kernel
theorem own_d4_50 : decode prog_34_method_4_code 50 = .ok (.ireturn, 1) := by decide +kernel
theorem own_ef4 (m : MethodId) (r0 : Addr) (q3 : Int64) (p4 : Int32) (B1 : Prop) [Decidable B1] (B2 : Prop) [Decidable B2] : entryFrame m #[(.ref r0), (.int (own_b B1)), (.int (own_b B2)), (.long q3), (.int p4)] 6 = mkF m 0 #[.val (.ref r0), .val (.int (own_b B1)), .val (.int (own_b B2)), .val (.long q3), .second, .val (.int p4)] [] := by first | (simp [entryFrame, mkF, argsToLocals, Value.category]; done) | rfl
def own_Q4 (Z : State) (r0 : Addr) (B1 : Prop) [Decidable B1] (B2 : Prop) [Decidable B2] (q3 : Int64) (p4 : Int32) (w_p : Int64) (W_s : Prop) [Decidable W_s] (w_k : Int32) (w_b : Int64) (w_m : Int64) (w_t : Int64) (W_h : Prop) [Decidable W_h] (h0 : Heap) (n0 : Nat) (v : Option Value) (h : Heap) (L : List Loc) : Prop := (v = some (.int (own_b (¬ (W_s) ∨ ((¬ (B2) ∨ ((¬ (p4 = w_k) ∨ (W_h))))))))) ∧ (Fr n0 L) ∧ (Keep h0 h [r0]) ∧ (Exa Z h r0 "com/example/evenkeel/evenkeel/FullCycles") ∧ (Fld Z h r0 "com/example/evenkeel/evenkeel/FullCycles" "picks" "J" (.long w_p)) ∧ (Fld Z h r0 "com/example/evenkeel/evenkeel/FullCycles" "steady" "Z" (.int (own_b B1))) ∧ (Fld Z h r0 "com/example/evenkeel/evenkeel/FullCycles" "taking" "I" (.int p4)) ∧ (Fld Z h r0 "com/example/evenkeel/evenkeel/FullCycles" "began" "J" (.long ((if W_s then (if B2 then (if p4 = w_k then w_b else ((w_p + (1 : Int64)))) else ((w_p + (1 : Int64)))) else ((w_p + (1 : Int64))))))) ∧ (Fld Z h r0 "com/example/evenkeel/evenkeel/FullCycles" "made" "J" (.long ((if W_s then (if B2 then (if p4 = w_k then w_m else (0 : Int64)) else (0 : Int64)) else (0 : Int64))))) ∧ (Fld Z h r0 "com/example/evenkeel/evenkeel/FullCycles" "total" "J" (.long q3)) ∧ (Fld Z h r0 "com/example/evenkeel/evenkeel/FullCycles" "holding" "Z" (.int (own_b (¬ (W_s) ∨ ((¬ (B2) ∨ ((¬ (p4 = w_k) ∨ (W_h)))))))))
set_option maxRecDepth 65536 in
set_option maxHeartbeats 40000000 in
theorem own_rm4 (l : Launch) (Z : State) (a0 : Array Value) (hw : ∀ d ∈ tables_1, d.before a0 Z = true) (ws : List Jvm.Cond) (r0 : Addr) (B1 : Prop) [Decidable B1] (B2 : Prop) [Decidable B2] (q3 : Int64) (p4 : Int32) (w_p : Int64) (W_s : Prop) [Decidable W_s] (w_k : Int32) (w_b : Int64) (w_m : Int64) (w_t : Int64) (W_h : Prop) [Decidable W_h] (h0 : Heap) (n0 : Nat) (Z0 : n0 ≤ h0.size) (E_r0 : Exa Z h0 r0 "com/example/evenkeel/evenkeel/FullCycles") (F_r0_picks : Fld Z h0 r0 "com/example/evenkeel/evenkeel/FullCycles" "picks" "J" (.long w_p)) (F_r0_steady : Fld Z h0 r0 "com/example/evenkeel/evenkeel/FullCycles" "steady" "Z" (.int (own_b W_s))) (F_r0_taking : Fld Z h0 r0 "com/example/evenkeel/evenkeel/FullCycles" "taking" "I" (.int w_k)) (F_r0_began : Fld Z h0 r0 "com/example/evenkeel/evenkeel/FullCycles" "began" "J" (.long w_b)) (F_r0_made : Fld Z h0 r0 "com/example/evenkeel/evenkeel/FullCycles" "made" "J" (.long w_m)) (F_r0_total : Fld Z h0 r0 "com/example/evenkeel/evenkeel/FullCycles" "total" "J" (.long w_t)) (F_r0_holding : Fld Z h0 r0 "com/example/evenkeel/evenkeel/FullCycles" "holding" "Z" (.int (own_b W_h))) (g_r0 : n0 ≤ r0) :
    MetFree l (⟨"com/example/evenkeel/evenkeel/FullCycles", "enter", "(ZZJI)Z"⟩ : MethodName) (head1 (Jvm.Cond.code (⟨"com/example/evenkeel/evenkeel/FullCycles", "enter", "(ZZJI)Z"⟩ : MethodName) prog_34_method_4_code 6 (some .boolean) :: ws) ({ frames := 1, cells := 0, slots := 0, locals := 14 } : Room)) (fun a U => a = #[(.ref r0), (.int (own_b B1)), (.int (own_b B2)), (.long q3), (.int p4)] ∧ Z.Warmed39 U.vm ∧ U.heap = h0) (fun _ _ _ _ _ => True) (fun _ U o U' => ∃ v L, o = .returned v ∧ own_Q4 Z r0 B1 B2 q3 p4 w_p W_s w_k w_b w_m w_t W_h h0 n0 v U'.heap L ∧ FrameEnd U o U' L ({ frames := 1, cells := 0, slots := 0, locals := 14 } : Room).cells ({ frames := 1, cells := 0, slots := 0, locals := 14 } : Room).slots) := by
  refine MetFree.of_bodySF (plainFor_of_name own_pn0) hisR ?_
  intro p e s m args below meth c s₁ Bd hml0 hP hK
  obtain ⟨rfl, hZ, hh⟩ := hP
  have hx := Bd.exec
  have hby := Bd.bytes
  have hml : c.maxLocals = 6 := hml0
  have hown : s.vm.findClass "com/example/evenkeel/evenkeel/FullCycles" = some m.cls := findClass_of_methodNamed Bd.named
  have hnm := (name_of_methodNamed Bd.named Bd.method).1
  have X0 : Stand p l e ({ frames := 1, cells := 0, slots := 0, locals := 14 } : Room) s m #[(.ref r0), (.int (own_b B1)), (.int (own_b B2)), (.long q3), (.int p4)] below meth c s₁ [] 0 0 := Stand.of_body Bd
  have e0 : s₁.heap = h0 := by rw [← hh, Bd.state]; rfl
  have N0 := Fr.nil n0
  have pre0 : ∀ t, Steps p.tables e below (s₁.setTop (mkF m 0 #[.val (.ref r0), .val (.int (own_b B1)), .val (.int (own_b B2)), .val (.long q3), .second, .val (.int p4)] [])) t → Steps p.tables e below (s₁.setTop (entryFrame m #[(.ref r0), (.int (own_b B1)), (.int (own_b B2)), (.long q3), (.int p4)] 6)) t := fun t k => castTop (own_ef4 m r0 q3 p4 B1 B2) k
  refine own_run (own_st pre0 ?_)
  refine own_st (B := s₁.setTop (mkF m 1 #[.val (.ref r0), .val (.int (own_b B1)), .val (.int (own_b B2)), .val (.long q3), .second, .val (.int p4)] [(.ref r0)])) (fun target kt => ?_) ?_
  · show Steps p.tables e below (s₁.setTop (mkF m 0 #[.val (.ref r0), .val (.int (own_b B1)), .val (.int (own_b B2)), .val (.long q3), .second, .val (.int p4)] [])) target
    refine XS.aloadN X0.here hx rfl (hb hby own_d4_0) rfl rfl ?_
    exact kt
  obtain ⟨Tg1, Xg1, eg1, stg1⟩ := getF X0 hx hZ hown (host := "") (Or.inl (hw _ (List.mem_of_getElem? (i := 23) rfl))) Via.refl e0 F_r0_steady (g := (mkF m 1 #[.val (.ref r0), .val (.int (own_b B1)), .val (.int (own_b B2)), .val (.long q3), .second, .val (.int p4)] [(.ref r0)])) rfl rfl (hb hby own_d4_1)
  refine own_st stg1 ?_
  obtain ⟨_, ⟨T_M30, h_M30, lc_M30, j30_f_r0_steady, j30_f_r0_began, j30_f_r0_made, j30_f_r0_holding, rfl, X_M30, e_M30, N_M30, Z_M30, K_M30, F_9, F_10, F_11, F_12, F_13, F_14, F_15, F_16, rfl, hj30_f_r0_began, hj30_f_r0_made, rfl⟩, st_M30⟩ : own_Lead p.tables e below (Tg1.setTop (mkF m 4 #[.val (.ref r0), .val (.int (own_b B1)), .val (.int (own_b B2)), .val (.long q3), .second, .val (.int p4)] [(.int (own_b W_s))])) (fun B => ∃ (T_M30 : State) (h_M30 : Heap) (lc_M30 : List Loc) (j30_f_r0_steady : Int32) (j30_f_r0_began : Int64) (j30_f_r0_made : Int64) (j30_f_r0_holding : Int32), B = T_M30.setTop (mkF m 30 #[.val (.ref r0), .val (.int (own_b B1)), .val (.int (own_b B2)), .val (.long q3), .second, .val (.int p4)] []) ∧ Stand p l e ({ frames := 1, cells := 0, slots := 0, locals := 14 } : Room) s m #[(.ref r0), (.int (own_b B1)), (.int (own_b B2)), (.long q3), (.int p4)] below meth c T_M30 lc_M30 0 0 ∧ T_M30.heap = h_M30 ∧ Fr n0 lc_M30 ∧ n0 ≤ h_M30.size ∧ Keep h0 h_M30 [r0] ∧ Exa Z h_M30 r0 "com/example/evenkeel/evenkeel/FullCycles" ∧ Fld Z h_M30 r0 "com/example/evenkeel/evenkeel/FullCycles" "picks" "J" (.long w_p) ∧ Fld Z h_M30 r0 "com/example/evenkeel/evenkeel/FullCycles" "steady" "Z" (.int j30_f_r0_steady) ∧ Fld Z h_M30 r0 "com/example/evenkeel/evenkeel/FullCycles" "taking" "I" (.int w_k) ∧ Fld Z h_M30 r0 "com/example/evenkeel/evenkeel/FullCycles" "began" "J" (.long j30_f_r0_began) ∧ Fld Z h_M30 r0 "com/example/evenkeel/evenkeel/FullCycles" "made" "J" (.long j30_f_r0_made) ∧ Fld Z h_M30 r0 "com/example/evenkeel/evenkeel/FullCycles" "total" "J" (.long w_t) ∧ Fld Z h_M30 r0 "com/example/evenkeel/evenkeel/FullCycles" "holding" "Z" (.int j30_f_r0_holding) ∧ j30_f_r0_steady = own_b (W_s) ∧ j30_f_r0_began = (if W_s then (if B2 then (if p4 = w_k then w_b else ((w_p + (1 : Int64)))) else ((w_p + (1 : Int64)))) else ((w_p + (1 : Int64)))) ∧ j30_f_r0_made = (if W_s then (if B2 then (if p4 = w_k then w_m else (0 : Int64)) else (0 : Int64)) else (0 : Int64)) ∧ j30_f_r0_holding = own_b ((¬ (W_s) ∨ ((¬ (B2) ∨ ((¬ (p4 = w_k) ∨ (W_h)))))))) := by
    by_cases c4 : W_s
    · refine own_st (B := Tg1.setTop (mkF m 8 #[.val (.ref r0), .val (.int (own_b B1)), .val (.int (own_b B2)), .val (.long q3), .second, .val (.int p4)] [(.int (own_b B2))])) (fun target kt => ?_) ?_
      · show Steps p.tables e below (Tg1.setTop (mkF m 4 #[.val (.ref r0), .val (.int (own_b B1)), .val (.int (own_b B2)), .val (.long q3), .second, .val (.int p4)] [(.int (own_b W_s))])) target
        refine XS.ifNo Xg1.here hx rfl (hb hby own_d4_4) rfl ((if0 _ _).trans (feq (own_bn0 rfl c4)).1) ?_
        show Steps p.tables e below (Tg1.setTop (mkF m 7 #[.val (.ref r0), .val (.int (own_b B1)), .val (.int (own_b B2)), .val (.long q3), .second, .val (.int p4)] [])) target
        refine XS.iloadN Xg1.here hx rfl (hb hby own_d4_7) rfl ?_
        exact kt
      by_cases c8 : B2
      · refine own_st (B := Tg1.setTop (mkF m 14 #[.val (.ref r0), .val (.int (own_b B1)), .val (.int (own_b B2)), .val (.long q3), .second, .val (.int p4)] [(.ref r0), (.int p4)])) (fun target kt => ?_) ?_
        · show Steps p.tables e below (Tg1.setTop (mkF m 8 #[.val (.ref r0), .val (.int (own_b B1)), .val (.int (own_b B2)), .val (.long q3), .second, .val (.int p4)] [(.int (own_b B2))])) target
          refine XS.ifNo Xg1.here hx rfl (hb hby own_d4_8) rfl ((if0 _ _).trans (feq (own_bn0 rfl c8)).1) ?_
          show Steps p.tables e below (Tg1.setTop (mkF m 11 #[.val (.ref r0), .val (.int (own_b B1)), .val (.int (own_b B2)), .val (.long q3), .second, .val (.int p4)] [])) target
          refine XS.iload Xg1.here hx rfl (hb hby own_d4_11) rfl ?_
          show Steps p.tables e below (Tg1.setTop (mkF m 13 #[.val (.ref r0), .val (.int (own_b B1)), .val (.int (own_b B2)), .val (.long q3), .second, .val (.int p4)] [(.int p4)])) target
          refine XS.aloadN Xg1.here hx rfl (hb hby own_d4_13) rfl rfl ?_
          exact kt
        obtain ⟨Tg14, Xg14, eg14, stg14⟩ := getF Xg1 hx hZ hown (host := "") (Or.inl (hw _ (List.mem_of_getElem? (i := 39) rfl))) Via.refl eg1 F_r0_taking (g := (mkF m 14 #[.val (.ref r0), .val (.int (own_b B1)), .val (.int (own_b B2)), .val (.long q3), .second, .val (.int p4)] [(.ref r0), (.int p4)])) rfl rfl (hb hby own_d4_14)
        refine own_st stg14 ?_
        by_cases c17 : p4 = w_k
        · refine own_st (B := Tg14.setTop (mkF m 30 #[.val (.ref r0), .val (.int (own_b B1)), .val (.int (own_b B2)), .val (.long q3), .second, .val (.int p4)] [])) (fun target kt => ?_) ?_
          · show Steps p.tables e below (Tg14.setTop (mkF m 17 #[.val (.ref r0), .val (.int (own_b B1)), .val (.int (own_b B2)), .val (.long q3), .second, .val (.int p4)] [(.int w_k), (.int p4)])) target
            refine XS.icmpYes Xg14.here hx rfl (pc0 := 17) (pc' := 30) rfl (hb hby own_d4_17) rfl (teq c17).1 (by decide) (by decide) ?_
            exact kt
          exact ⟨_, ⟨Tg14, h0, _, (own_b W_s), w_b, w_m, (own_b W_h), rfl, Xg14, eg14, N0, Z0, (Keep.refl h0 [r0]), E_r0, F_r0_picks, F_r0_steady, F_r0_taking, F_r0_began, F_r0_made, F_r0_total, F_r0_holding, ((rfl).trans ((own_b1 c4).trans (own_b1 c4).symm)), (Eq.trans (Eq.trans (if_pos c17).symm (if_pos c8).symm) (if_pos c4).symm), (Eq.trans (Eq.trans (if_pos c17).symm (if_pos c8).symm) (if_pos c4).symm), (own_bj rfl (fun q => (Or.inr (Or.inr (Or.inr q)))) (fun q => (fun w => w.elim (fun n => n c4) (fun w => w.elim (fun n => n c8) (fun w => w.elim (fun n => n c17) q)))))⟩, fun _ k => k⟩
        · refine own_st (B := Tg14.setTop (mkF m 22 #[.val (.ref r0), .val (.int (own_b B1)), .val (.int (own_b B2)), .val (.long q3), .second, .val (.int p4)] [(.ref r0), (.ref r0)])) (fun target kt => ?_) ?_
          · show Steps p.tables e below (Tg14.setTop (mkF m 17 #[.val (.ref r0), .val (.int (own_b B1)), .val (.int (own_b B2)), .val (.long q3), .second, .val (.int p4)] [(.int w_k), (.int p4)])) target
            refine XS.icmpNo Xg14.here hx rfl (hb hby own_d4_17) rfl (feq c17).1 ?_
            show Steps p.tables e below (Tg14.setTop (mkF m 20 #[.val (.ref r0), .val (.int (own_b B1)), .val (.int (own_b B2)), .val (.long q3), .second, .val (.int p4)] [])) target
            refine XS.aloadN Xg14.here hx rfl (hb hby own_d4_20) rfl rfl ?_
            show Steps p.tables e below (Tg14.setTop (mkF m 21 #[.val (.ref r0), .val (.int (own_b B1)), .val (.int (own_b B2)), .val (.long q3), .second, .val (.int p4)] [(.ref r0)])) target
            refine XS.aloadN Xg14.here hx rfl (hb hby own_d4_21) rfl rfl ?_
            exact kt
          obtain ⟨Tg22, Xg22, eg22, stg22⟩ := getF Xg14 hx hZ hown (host := "") (Or.inl (hw _ (List.mem_of_getElem? (i := 25) rfl))) Via.refl eg14 F_r0_picks (g := (mkF m 22 #[.val (.ref r0), .val (.int (own_b B1)), .val (.int (own_b B2)), .val (.long q3), .second, .val (.int p4)] [(.ref r0), (.ref r0)])) rfl rfl (hb hby own_d4_22)
          refine own_st stg22 ?_
          refine own_st (B := Tg22.setTop (mkF m 27 #[.val (.ref r0), .val (.int (own_b B1)), .val (.int (own_b B2)), .val (.long q3), .second, .val (.int p4)] [(.long (w_p + (1 : Int64))), (.ref r0)])) (fun target kt => ?_) ?_
          · show Steps p.tables e below (Tg22.setTop (mkF m 25 #[.val (.ref r0), .val (.int (own_b B1)), .val (.int (own_b B2)), .val (.long q3), .second, .val (.int p4)] [(.long w_p), (.ref r0)])) target
            refine XS.lconst Xg22.here hx rfl (hb hby own_d4_25) ?_
            show Steps p.tables e below (Tg22.setTop (mkF m 26 #[.val (.ref r0), .val (.int (own_b B1)), .val (.int (own_b B2)), .val (.long q3), .second, .val (.int p4)] [(.long (1 : Int64)), (.long w_p), (.ref r0)])) target
            refine XS.ladd Xg22.here hx rfl (hb hby own_d4_26) rfl ?_
            exact kt
          obtain ⟨cqg27, qg27, qg27'⟩ := E_r0.cell
          obtain ⟨_, _, ⟨Tg27, Lg27, kg27, ng27⟩, -, Xg27, ⟨Lcg27, hQg27, lg27, yg27, zg27⟩, stg27⟩ := Xg22.privateBack hx (y := (⟨"com/example/evenkeel/evenkeel/FullCycles", "begin", "(J)V"⟩ : MethodName)) hown (mvT hZ (hw _ (List.mem_of_getElem? (i := 27) rfl))) (mvT hZ (hw _ (List.mem_of_getElem? (i := 28) rfl))) (mvT hZ (own_selPriv (hw _ (List.mem_of_getElem? (i := 29) rfl)) (hw _ (List.mem_of_getElem? (i := 28) rfl)) (hw _ (List.mem_of_getElem? (i := 21) rfl)) rfl (by decide))) (Cond.privateMethod_at (mvP hZ (hw _ (List.mem_of_getElem? (i := 29) rfl)) (args := #[]))) (mvT hZ (hw _ (List.mem_of_getElem? (i := 30) rfl))) (by decide) (backOf (W := 0) (own_rm5 l Z a0 hw [] r0 (w_p + (1 : Int64)) w_p (W_s) w_k w_b w_m w_t (W_h) h0 n0 Z0 E_r0 F_r0_picks F_r0_steady F_r0_taking F_r0_began F_r0_made F_r0_total F_r0_holding g_r0) hZ (hw _ (List.mem_of_getElem? (i := 30) rfl)) (hw _ (List.mem_of_getElem? (i := 4) rfl)) (by decide) (by decide)) (g := (mkF m 27 #[.val (.ref r0), .val (.int (own_b B1)), .val (.int (own_b B2)), .val (.long q3), .second, .val (.int p4)] [(.long (w_p + (1 : Int64))), (.ref r0)])) rfl (by rw [hml]; rfl) (Steps.refl _) (a := r0) (by rw [eg22]; exact qg27) qg27' (argsL := [(.long (w_p + (1 : Int64)))]) (rest := []) (lenOf own_pd0 rfl) rfl (by show 2 * 0 + _ ≤ _; exact Nat.le_of_eq rfl) (hb hby own_d4_27) (fun _ _ => ⟨rfl, eg22, (by decide : 0 + 0 ≤ _), (by decide : 0 + 0 ≤ _)⟩)
          dsimp only [Pt.U, Pt.locs, Pt.cells, Pt.slots] at Xg27 lg27 yg27 zg27 stg27 hQg27
          subst lg27 yg27 zg27
          obtain ⟨rfl, Ng27q, Kg27, F, F_1, F_2, F_3, F_4, F_5, F_6, F_7⟩ := hQg27
          have Zz : n0 ≤ Tg27.heap.size := Nat.le_trans Z0 Kg27.1
          have Kc := (Keep.refl h0 [r0]).trans Kg27 (allS (Or.inl (List.mem_of_getElem? (i := 0) rfl)) all0)
          obtain ⟨w27_began, hw27_began⟩ : ∃ z : Int64, z = (w_p + (1 : Int64)) := ⟨_, rfl⟩
          have F_8 : Fld Z Tg27.heap r0 "com/example/evenkeel/evenkeel/FullCycles" "began" "J" (.long w27_began) := by subst hw27_began; exact F_4
          have Ng27 := Fr.app N0 Ng27q
          refine own_st (fun _ k => stg27.trans k) ?_
          subst hw27_began
          exact ⟨_, ⟨Tg27, Tg27.heap, _, (own_b (W_s)), ((w_p + (1 : Int64))), (0 : Int64), (1 : Int32), rfl, Xg27, rfl, Ng27, Zz, Kc, F, F_1, F_2, F_3, F_8, F_5, F_6, F_7, ((rfl).trans ((own_b1 c4).trans (own_b1 c4).symm)), (Eq.trans (Eq.trans (if_neg c17).symm (if_pos c8).symm) (if_pos c4).symm), (Eq.trans (Eq.trans (if_neg c17).symm (if_pos c8).symm) (if_pos c4).symm), (own_b1 (Or.inr (Or.inr (Or.inl c17)))).symm⟩, fun _ k => k⟩
      · refine own_st (B := Tg1.setTop (mkF m 22 #[.val (.ref r0), .val (.int (own_b B1)), .val (.int (own_b B2)), .val (.long q3), .second, .val (.int p4)] [(.ref r0), (.ref r0)])) (fun target kt => ?_) ?_
        · show Steps p.tables e below (Tg1.setTop (mkF m 8 #[.val (.ref r0), .val (.int (own_b B1)), .val (.int (own_b B2)), .val (.long q3), .second, .val (.int p4)] [(.int (own_b B2))])) target
          refine XS.ifYes Xg1.here hx rfl (pc0 := 8) (pc' := 20) rfl (hb hby own_d4_8) rfl ((if0 _ _).trans (teq (own_b00 rfl c8)).1) (by decide) (by decide) ?_
          show Steps p.tables e below (Tg1.setTop (mkF m 20 #[.val (.ref r0), .val (.int (own_b B1)), .val (.int (own_b B2)), .val (.long q3), .second, .val (.int p4)] [])) target
          refine XS.aloadN Xg1.here hx rfl (hb hby own_d4_20) rfl rfl ?_
          show Steps p.tables e below (Tg1.setTop (mkF m 21 #[.val (.ref r0), .val (.int (own_b B1)), .val (.int (own_b B2)), .val (.long q3), .second, .val (.int p4)] [(.ref r0)])) target
          refine XS.aloadN Xg1.here hx rfl (hb hby own_d4_21) rfl rfl ?_
          exact kt
        obtain ⟨Tg22, Xg22, eg22, stg22⟩ := getF Xg1 hx hZ hown (host := "") (Or.inl (hw _ (List.mem_of_getElem? (i := 25) rfl))) Via.refl eg1 F_r0_picks (g := (mkF m 22 #[.val (.ref r0), .val (.int (own_b B1)), .val (.int (own_b B2)), .val (.long q3), .second, .val (.int p4)] [(.ref r0), (.ref r0)])) rfl rfl (hb hby own_d4_22)
        refine own_st stg22 ?_
        refine own_st (B := Tg22.setTop (mkF m 27 #[.val (.ref r0), .val (.int (own_b B1)), .val (.int (own_b B2)), .val (.long q3), .second, .val (.int p4)] [(.long (w_p + (1 : Int64))), (.ref r0)])) (fun target kt => ?_) ?_
        · show Steps p.tables e below (Tg22.setTop (mkF m 25 #[.val (.ref r0), .val (.int (own_b B1)), .val (.int (own_b B2)), .val (.long q3), .second, .val (.int p4)] [(.long w_p), (.ref r0)])) target
          refine XS.lconst Xg22.here hx rfl (hb hby own_d4_25) ?_
          show Steps p.tables e below (Tg22.setTop (mkF m 26 #[.val (.ref r0), .val (.int (own_b B1)), .val (.int (own_b B2)), .val (.long q3), .second, .val (.int p4)] [(.long (1 : Int64)), (.long w_p), (.ref r0)])) target
          refine XS.ladd Xg22.here hx rfl (hb hby own_d4_26) rfl ?_
          exact kt
        obtain ⟨cqg27, qg27, qg27'⟩ := E_r0.cell
        obtain ⟨_, _, ⟨Tg27, Lg27, kg27, ng27⟩, -, Xg27, ⟨Lcg27, hQg27, lg27, yg27, zg27⟩, stg27⟩ := Xg22.privateBack hx (y := (⟨"com/example/evenkeel/evenkeel/FullCycles", "begin", "(J)V"⟩ : MethodName)) hown (mvT hZ (hw _ (List.mem_of_getElem? (i := 27) rfl))) (mvT hZ (hw _ (List.mem_of_getElem? (i := 28) rfl))) (mvT hZ (own_selPriv (hw _ (List.mem_of_getElem? (i := 29) rfl)) (hw _ (List.mem_of_getElem? (i := 28) rfl)) (hw _ (List.mem_of_getElem? (i := 21) rfl)) rfl (by decide))) (Cond.privateMethod_at (mvP hZ (hw _ (List.mem_of_getElem? (i := 29) rfl)) (args := #[]))) (mvT hZ (hw _ (List.mem_of_getElem? (i := 30) rfl))) (by decide) (backOf (W := 0) (own_rm5 l Z a0 hw [] r0 (w_p + (1 : Int64)) w_p (W_s) w_k w_b w_m w_t (W_h) h0 n0 Z0 E_r0 F_r0_picks F_r0_steady F_r0_taking F_r0_began F_r0_made F_r0_total F_r0_holding g_r0) hZ (hw _ (List.mem_of_getElem? (i := 30) rfl)) (hw _ (List.mem_of_getElem? (i := 4) rfl)) (by decide) (by decide)) (g := (mkF m 27 #[.val (.ref r0), .val (.int (own_b B1)), .val (.int (own_b B2)), .val (.long q3), .second, .val (.int p4)] [(.long (w_p + (1 : Int64))), (.ref r0)])) rfl (by rw [hml]; rfl) (Steps.refl _) (a := r0) (by rw [eg22]; exact qg27) qg27' (argsL := [(.long (w_p + (1 : Int64)))]) (rest := []) (lenOf own_pd0 rfl) rfl (by show 2 * 0 + _ ≤ _; exact Nat.le_of_eq rfl) (hb hby own_d4_27) (fun _ _ => ⟨rfl, eg22, (by decide : 0 + 0 ≤ _), (by decide : 0 + 0 ≤ _)⟩)
        dsimp only [Pt.U, Pt.locs, Pt.cells, Pt.slots] at Xg27 lg27 yg27 zg27 stg27 hQg27
        subst lg27 yg27 zg27
        obtain ⟨rfl, Ng27q, Kg27, F, F_1, F_2, F_3, F_4, F_5, F_6, F_7⟩ := hQg27
        have Zz : n0 ≤ Tg27.heap.size := Nat.le_trans Z0 Kg27.1
        have Kc := (Keep.refl h0 [r0]).trans Kg27 (allS (Or.inl (List.mem_of_getElem? (i := 0) rfl)) all0)
        obtain ⟨w27_began, hw27_began⟩ : ∃ z : Int64, z = (w_p + (1 : Int64)) := ⟨_, rfl⟩
        have F_8 : Fld Z Tg27.heap r0 "com/example/evenkeel/evenkeel/FullCycles" "began" "J" (.long w27_began) := by subst hw27_began; exact F_4
        have Ng27 := Fr.app N0 Ng27q
        refine own_st (fun _ k => stg27.trans k) ?_
        subst hw27_began
        exact ⟨_, ⟨Tg27, Tg27.heap, _, (own_b (W_s)), ((w_p + (1 : Int64))), (0 : Int64), (1 : Int32), rfl, Xg27, rfl, Ng27, Zz, Kc, F, F_1, F_2, F_3, F_8, F_5, F_6, F_7, ((rfl).trans ((own_b1 c4).trans (own_b1 c4).symm)), (Eq.trans (if_neg c8).symm (if_pos c4).symm), (Eq.trans (if_neg c8).symm (if_pos c4).symm), (own_b1 (Or.inr (Or.inl c8))).symm⟩, fun _ k => k⟩
    · refine own_st (B := Tg1.setTop (mkF m 22 #[.val (.ref r0), .val (.int (own_b B1)), .val (.int (own_b B2)), .val (.long q3), .second, .val (.int p4)] [(.ref r0), (.ref r0)])) (fun target kt => ?_) ?_
      · show Steps p.tables e below (Tg1.setTop (mkF m 4 #[.val (.ref r0), .val (.int (own_b B1)), .val (.int (own_b B2)), .val (.long q3), .second, .val (.int p4)] [(.int (own_b W_s))])) target
        refine XS.ifYes Xg1.here hx rfl (pc0 := 4) (pc' := 20) rfl (hb hby own_d4_4) rfl ((if0 _ _).trans (teq (own_b00 rfl c4)).1) (by decide) (by decide) ?_
        show Steps p.tables e below (Tg1.setTop (mkF m 20 #[.val (.ref r0), .val (.int (own_b B1)), .val (.int (own_b B2)), .val (.long q3), .second, .val (.int p4)] [])) target
        refine XS.aloadN Xg1.here hx rfl (hb hby own_d4_20) rfl rfl ?_
        show Steps p.tables e below (Tg1.setTop (mkF m 21 #[.val (.ref r0), .val (.int (own_b B1)), .val (.int (own_b B2)), .val (.long q3), .second, .val (.int p4)] [(.ref r0)])) target
        refine XS.aloadN Xg1.here hx rfl (hb hby own_d4_21) rfl rfl ?_
        exact kt
      obtain ⟨Tg22, Xg22, eg22, stg22⟩ := getF Xg1 hx hZ hown (host := "") (Or.inl (hw _ (List.mem_of_getElem? (i := 25) rfl))) Via.refl eg1 F_r0_picks (g := (mkF m 22 #[.val (.ref r0), .val (.int (own_b B1)), .val (.int (own_b B2)), .val (.long q3), .second, .val (.int p4)] [(.ref r0), (.ref r0)])) rfl rfl (hb hby own_d4_22)
      refine own_st stg22 ?_
      refine own_st (B := Tg22.setTop (mkF m 27 #[.val (.ref r0), .val (.int (own_b B1)), .val (.int (own_b B2)), .val (.long q3), .second, .val (.int p4)] [(.long (w_p + (1 : Int64))), (.ref r0)])) (fun target kt => ?_) ?_
      · show Steps p.tables e below (Tg22.setTop (mkF m 25 #[.val (.ref r0), .val (.int (own_b B1)), .val (.int (own_b B2)), .val (.long q3), .second, .val (.int p4)] [(.long w_p), (.ref r0)])) target
        refine XS.lconst Xg22.here hx rfl (hb hby own_d4_25) ?_
        show Steps p.tables e below (Tg22.setTop (mkF m 26 #[.val (.ref r0), .val (.int (own_b B1)), .val (.int (own_b B2)), .val (.long q3), .second, .val (.int p4)] [(.long (1 : Int64)), (.long w_p), (.ref r0)])) target
        refine XS.ladd Xg22.here hx rfl (hb hby own_d4_26) rfl ?_
        exact kt
      obtain ⟨cqg27, qg27, qg27'⟩ := E_r0.cell
      obtain ⟨_, _, ⟨Tg27, Lg27, kg27, ng27⟩, -, Xg27, ⟨Lcg27, hQg27, lg27, yg27, zg27⟩, stg27⟩ := Xg22.privateBack hx (y := (⟨"com/example/evenkeel/evenkeel/FullCycles", "begin", "(J)V"⟩ : MethodName)) hown (mvT hZ (hw _ (List.mem_of_getElem? (i := 27) rfl))) (mvT hZ (hw _ (List.mem_of_getElem? (i := 28) rfl))) (mvT hZ (own_selPriv (hw _ (List.mem_of_getElem? (i := 29) rfl)) (hw _ (List.mem_of_getElem? (i := 28) rfl)) (hw _ (List.mem_of_getElem? (i := 21) rfl)) rfl (by decide))) (Cond.privateMethod_at (mvP hZ (hw _ (List.mem_of_getElem? (i := 29) rfl)) (args := #[]))) (mvT hZ (hw _ (List.mem_of_getElem? (i := 30) rfl))) (by decide) (backOf (W := 0) (own_rm5 l Z a0 hw [] r0 (w_p + (1 : Int64)) w_p (W_s) w_k w_b w_m w_t (W_h) h0 n0 Z0 E_r0 F_r0_picks F_r0_steady F_r0_taking F_r0_began F_r0_made F_r0_total F_r0_holding g_r0) hZ (hw _ (List.mem_of_getElem? (i := 30) rfl)) (hw _ (List.mem_of_getElem? (i := 4) rfl)) (by decide) (by decide)) (g := (mkF m 27 #[.val (.ref r0), .val (.int (own_b B1)), .val (.int (own_b B2)), .val (.long q3), .second, .val (.int p4)] [(.long (w_p + (1 : Int64))), (.ref r0)])) rfl (by rw [hml]; rfl) (Steps.refl _) (a := r0) (by rw [eg22]; exact qg27) qg27' (argsL := [(.long (w_p + (1 : Int64)))]) (rest := []) (lenOf own_pd0 rfl) rfl (by show 2 * 0 + _ ≤ _; exact Nat.le_of_eq rfl) (hb hby own_d4_27) (fun _ _ => ⟨rfl, eg22, (by decide : 0 + 0 ≤ _), (by decide : 0 + 0 ≤ _)⟩)
      dsimp only [Pt.U, Pt.locs, Pt.cells, Pt.slots] at Xg27 lg27 yg27 zg27 stg27 hQg27
      subst lg27 yg27 zg27
      obtain ⟨rfl, Ng27q, Kg27, F, F_1, F_2, F_3, F_4, F_5, F_6, F_7⟩ := hQg27
      have Zz : n0 ≤ Tg27.heap.size := Nat.le_trans Z0 Kg27.1
      have Kc := (Keep.refl h0 [r0]).trans Kg27 (allS (Or.inl (List.mem_of_getElem? (i := 0) rfl)) all0)
      obtain ⟨w27_began, hw27_began⟩ : ∃ z : Int64, z = (w_p + (1 : Int64)) := ⟨_, rfl⟩
      have F_8 : Fld Z Tg27.heap r0 "com/example/evenkeel/evenkeel/FullCycles" "began" "J" (.long w27_began) := by subst hw27_began; exact F_4
      have Ng27 := Fr.app N0 Ng27q
      refine own_st (fun _ k => stg27.trans k) ?_
      subst hw27_began
      exact ⟨_, ⟨Tg27, Tg27.heap, _, (own_b (W_s)), ((w_p + (1 : Int64))), (0 : Int64), (1 : Int32), rfl, Xg27, rfl, Ng27, Zz, Kc, F, F_1, F_2, F_3, F_8, F_5, F_6, F_7, ((rfl).trans ((own_b0 c4).trans (own_b0 c4).symm)), (if_neg c4).symm, (if_neg c4).symm, (own_b1 (Or.inl c4)).symm⟩, fun _ k => k⟩
  refine own_st st_M30 ?_
  refine own_st (B := T_M30.setTop (mkF m 32 #[.val (.ref r0), .val (.int (own_b B1)), .val (.int (own_b B2)), .val (.long q3), .second, .val (.int p4)] [(.int (own_b B1)), (.ref r0)])) (fun target kt => ?_) ?_
  · show Steps p.tables e below (T_M30.setTop (mkF m 30 #[.val (.ref r0), .val (.int (own_b B1)), .val (.int (own_b B2)), .val (.long q3), .second, .val (.int p4)] [])) target
    refine XS.aloadN X_M30.here hx rfl (hb hby own_d4_30) rfl rfl ?_
    show Steps p.tables e below (T_M30.setTop (mkF m 31 #[.val (.ref r0), .val (.int (own_b B1)), .val (.int (own_b B2)), .val (.long q3), .second, .val (.int p4)] [(.ref r0)])) target
    refine XS.iloadN X_M30.here hx rfl (hb hby own_d4_31) rfl ?_
    exact kt
  obtain ⟨Tg32, hg32, Xg32, eg32, Wg32, stg32⟩ := putFN X_M30 hx hZ hown (hw _ (List.mem_of_getElem? (i := 23) rfl)) Via.refl e_M30 F_11 F_9 (Or.inl (hw _ (List.mem_of_getElem? (i := 24) rfl))) (hw _ (List.mem_of_getElem? (i := 3) rfl)) (ty := .boolean) (v' := (.int (own_b B1))) (by decide) (own_bnarw rfl) (own_bfits (own_bnarw rfl)) (g := (mkF m 32 #[.val (.ref r0), .val (.int (own_b B1)), .val (.int (own_b B2)), .val (.long q3), .second, .val (.int p4)] [(.int (own_b B1)), (.ref r0)])) rfl rfl (hb hby own_d4_32)
  refine own_st stg32 ?_
  have Ng32 := Fr.snoc Xg32 N_M30 g_r0
  have F_17 := F_9.wr Wg32
  have F_18 := F_10.other Wg32 (Or.inr (slot_ne (Or.inl (hw _ (List.mem_of_getElem? (i := 26) rfl))) (Or.inl (hw _ (List.mem_of_getElem? (i := 24) rfl))) (by decide) (t := .long) (t' := .boolean) (by decide) (by decide)))
  have F_19 := F_11.same Wg32
  have F_20 := F_12.other Wg32 (Or.inr (slot_ne (Or.inl (hw _ (List.mem_of_getElem? (i := 40) rfl))) (Or.inl (hw _ (List.mem_of_getElem? (i := 24) rfl))) (by decide) (t := .int) (t' := .boolean) (by decide) (by decide)))
  have F_21 := F_13.other Wg32 (Or.inr (slot_ne (Or.inl (hw _ (List.mem_of_getElem? (i := 32) rfl))) (Or.inl (hw _ (List.mem_of_getElem? (i := 24) rfl))) (by decide) (t := .long) (t' := .boolean) (by decide) (by decide)))
  have F_22 := F_14.other Wg32 (Or.inr (slot_ne (Or.inl (hw _ (List.mem_of_getElem? (i := 34) rfl))) (Or.inl (hw _ (List.mem_of_getElem? (i := 24) rfl))) (by decide) (t := .long) (t' := .boolean) (by decide) (by decide)))
  have F_23 := F_15.other Wg32 (Or.inr (slot_ne (Or.inl (hw _ (List.mem_of_getElem? (i := 38) rfl))) (Or.inl (hw _ (List.mem_of_getElem? (i := 24) rfl))) (by decide) (t := .long) (t' := .boolean) (by decide) (by decide)))
  have F_24 := F_16.other Wg32 (Or.inr (slot_ne (Or.inl (hw _ (List.mem_of_getElem? (i := 36) rfl))) (Or.inl (hw _ (List.mem_of_getElem? (i := 24) rfl))) (by decide) (t := .boolean) (t' := .boolean) (by decide) (by decide)))
  have Zz_1 : n0 ≤ hg32.size := Nat.le_trans Z_M30 (Keep.of_wr Wg32).1
  have Kc_1 := K_M30.wr Wg32 (Or.inl (List.mem_of_getElem? (i := 0) rfl))
  refine own_st (B := Tg32.setTop (mkF m 37 #[.val (.ref r0), .val (.int (own_b B1)), .val (.int (own_b B2)), .val (.long q3), .second, .val (.int p4)] [(.long q3), (.ref r0)])) (fun target kt => ?_) ?_
  · show Steps p.tables e below (Tg32.setTop (mkF m 35 #[.val (.ref r0), .val (.int (own_b B1)), .val (.int (own_b B2)), .val (.long q3), .second, .val (.int p4)] [])) target
    refine XS.aloadN Xg32.here hx rfl (hb hby own_d4_35) rfl rfl ?_
    show Steps p.tables e below (Tg32.setTop (mkF m 36 #[.val (.ref r0), .val (.int (own_b B1)), .val (.int (own_b B2)), .val (.long q3), .second, .val (.int p4)] [(.ref r0)])) target
    refine XS.lloadN Xg32.here hx rfl (hb hby own_d4_36) rfl ?_
    exact kt
  obtain ⟨Tg37, hg37, Xg37, eg37, Wg37, stg37⟩ := putF Xg32 hx hZ hown (host := "") (Or.inl (hw _ (List.mem_of_getElem? (i := 37) rfl))) Via.refl eg32 F_23 F_17 (Or.inl (hw _ (List.mem_of_getElem? (i := 38) rfl))) (hw _ (List.mem_of_getElem? (i := 3) rfl)) (ty := .long) (by decide) rfl rfl (g := (mkF m 37 #[.val (.ref r0), .val (.int (own_b B1)), .val (.int (own_b B2)), .val (.long q3), .second, .val (.int p4)] [(.long q3), (.ref r0)])) rfl rfl (hb hby own_d4_37)
  refine own_st stg37 ?_
  have Ng37 := Fr.snoc Xg37 Ng32 g_r0
  have F_25 := F_17.wr Wg37
  have F_26 := F_18.other Wg37 (Or.inr (slot_ne (Or.inl (hw _ (List.mem_of_getElem? (i := 26) rfl))) (Or.inl (hw _ (List.mem_of_getElem? (i := 38) rfl))) (by decide) (t := .long) (t' := .long) (by decide) (by decide)))
  have F_27 := F_19.other Wg37 (Or.inr (slot_ne (Or.inl (hw _ (List.mem_of_getElem? (i := 24) rfl))) (Or.inl (hw _ (List.mem_of_getElem? (i := 38) rfl))) (by decide) (t := .boolean) (t' := .long) (by decide) (by decide)))
  have F_28 := F_20.other Wg37 (Or.inr (slot_ne (Or.inl (hw _ (List.mem_of_getElem? (i := 40) rfl))) (Or.inl (hw _ (List.mem_of_getElem? (i := 38) rfl))) (by decide) (t := .int) (t' := .long) (by decide) (by decide)))
  have F_29 := F_21.other Wg37 (Or.inr (slot_ne (Or.inl (hw _ (List.mem_of_getElem? (i := 32) rfl))) (Or.inl (hw _ (List.mem_of_getElem? (i := 38) rfl))) (by decide) (t := .long) (t' := .long) (by decide) (by decide)))
  have F_30 := F_22.other Wg37 (Or.inr (slot_ne (Or.inl (hw _ (List.mem_of_getElem? (i := 34) rfl))) (Or.inl (hw _ (List.mem_of_getElem? (i := 38) rfl))) (by decide) (t := .long) (t' := .long) (by decide) (by decide)))
  have F_31 := F_23.same Wg37
  have F_32 := F_24.other Wg37 (Or.inr (slot_ne (Or.inl (hw _ (List.mem_of_getElem? (i := 36) rfl))) (Or.inl (hw _ (List.mem_of_getElem? (i := 38) rfl))) (by decide) (t := .boolean) (t' := .long) (by decide) (by decide)))
  have Zz_2 : n0 ≤ hg37.size := Nat.le_trans Zz_1 (Keep.of_wr Wg37).1
  have Kc_2 := Kc_1.wr Wg37 (Or.inl (List.mem_of_getElem? (i := 0) rfl))
  refine own_st (B := Tg37.setTop (mkF m 43 #[.val (.ref r0), .val (.int (own_b B1)), .val (.int (own_b B2)), .val (.long q3), .second, .val (.int p4)] [(.int p4), (.ref r0)])) (fun target kt => ?_) ?_
  · show Steps p.tables e below (Tg37.setTop (mkF m 40 #[.val (.ref r0), .val (.int (own_b B1)), .val (.int (own_b B2)), .val (.long q3), .second, .val (.int p4)] [])) target
    refine XS.aloadN Xg37.here hx rfl (hb hby own_d4_40) rfl rfl ?_
    show Steps p.tables e below (Tg37.setTop (mkF m 41 #[.val (.ref r0), .val (.int (own_b B1)), .val (.int (own_b B2)), .val (.long q3), .second, .val (.int p4)] [(.ref r0)])) target
    refine XS.iload Xg37.here hx rfl (hb hby own_d4_41) rfl ?_
    exact kt
  obtain ⟨Tg43, hg43, Xg43, eg43, Wg43, stg43⟩ := putF Xg37 hx hZ hown (host := "") (Or.inl (hw _ (List.mem_of_getElem? (i := 39) rfl))) Via.refl eg37 F_28 F_25 (Or.inl (hw _ (List.mem_of_getElem? (i := 40) rfl))) (hw _ (List.mem_of_getElem? (i := 3) rfl)) (ty := .int) (by decide) rfl rfl (g := (mkF m 43 #[.val (.ref r0), .val (.int (own_b B1)), .val (.int (own_b B2)), .val (.long q3), .second, .val (.int p4)] [(.int p4), (.ref r0)])) rfl rfl (hb hby own_d4_43)
  refine own_st stg43 ?_
  have Ng43 := Fr.snoc Xg43 Ng37 g_r0
  have F_33 := F_25.wr Wg43
  have F_34 := F_26.other Wg43 (Or.inr (slot_ne (Or.inl (hw _ (List.mem_of_getElem? (i := 26) rfl))) (Or.inl (hw _ (List.mem_of_getElem? (i := 40) rfl))) (by decide) (t := .long) (t' := .int) (by decide) (by decide)))
  have F_35 := F_27.other Wg43 (Or.inr (slot_ne (Or.inl (hw _ (List.mem_of_getElem? (i := 24) rfl))) (Or.inl (hw _ (List.mem_of_getElem? (i := 40) rfl))) (by decide) (t := .boolean) (t' := .int) (by decide) (by decide)))
  have F_36 := F_28.same Wg43
  have F_37 := F_29.other Wg43 (Or.inr (slot_ne (Or.inl (hw _ (List.mem_of_getElem? (i := 32) rfl))) (Or.inl (hw _ (List.mem_of_getElem? (i := 40) rfl))) (by decide) (t := .long) (t' := .int) (by decide) (by decide)))
  have F_38 := F_30.other Wg43 (Or.inr (slot_ne (Or.inl (hw _ (List.mem_of_getElem? (i := 34) rfl))) (Or.inl (hw _ (List.mem_of_getElem? (i := 40) rfl))) (by decide) (t := .long) (t' := .int) (by decide) (by decide)))
  have F_39 := F_31.other Wg43 (Or.inr (slot_ne (Or.inl (hw _ (List.mem_of_getElem? (i := 38) rfl))) (Or.inl (hw _ (List.mem_of_getElem? (i := 40) rfl))) (by decide) (t := .long) (t' := .int) (by decide) (by decide)))
  have F_40 := F_32.other Wg43 (Or.inr (slot_ne (Or.inl (hw _ (List.mem_of_getElem? (i := 36) rfl))) (Or.inl (hw _ (List.mem_of_getElem? (i := 40) rfl))) (by decide) (t := .boolean) (t' := .int) (by decide) (by decide)))
  have Zz_3 : n0 ≤ hg43.size := Nat.le_trans Zz_2 (Keep.of_wr Wg43).1
  have Kc_3 := Kc_2.wr Wg43 (Or.inl (List.mem_of_getElem? (i := 0) rfl))
  refine own_st (B := Tg43.setTop (mkF m 47 #[.val (.ref r0), .val (.int (own_b B1)), .val (.int (own_b B2)), .val (.long q3), .second, .val (.int p4)] [(.ref r0)])) (fun target kt => ?_) ?_
  · show Steps p.tables e below (Tg43.setTop (mkF m 46 #[.val (.ref r0), .val (.int (own_b B1)), .val (.int (own_b B2)), .val (.long q3), .second, .val (.int p4)] [])) target
    refine XS.aloadN Xg43.here hx rfl (hb hby own_d4_46) rfl rfl ?_
    exact kt
  obtain ⟨Tg47, Xg47, eg47, stg47⟩ := getF Xg43 hx hZ hown (host := "") (Or.inl (hw _ (List.mem_of_getElem? (i := 35) rfl))) Via.refl eg43 F_40 (g := (mkF m 47 #[.val (.ref r0), .val (.int (own_b B1)), .val (.int (own_b B2)), .val (.long q3), .second, .val (.int p4)] [(.ref r0)])) rfl rfl (hb hby own_d4_47)
  refine own_st stg47 ?_
  obtain ⟨fs, hr, hrun, hended, hW, hsame⟩ := Xg47.leave (v := some (.int (nar .boolean (own_b (¬ (W_s) ∨ ((¬ (B2) ∨ ((¬ (p4 = w_k) ∨ (W_h)))))))))) (fun h => by rw [Bd.returns] at h; cases h)
  have hend : Steps p.tables e below (Tg47.setTop (mkF m 50 #[.val (.ref r0), .val (.int (own_b B1)), .val (.int (own_b B2)), .val (.long q3), .second, .val (.int p4)] [(.int (own_b (¬ (W_s) ∨ ((¬ (B2) ∨ ((¬ (p4 = w_k) ∨ (W_h))))))))])) (Tg47.setFrames fs) := by
    exact retN Xg47 hx (t := .boolean) Bd.returns (by simp) (hb hby own_d4_50) hr
  refine own_fin hend ⟨_, hrun, hended, _, _, rfl, ?_, ⟨_, rfl⟩, hW, hsame.mono (by decide) (by decide)⟩
  show own_Q4 Z r0 B1 B2 q3 p4 w_p W_s w_k w_b w_m w_t W_h h0 n0 _ Tg47.heap _
  rw [eg47]
  subst hj30_f_r0_began hj30_f_r0_made
  exact ⟨(congrArg (fun z => some (Value.int z)) ((own_nar rfl).trans (own_bi ⟨fun w => w, fun w => w⟩))), Ng43, Kc_3, F_33, F_34, F_35, F_36, F_37, F_38, F_39, F_40⟩
theorem own_d6_0 : decode prog_34_method_10_code 0 = .ok (.aload_n 0, 1) := by decide +kernel
theorem own_d6_1 : decode prog_34_method_10_code 1 = .ok (.dup, 1) := by decide +kernel
theorem own_d6_2 : decode prog_34_method_10_code 2 = .ok (.getfield 13, 3) := by decide +kernel
theorem own_d6_5 : decode prog_34_method_10_code 5 = .ok (.lload_n 1, 1) := by decide +kernel
theorem own_d6_6 : decode prog_34_method_10_code 6 = .ok (.ladd, 1) := by decide +kernel
theorem own_d6_7 : decode prog_34_method_10_code 7 = .ok (.putfield 13, 3) := by decide +kernel
theorem own_d6_10 : decode prog_34_method_10_code 10 = .ok (.aload_n 0, 1) := by decide +kernel
theorem own_d6_11 : decode prog_34_method_10_code 11 = .ok (.dup, 1) := by decide +kernel
theorem own_d6_12 : decode prog_34_method_10_code 12 = .ok (.getfield 42, 3) := by decide +kernel
theorem own_d6_15 : decode prog_34_method_10_code 15 = .ok (.lload_n 1, 1) := by decide +kernel
theorem own_d6_16 : decode prog_34_method_10_code 16 = .ok (.ladd, 1) := by decide +kernel
theorem own_d6_17 : decode prog_34_method_10_code 17 = .ok (.putfield 42, 3) := by decide +kernel
theorem own_d6_20 : decode prog_34_method_10_code 20 = .ok (.aload_n 0, 1) := by decide +kernel
theorem own_d6_21 : decode prog_34_method_10_code 21 = .ok (.getfield 42, 3) := by decide +kernel
theorem own_d6_24 : decode prog_34_method_10_code 24 = .ok (.aload_n 0, 1) := by decide +kernel
theorem own_d6_25 : decode prog_34_method_10_code 25 = .ok (.getfield 33, 3) := by decide +kernel
theorem own_d6_28 : decode prog_34_method_10_code 28 = .ok (.lcmp, 1) := by decide +kernel
theorem own_d6_29 : decode prog_34_method_10_code 29 = .ok (.ifCond .lt 36, 3) := by decide +kernel
theorem own_d6_32 : decode prog_34_method_10_code 32 = .ok (.aload_n 0, 1) := by decide +kernel
theorem own_d6_33 : decode prog_34_method_10_code 33 = .ok (.dup, 1) := by decide +kernel
theorem own_d6_34 : decode prog_34_method_10_code 34 = .ok (.getfield 42, 3) := by decide +kernel
theorem own_d6_37 : decode prog_34_method_10_code 37 = .ok (.aload_n 0, 1) := by decide +kernel
theorem own_d6_38 : decode prog_34_method_10_code 38 = .ok (.getfield 33, 3) := by decide +kernel
theorem own_d6_41 : decode prog_34_method_10_code 41 = .ok (.lsub, 1) := by decide +kernel
theorem own_d6_42 : decode prog_34_method_10_code 42 = .ok (.putfield 42, 3) := by decide +kernel
theorem own_d6_45 : decode prog_34_method_10_code 45 = .ok (.aload_n 0, 1) := by decide +kernel
theorem own_d6_46 : decode prog_34_method_10_code 46 = .ok (.aload_n 0, 1) := by decide +kernel
theorem own_d6_47 : decode prog_34_method_10_code 47 = .ok (.getfield 13, 3) := by decide +kernel
theorem own_d6_50 : decode prog_34_method_10_code 50 = .ok (.aload_n 0, 1) := by decide +kernel
theorem own_d6_51 : decode prog_34_method_10_code 51 = .ok (.getfield 42, 3) := by decide +kernel
theorem own_d6_54 : decode prog_34_method_10_code 54 = .ok (.lsub, 1) := by decide +kernel
theorem own_d6_55 : decode prog_34_method_10_code 55 = .ok (.lconst 1, 1) := by decide +kernel
theorem own_d6_56 : decode prog_34_method_10_code 56 = .ok (.ladd, 1) := by decide +kernel
theorem own_d6_57 : decode prog_34_method_10_code 57 = .ok (.putfield 39, 3) := by decide +kernel
theorem own_d6_60 : decode prog_34_method_10_code 60 = .ok (.aload_n 0, 1) := by decide +kernel
theorem own_d6_61 : decode prog_34_method_10_code 61 = .ok (.iconst 1, 1) := by decide +kernel
theorem own_d6_62 : decode prog_34_method_10_code 62 = .ok (.putfield 36, 3) := by decide +kernel
theorem own_d6_65 : decode prog_34_method_10_code 65 = .ok (.return_, 1) := by decide +kernel
theorem own_ef6 (m : MethodId) (r0 : Addr) (q1 : Int64) : entryFrame m #[(.ref r0), (.long q1)] 3 = mkF m 0 #[.val (.ref r0), .val (.long q1), .second] [] := by first | (simp [entryFrame, mkF, argsToLocals, Value.category]; done) | rfl
def own_Q6 (Z : State) (r0 : Addr) (q1 : Int64) (w_p : Int64) (W_s : Prop) [Decidable W_s] (w_k : Int32) (w_b : Int64) (w_m : Int64) (w_t : Int64) (W_h : Prop) [Decidable W_h] (h0 : Heap) (n0 : Nat) (v : Option Value) (h : Heap) (L : List Loc) : Prop := (v = none) ∧ (Fr n0 L) ∧ (Keep h0 h [r0]) ∧ (Exa Z h r0 "com/example/evenkeel/evenkeel/FullCycles") ∧ (Fld Z h r0 "com/example/evenkeel/evenkeel/FullCycles" "picks" "J" (.long ((w_p + q1)))) ∧ (Fld Z h r0 "com/example/evenkeel/evenkeel/FullCycles" "steady" "Z" (.int (own_b W_s))) ∧ (Fld Z h r0 "com/example/evenkeel/evenkeel/FullCycles" "taking" "I" (.int w_k)) ∧ (Fld Z h r0 "com/example/evenkeel/evenkeel/FullCycles" "began" "J" (.long ((if ((w_m + q1)) < w_t then w_b else (((((w_p + q1)) - ((((w_m + q1)) - w_t))) + (1 : Int64))))))) ∧ (Fld Z h r0 "com/example/evenkeel/evenkeel/FullCycles" "made" "J" (.long ((if ((w_m + q1)) < w_t then ((w_m + q1)) else ((((w_m + q1)) - w_t)))))) ∧ (Fld Z h r0 "com/example/evenkeel/evenkeel/FullCycles" "total" "J" (.long w_t)) ∧ (Fld Z h r0 "com/example/evenkeel/evenkeel/FullCycles" "holding" "Z" (.int (own_b (¬ (((w_m + q1)) < w_t) ∨ (W_h)))))
set_option maxRecDepth 65536 in
set_option maxHeartbeats 40000000 in
theorem own_rm6 (l : Launch) (Z : State) (a0 : Array Value) (hw : ∀ d ∈ tables_1, d.before a0 Z = true) (ws : List Jvm.Cond) (r0 : Addr) (q1 : Int64) (w_p : Int64) (W_s : Prop) [Decidable W_s] (w_k : Int32) (w_b : Int64) (w_m : Int64) (w_t : Int64) (W_h : Prop) [Decidable W_h] (h0 : Heap) (n0 : Nat) (Z0 : n0 ≤ h0.size) (E_r0 : Exa Z h0 r0 "com/example/evenkeel/evenkeel/FullCycles") (F_r0_picks : Fld Z h0 r0 "com/example/evenkeel/evenkeel/FullCycles" "picks" "J" (.long w_p)) (F_r0_steady : Fld Z h0 r0 "com/example/evenkeel/evenkeel/FullCycles" "steady" "Z" (.int (own_b W_s))) (F_r0_taking : Fld Z h0 r0 "com/example/evenkeel/evenkeel/FullCycles" "taking" "I" (.int w_k)) (F_r0_began : Fld Z h0 r0 "com/example/evenkeel/evenkeel/FullCycles" "began" "J" (.long w_b)) (F_r0_made : Fld Z h0 r0 "com/example/evenkeel/evenkeel/FullCycles" "made" "J" (.long w_m)) (F_r0_total : Fld Z h0 r0 "com/example/evenkeel/evenkeel/FullCycles" "total" "J" (.long w_t)) (F_r0_holding : Fld Z h0 r0 "com/example/evenkeel/evenkeel/FullCycles" "holding" "Z" (.int (own_b W_h))) (g_r0 : n0 ≤ r0) :
    MetFree l (⟨"com/example/evenkeel/evenkeel/FullCycles", "skip", "(J)V"⟩ : MethodName) (head1 (Jvm.Cond.code (⟨"com/example/evenkeel/evenkeel/FullCycles", "skip", "(J)V"⟩ : MethodName) prog_34_method_10_code 3 none :: ws) ({ frames := 0, cells := 0, slots := 0, locals := 0 } : Room)) (fun a U => a = #[(.ref r0), (.long q1)] ∧ Z.Warmed39 U.vm ∧ U.heap = h0) (fun _ _ _ _ _ => True) (fun _ U o U' => ∃ v L, o = .returned v ∧ own_Q6 Z r0 q1 w_p W_s w_k w_b w_m w_t W_h h0 n0 v U'.heap L ∧ FrameEnd U o U' L ({ frames := 0, cells := 0, slots := 0, locals := 0 } : Room).cells ({ frames := 0, cells := 0, slots := 0, locals := 0 } : Room).slots) := by
  refine MetFree.of_bodySF (plainFor_of_name own_pn0) hisR ?_
  intro p e s m args below meth c s₁ Bd hml0 hP hK
  obtain ⟨rfl, hZ, hh⟩ := hP
  have hx := Bd.exec
  have hby := Bd.bytes
  have hml : c.maxLocals = 3 := hml0
  have hown : s.vm.findClass "com/example/evenkeel/evenkeel/FullCycles" = some m.cls := findClass_of_methodNamed Bd.named
  have hnm := (name_of_methodNamed Bd.named Bd.method).1
  have X0 : Stand p l e ({ frames := 0, cells := 0, slots := 0, locals := 0 } : Room) s m #[(.ref r0), (.long q1)] below meth c s₁ [] 0 0 := Stand.of_body Bd
  have e0 : s₁.heap = h0 := by rw [← hh, Bd.state]; rfl
  have N0 := Fr.nil n0
  have pre0 : ∀ t, Steps p.tables e below (s₁.setTop (mkF m 0 #[.val (.ref r0), .val (.long q1), .second] [])) t → Steps p.tables e below (s₁.setTop (entryFrame m #[(.ref r0), (.long q1)] 3)) t := fun t k => castTop (own_ef6 m r0 q1) k
  refine own_run (own_st pre0 ?_)
  refine own_st (B := s₁.setTop (mkF m 2 #[.val (.ref r0), .val (.long q1), .second] [(.ref r0), (.ref r0)])) (fun target kt => ?_) ?_
  · show Steps p.tables e below (s₁.setTop (mkF m 0 #[.val (.ref r0), .val (.long q1), .second] [])) target
    refine XS.aloadN X0.here hx rfl (hb hby own_d6_0) rfl rfl ?_
    show Steps p.tables e below (s₁.setTop (mkF m 1 #[.val (.ref r0), .val (.long q1), .second] [(.ref r0)])) target
    refine XS.dup X0.here hx rfl (hb hby own_d6_1) rfl rfl ?_
    exact kt
  obtain ⟨Tg2, Xg2, eg2, stg2⟩ := getF X0 hx hZ hown (host := "") (Or.inl (hw _ (List.mem_of_getElem? (i := 25) rfl))) Via.refl e0 F_r0_picks (g := (mkF m 2 #[.val (.ref r0), .val (.long q1), .second] [(.ref r0), (.ref r0)])) rfl rfl (hb hby own_d6_2)
  refine own_st stg2 ?_
  refine own_st (B := Tg2.setTop (mkF m 7 #[.val (.ref r0), .val (.long q1), .second] [(.long (w_p + q1)), (.ref r0)])) (fun target kt => ?_) ?_
  · show Steps p.tables e below (Tg2.setTop (mkF m 5 #[.val (.ref r0), .val (.long q1), .second] [(.long w_p), (.ref r0)])) target
    refine XS.lloadN Xg2.here hx rfl (hb hby own_d6_5) rfl ?_
    show Steps p.tables e below (Tg2.setTop (mkF m 6 #[.val (.ref r0), .val (.long q1), .second] [(.long q1), (.long w_p), (.ref r0)])) target
    refine XS.ladd Xg2.here hx rfl (hb hby own_d6_6) rfl ?_
    exact kt
  obtain ⟨Tg7, hg7, Xg7, eg7, Wg7, stg7⟩ := putF Xg2 hx hZ hown (host := "") (Or.inl (hw _ (List.mem_of_getElem? (i := 25) rfl))) Via.refl eg2 F_r0_picks E_r0 (Or.inl (hw _ (List.mem_of_getElem? (i := 26) rfl))) (hw _ (List.mem_of_getElem? (i := 3) rfl)) (ty := .long) (by decide) rfl rfl (g := (mkF m 7 #[.val (.ref r0), .val (.long q1), .second] [(.long (w_p + q1)), (.ref r0)])) rfl rfl (hb hby own_d6_7)
  refine own_st stg7 ?_
  have Ng7 := Fr.snoc Xg7 N0 g_r0
  have F := E_r0.wr Wg7
  have F_1 := F_r0_picks.same Wg7
  have F_2 := F_r0_steady.other Wg7 (Or.inr (slot_ne (Or.inl (hw _ (List.mem_of_getElem? (i := 24) rfl))) (Or.inl (hw _ (List.mem_of_getElem? (i := 26) rfl))) (by decide) (t := .boolean) (t' := .long) (by decide) (by decide)))
  have F_3 := F_r0_taking.other Wg7 (Or.inr (slot_ne (Or.inl (hw _ (List.mem_of_getElem? (i := 40) rfl))) (Or.inl (hw _ (List.mem_of_getElem? (i := 26) rfl))) (by decide) (t := .int) (t' := .long) (by decide) (by decide)))
  have F_4 := F_r0_began.other Wg7 (Or.inr (slot_ne (Or.inl (hw _ (List.mem_of_getElem? (i := 32) rfl))) (Or.inl (hw _ (List.mem_of_getElem? (i := 26) rfl))) (by decide) (t := .long) (t' := .long) (by decide) (by decide)))
  have F_5 := F_r0_made.other Wg7 (Or.inr (slot_ne (Or.inl (hw _ (List.mem_of_getElem? (i := 34) rfl))) (Or.inl (hw _ (List.mem_of_getElem? (i := 26) rfl))) (by decide) (t := .long) (t' := .long) (by decide) (by decide)))
  have F_6 := F_r0_total.other Wg7 (Or.inr (slot_ne (Or.inl (hw _ (List.mem_of_getElem? (i := 38) rfl))) (Or.inl (hw _ (List.mem_of_getElem? (i := 26) rfl))) (by decide) (t := .long) (t' := .long) (by decide) (by decide)))
  have F_7 := F_r0_holding.other Wg7 (Or.inr (slot_ne (Or.inl (hw _ (List.mem_of_getElem? (i := 36) rfl))) (Or.inl (hw _ (List.mem_of_getElem? (i := 26) rfl))) (by decide) (t := .boolean) (t' := .long) (by decide) (by decide)))
  have Zz : n0 ≤ hg7.size := Nat.le_trans Z0 (Keep.of_wr Wg7).1
  have Kc := (Keep.refl h0 [r0]).wr Wg7 (Or.inl (List.mem_of_getElem? (i := 0) rfl))
  obtain ⟨v7, hv7⟩ : ∃ z : Int64, z = (w_p + q1) := ⟨_, rfl⟩
  have F_8 : Fld Z hg7 r0 "com/example/evenkeel/evenkeel/FullCycles" "picks" "J" (.long v7) := by subst hv7; exact F_1
  refine own_st (B := Tg7.setTop (mkF m 12 #[.val (.ref r0), .val (.long q1), .second] [(.ref r0), (.ref r0)])) (fun target kt => ?_) ?_
  · show Steps p.tables e below (Tg7.setTop (mkF m 10 #[.val (.ref r0), .val (.long q1), .second] [])) target
    refine XS.aloadN Xg7.here hx rfl (hb hby own_d6_10) rfl rfl ?_
    show Steps p.tables e below (Tg7.setTop (mkF m 11 #[.val (.ref r0), .val (.long q1), .second] [(.ref r0)])) target
    refine XS.dup Xg7.here hx rfl (hb hby own_d6_11) rfl rfl ?_
    exact kt
  obtain ⟨Tg12, Xg12, eg12, stg12⟩ := getF Xg7 hx hZ hown (host := "") (Or.inl (hw _ (List.mem_of_getElem? (i := 33) rfl))) Via.refl eg7 F_5 (g := (mkF m 12 #[.val (.ref r0), .val (.long q1), .second] [(.ref r0), (.ref r0)])) rfl rfl (hb hby own_d6_12)
  refine own_st stg12 ?_
  refine own_st (B := Tg12.setTop (mkF m 17 #[.val (.ref r0), .val (.long q1), .second] [(.long (w_m + q1)), (.ref r0)])) (fun target kt => ?_) ?_
  · show Steps p.tables e below (Tg12.setTop (mkF m 15 #[.val (.ref r0), .val (.long q1), .second] [(.long w_m), (.ref r0)])) target
    refine XS.lloadN Xg12.here hx rfl (hb hby own_d6_15) rfl ?_
    show Steps p.tables e below (Tg12.setTop (mkF m 16 #[.val (.ref r0), .val (.long q1), .second] [(.long q1), (.long w_m), (.ref r0)])) target
    refine XS.ladd Xg12.here hx rfl (hb hby own_d6_16) rfl ?_
    exact kt
  obtain ⟨Tg17, hg17, Xg17, eg17, Wg17, stg17⟩ := putF Xg12 hx hZ hown (host := "") (Or.inl (hw _ (List.mem_of_getElem? (i := 33) rfl))) Via.refl eg12 F_5 F (Or.inl (hw _ (List.mem_of_getElem? (i := 34) rfl))) (hw _ (List.mem_of_getElem? (i := 3) rfl)) (ty := .long) (by decide) rfl rfl (g := (mkF m 17 #[.val (.ref r0), .val (.long q1), .second] [(.long (w_m + q1)), (.ref r0)])) rfl rfl (hb hby own_d6_17)
  refine own_st stg17 ?_
  have Ng17 := Fr.snoc Xg17 Ng7 g_r0
  have F_9 := F.wr Wg17
  have F_10 := F_8.other Wg17 (Or.inr (slot_ne (Or.inl (hw _ (List.mem_of_getElem? (i := 26) rfl))) (Or.inl (hw _ (List.mem_of_getElem? (i := 34) rfl))) (by decide) (t := .long) (t' := .long) (by decide) (by decide)))
  have F_11 := F_2.other Wg17 (Or.inr (slot_ne (Or.inl (hw _ (List.mem_of_getElem? (i := 24) rfl))) (Or.inl (hw _ (List.mem_of_getElem? (i := 34) rfl))) (by decide) (t := .boolean) (t' := .long) (by decide) (by decide)))
  have F_12 := F_3.other Wg17 (Or.inr (slot_ne (Or.inl (hw _ (List.mem_of_getElem? (i := 40) rfl))) (Or.inl (hw _ (List.mem_of_getElem? (i := 34) rfl))) (by decide) (t := .int) (t' := .long) (by decide) (by decide)))
  have F_13 := F_4.other Wg17 (Or.inr (slot_ne (Or.inl (hw _ (List.mem_of_getElem? (i := 32) rfl))) (Or.inl (hw _ (List.mem_of_getElem? (i := 34) rfl))) (by decide) (t := .long) (t' := .long) (by decide) (by decide)))
  have F_14 := F_5.same Wg17
  have F_15 := F_6.other Wg17 (Or.inr (slot_ne (Or.inl (hw _ (List.mem_of_getElem? (i := 38) rfl))) (Or.inl (hw _ (List.mem_of_getElem? (i := 34) rfl))) (by decide) (t := .long) (t' := .long) (by decide) (by decide)))
  have F_16 := F_7.other Wg17 (Or.inr (slot_ne (Or.inl (hw _ (List.mem_of_getElem? (i := 36) rfl))) (Or.inl (hw _ (List.mem_of_getElem? (i := 34) rfl))) (by decide) (t := .boolean) (t' := .long) (by decide) (by decide)))
  have Zz_1 : n0 ≤ hg17.size := Nat.le_trans Zz (Keep.of_wr Wg17).1
  have Kc_1 := Kc.wr Wg17 (Or.inl (List.mem_of_getElem? (i := 0) rfl))
  obtain ⟨v17, hv17⟩ : ∃ z : Int64, z = (w_m + q1) := ⟨_, rfl⟩
  have F_17 : Fld Z hg17 r0 "com/example/evenkeel/evenkeel/FullCycles" "made" "J" (.long v17) := by subst hv17; exact F_14
  refine own_st (B := Tg17.setTop (mkF m 21 #[.val (.ref r0), .val (.long q1), .second] [(.ref r0)])) (fun target kt => ?_) ?_
  · show Steps p.tables e below (Tg17.setTop (mkF m 20 #[.val (.ref r0), .val (.long q1), .second] [])) target
    refine XS.aloadN Xg17.here hx rfl (hb hby own_d6_20) rfl rfl ?_
    exact kt
  obtain ⟨Tg21, Xg21, eg21, stg21⟩ := getF Xg17 hx hZ hown (host := "") (Or.inl (hw _ (List.mem_of_getElem? (i := 33) rfl))) Via.refl eg17 F_17 (g := (mkF m 21 #[.val (.ref r0), .val (.long q1), .second] [(.ref r0)])) rfl rfl (hb hby own_d6_21)
  refine own_st stg21 ?_
  refine own_st (B := Tg21.setTop (mkF m 25 #[.val (.ref r0), .val (.long q1), .second] [(.ref r0), (.long v17)])) (fun target kt => ?_) ?_
  · show Steps p.tables e below (Tg21.setTop (mkF m 24 #[.val (.ref r0), .val (.long q1), .second] [(.long v17)])) target
    refine XS.aloadN Xg21.here hx rfl (hb hby own_d6_24) rfl rfl ?_
    exact kt
  obtain ⟨Tg25, Xg25, eg25, stg25⟩ := getF Xg21 hx hZ hown (host := "") (Or.inl (hw _ (List.mem_of_getElem? (i := 37) rfl))) Via.refl eg21 F_15 (g := (mkF m 25 #[.val (.ref r0), .val (.long q1), .second] [(.ref r0), (.long v17)])) rfl rfl (hb hby own_d6_25)
  refine own_st stg25 ?_
  refine own_st (B := Tg25.setTop (mkF m 29 #[.val (.ref r0), .val (.long q1), .second] [(.int (lcmpW v17 w_t))])) (fun target kt => ?_) ?_
  · show Steps p.tables e below (Tg25.setTop (mkF m 28 #[.val (.ref r0), .val (.long q1), .second] [(.long w_t), (.long v17)])) target
    refine XS.lcmp Xg25.here hx rfl (hb hby own_d6_28) rfl ?_
    exact kt
  obtain ⟨_, ⟨T_M65, h_M65, lc_M65, j65_f_r0_began, j65_f_r0_made, j65_f_r0_holding, rfl, X_M65, e_M65, N_M65, Z_M65, K_M65, F_44, F_45, F_46, F_47, F_48, F_49, F_50, F_51, hj65_f_r0_began, hj65_f_r0_made, rfl⟩, st_M65⟩ : own_Lead p.tables e below (Tg25.setTop (mkF m 29 #[.val (.ref r0), .val (.long q1), .second] [(.int (lcmpW v17 w_t))])) (fun B => ∃ (T_M65 : State) (h_M65 : Heap) (lc_M65 : List Loc) (j65_f_r0_began : Int64) (j65_f_r0_made : Int64) (j65_f_r0_holding : Int32), B = T_M65.setTop (mkF m 65 #[.val (.ref r0), .val (.long q1), .second] []) ∧ Stand p l e ({ frames := 0, cells := 0, slots := 0, locals := 0 } : Room) s m #[(.ref r0), (.long q1)] below meth c T_M65 lc_M65 0 0 ∧ T_M65.heap = h_M65 ∧ Fr n0 lc_M65 ∧ n0 ≤ h_M65.size ∧ Keep h0 h_M65 [r0] ∧ Exa Z h_M65 r0 "com/example/evenkeel/evenkeel/FullCycles" ∧ Fld Z h_M65 r0 "com/example/evenkeel/evenkeel/FullCycles" "picks" "J" (.long v7) ∧ Fld Z h_M65 r0 "com/example/evenkeel/evenkeel/FullCycles" "steady" "Z" (.int (own_b W_s)) ∧ Fld Z h_M65 r0 "com/example/evenkeel/evenkeel/FullCycles" "taking" "I" (.int w_k) ∧ Fld Z h_M65 r0 "com/example/evenkeel/evenkeel/FullCycles" "began" "J" (.long j65_f_r0_began) ∧ Fld Z h_M65 r0 "com/example/evenkeel/evenkeel/FullCycles" "made" "J" (.long j65_f_r0_made) ∧ Fld Z h_M65 r0 "com/example/evenkeel/evenkeel/FullCycles" "total" "J" (.long w_t) ∧ Fld Z h_M65 r0 "com/example/evenkeel/evenkeel/FullCycles" "holding" "Z" (.int j65_f_r0_holding) ∧ j65_f_r0_began = (if v17 < w_t then w_b else (((v7 - ((v17 - w_t))) + (1 : Int64)))) ∧ j65_f_r0_made = (if v17 < w_t then v17 else ((v17 - w_t))) ∧ j65_f_r0_holding = own_b ((¬ (v17 < w_t) ∨ (W_h)))) := by
    by_cases c29 : v17 < w_t
    · refine own_st (B := Tg25.setTop (mkF m 65 #[.val (.ref r0), .val (.long q1), .second] [])) (fun target kt => ?_) ?_
      · show Steps p.tables e below (Tg25.setTop (mkF m 29 #[.val (.ref r0), .val (.long q1), .second] [(.int (lcmpW v17 w_t))])) target
        refine XS.ifYes Xg25.here hx rfl (pc0 := 29) (pc' := 65) rfl (hb hby own_d6_29) rfl ((if0 _ _).trans (tlt ((lw_lt v17 w_t).mpr c29)).1) (by decide) (by decide) ?_
        exact kt
      exact ⟨_, ⟨Tg25, hg17, _, w_b, v17, (own_b W_h), rfl, Xg25, eg25, Ng17, Zz_1, Kc_1, F_9, F_10, F_11, F_12, F_13, F_17, F_15, F_16, (if_pos c29).symm, (if_pos c29).symm, (own_bj rfl (fun q => (Or.inr q)) (fun q => (fun w => w.elim (fun n => n c29) q)))⟩, fun _ k => k⟩
    · refine own_st (B := Tg25.setTop (mkF m 34 #[.val (.ref r0), .val (.long q1), .second] [(.ref r0), (.ref r0)])) (fun target kt => ?_) ?_
      · show Steps p.tables e below (Tg25.setTop (mkF m 29 #[.val (.ref r0), .val (.long q1), .second] [(.int (lcmpW v17 w_t))])) target
        refine XS.ifNo Xg25.here hx rfl (hb hby own_d6_29) rfl ((if0 _ _).trans (flt (fun q => c29 ((lw_lt v17 w_t).mp q))).1) ?_
        show Steps p.tables e below (Tg25.setTop (mkF m 32 #[.val (.ref r0), .val (.long q1), .second] [])) target
        refine XS.aloadN Xg25.here hx rfl (hb hby own_d6_32) rfl rfl ?_
        show Steps p.tables e below (Tg25.setTop (mkF m 33 #[.val (.ref r0), .val (.long q1), .second] [(.ref r0)])) target
        refine XS.dup Xg25.here hx rfl (hb hby own_d6_33) rfl rfl ?_
        exact kt
      obtain ⟨Tg34, Xg34, eg34, stg34⟩ := getF Xg25 hx hZ hown (host := "") (Or.inl (hw _ (List.mem_of_getElem? (i := 33) rfl))) Via.refl eg25 F_17 (g := (mkF m 34 #[.val (.ref r0), .val (.long q1), .second] [(.ref r0), (.ref r0)])) rfl rfl (hb hby own_d6_34)
      refine own_st stg34 ?_
      refine own_st (B := Tg34.setTop (mkF m 38 #[.val (.ref r0), .val (.long q1), .second] [(.ref r0), (.long v17), (.ref r0)])) (fun target kt => ?_) ?_
      · show Steps p.tables e below (Tg34.setTop (mkF m 37 #[.val (.ref r0), .val (.long q1), .second] [(.long v17), (.ref r0)])) target
        refine XS.aloadN Xg34.here hx rfl (hb hby own_d6_37) rfl rfl ?_
        exact kt
      obtain ⟨Tg38, Xg38, eg38, stg38⟩ := getF Xg34 hx hZ hown (host := "") (Or.inl (hw _ (List.mem_of_getElem? (i := 37) rfl))) Via.refl eg34 F_15 (g := (mkF m 38 #[.val (.ref r0), .val (.long q1), .second] [(.ref r0), (.long v17), (.ref r0)])) rfl rfl (hb hby own_d6_38)
      refine own_st stg38 ?_
      refine own_st (B := Tg38.setTop (mkF m 42 #[.val (.ref r0), .val (.long q1), .second] [(.long (v17 - w_t)), (.ref r0)])) (fun target kt => ?_) ?_
      · show Steps p.tables e below (Tg38.setTop (mkF m 41 #[.val (.ref r0), .val (.long q1), .second] [(.long w_t), (.long v17), (.ref r0)])) target
        refine XS.lsub Xg38.here hx rfl (hb hby own_d6_41) rfl ?_
        exact kt
      obtain ⟨Tg42, hg42, Xg42, eg42, Wg42, stg42⟩ := putF Xg38 hx hZ hown (host := "") (Or.inl (hw _ (List.mem_of_getElem? (i := 33) rfl))) Via.refl eg38 F_17 F_9 (Or.inl (hw _ (List.mem_of_getElem? (i := 34) rfl))) (hw _ (List.mem_of_getElem? (i := 3) rfl)) (ty := .long) (by decide) rfl rfl (g := (mkF m 42 #[.val (.ref r0), .val (.long q1), .second] [(.long (v17 - w_t)), (.ref r0)])) rfl rfl (hb hby own_d6_42)
      refine own_st stg42 ?_
      have Ng42 := Fr.snoc Xg42 Ng17 g_r0
      have F_18 := F_9.wr Wg42
      have F_19 := F_10.other Wg42 (Or.inr (slot_ne (Or.inl (hw _ (List.mem_of_getElem? (i := 26) rfl))) (Or.inl (hw _ (List.mem_of_getElem? (i := 34) rfl))) (by decide) (t := .long) (t' := .long) (by decide) (by decide)))
      have F_20 := F_11.other Wg42 (Or.inr (slot_ne (Or.inl (hw _ (List.mem_of_getElem? (i := 24) rfl))) (Or.inl (hw _ (List.mem_of_getElem? (i := 34) rfl))) (by decide) (t := .boolean) (t' := .long) (by decide) (by decide)))
      have F_21 := F_12.other Wg42 (Or.inr (slot_ne (Or.inl (hw _ (List.mem_of_getElem? (i := 40) rfl))) (Or.inl (hw _ (List.mem_of_getElem? (i := 34) rfl))) (by decide) (t := .int) (t' := .long) (by decide) (by decide)))
      have F_22 := F_13.other Wg42 (Or.inr (slot_ne (Or.inl (hw _ (List.mem_of_getElem? (i := 32) rfl))) (Or.inl (hw _ (List.mem_of_getElem? (i := 34) rfl))) (by decide) (t := .long) (t' := .long) (by decide) (by decide)))
      have F_23 := F_17.same Wg42
      have F_24 := F_15.other Wg42 (Or.inr (slot_ne (Or.inl (hw _ (List.mem_of_getElem? (i := 38) rfl))) (Or.inl (hw _ (List.mem_of_getElem? (i := 34) rfl))) (by decide) (t := .long) (t' := .long) (by decide) (by decide)))
      have F_25 := F_16.other Wg42 (Or.inr (slot_ne (Or.inl (hw _ (List.mem_of_getElem? (i := 36) rfl))) (Or.inl (hw _ (List.mem_of_getElem? (i := 34) rfl))) (by decide) (t := .boolean) (t' := .long) (by decide) (by decide)))
      have Zz_2 : n0 ≤ hg42.size := Nat.le_trans Zz_1 (Keep.of_wr Wg42).1
      have Kc_2 := Kc_1.wr Wg42 (Or.inl (List.mem_of_getElem? (i := 0) rfl))
      obtain ⟨v42, hv42⟩ : ∃ z : Int64, z = (v17 - w_t) := ⟨_, rfl⟩
      have F_26 : Fld Z hg42 r0 "com/example/evenkeel/evenkeel/FullCycles" "made" "J" (.long v42) := by subst hv42; exact F_23
      refine own_st (B := Tg42.setTop (mkF m 47 #[.val (.ref r0), .val (.long q1), .second] [(.ref r0), (.ref r0)])) (fun target kt => ?_) ?_
      · show Steps p.tables e below (Tg42.setTop (mkF m 45 #[.val (.ref r0), .val (.long q1), .second] [])) target
        refine XS.aloadN Xg42.here hx rfl (hb hby own_d6_45) rfl rfl ?_
        show Steps p.tables e below (Tg42.setTop (mkF m 46 #[.val (.ref r0), .val (.long q1), .second] [(.ref r0)])) target
        refine XS.aloadN Xg42.here hx rfl (hb hby own_d6_46) rfl rfl ?_
        exact kt
      obtain ⟨Tg47, Xg47, eg47, stg47⟩ := getF Xg42 hx hZ hown (host := "") (Or.inl (hw _ (List.mem_of_getElem? (i := 25) rfl))) Via.refl eg42 F_19 (g := (mkF m 47 #[.val (.ref r0), .val (.long q1), .second] [(.ref r0), (.ref r0)])) rfl rfl (hb hby own_d6_47)
      refine own_st stg47 ?_
      refine own_st (B := Tg47.setTop (mkF m 51 #[.val (.ref r0), .val (.long q1), .second] [(.ref r0), (.long v7), (.ref r0)])) (fun target kt => ?_) ?_
      · show Steps p.tables e below (Tg47.setTop (mkF m 50 #[.val (.ref r0), .val (.long q1), .second] [(.long v7), (.ref r0)])) target
        refine XS.aloadN Xg47.here hx rfl (hb hby own_d6_50) rfl rfl ?_
        exact kt
      obtain ⟨Tg51, Xg51, eg51, stg51⟩ := getF Xg47 hx hZ hown (host := "") (Or.inl (hw _ (List.mem_of_getElem? (i := 33) rfl))) Via.refl eg47 F_26 (g := (mkF m 51 #[.val (.ref r0), .val (.long q1), .second] [(.ref r0), (.long v7), (.ref r0)])) rfl rfl (hb hby own_d6_51)
      refine own_st stg51 ?_
      refine own_st (B := Tg51.setTop (mkF m 57 #[.val (.ref r0), .val (.long q1), .second] [(.long ((v7 - v42) + (1 : Int64))), (.ref r0)])) (fun target kt => ?_) ?_
      · show Steps p.tables e below (Tg51.setTop (mkF m 54 #[.val (.ref r0), .val (.long q1), .second] [(.long v42), (.long v7), (.ref r0)])) target
        refine XS.lsub Xg51.here hx rfl (hb hby own_d6_54) rfl ?_
        show Steps p.tables e below (Tg51.setTop (mkF m 55 #[.val (.ref r0), .val (.long q1), .second] [(.long (v7 - v42)), (.ref r0)])) target
        refine XS.lconst Xg51.here hx rfl (hb hby own_d6_55) ?_
        show Steps p.tables e below (Tg51.setTop (mkF m 56 #[.val (.ref r0), .val (.long q1), .second] [(.long (1 : Int64)), (.long (v7 - v42)), (.ref r0)])) target
        refine XS.ladd Xg51.here hx rfl (hb hby own_d6_56) rfl ?_
        exact kt
      obtain ⟨Tg57, hg57, Xg57, eg57, Wg57, stg57⟩ := putF Xg51 hx hZ hown (host := "") (Or.inl (hw _ (List.mem_of_getElem? (i := 31) rfl))) Via.refl eg51 F_22 F_18 (Or.inl (hw _ (List.mem_of_getElem? (i := 32) rfl))) (hw _ (List.mem_of_getElem? (i := 3) rfl)) (ty := .long) (by decide) rfl rfl (g := (mkF m 57 #[.val (.ref r0), .val (.long q1), .second] [(.long ((v7 - v42) + (1 : Int64))), (.ref r0)])) rfl rfl (hb hby own_d6_57)
      refine own_st stg57 ?_
      have Ng57 := Fr.snoc Xg57 Ng42 g_r0
      have F_27 := F_18.wr Wg57
      have F_28 := F_19.other Wg57 (Or.inr (slot_ne (Or.inl (hw _ (List.mem_of_getElem? (i := 26) rfl))) (Or.inl (hw _ (List.mem_of_getElem? (i := 32) rfl))) (by decide) (t := .long) (t' := .long) (by decide) (by decide)))
      have F_29 := F_20.other Wg57 (Or.inr (slot_ne (Or.inl (hw _ (List.mem_of_getElem? (i := 24) rfl))) (Or.inl (hw _ (List.mem_of_getElem? (i := 32) rfl))) (by decide) (t := .boolean) (t' := .long) (by decide) (by decide)))
      have F_30 := F_21.other Wg57 (Or.inr (slot_ne (Or.inl (hw _ (List.mem_of_getElem? (i := 40) rfl))) (Or.inl (hw _ (List.mem_of_getElem? (i := 32) rfl))) (by decide) (t := .int) (t' := .long) (by decide) (by decide)))
      have F_31 := F_22.same Wg57
      have F_32 := F_26.other Wg57 (Or.inr (slot_ne (Or.inl (hw _ (List.mem_of_getElem? (i := 34) rfl))) (Or.inl (hw _ (List.mem_of_getElem? (i := 32) rfl))) (by decide) (t := .long) (t' := .long) (by decide) (by decide)))
      have F_33 := F_24.other Wg57 (Or.inr (slot_ne (Or.inl (hw _ (List.mem_of_getElem? (i := 38) rfl))) (Or.inl (hw _ (List.mem_of_getElem? (i := 32) rfl))) (by decide) (t := .long) (t' := .long) (by decide) (by decide)))
      have F_34 := F_25.other Wg57 (Or.inr (slot_ne (Or.inl (hw _ (List.mem_of_getElem? (i := 36) rfl))) (Or.inl (hw _ (List.mem_of_getElem? (i := 32) rfl))) (by decide) (t := .boolean) (t' := .long) (by decide) (by decide)))
      have Zz_3 : n0 ≤ hg57.size := Nat.le_trans Zz_2 (Keep.of_wr Wg57).1
      have Kc_3 := Kc_2.wr Wg57 (Or.inl (List.mem_of_getElem? (i := 0) rfl))
      obtain ⟨v57, hv57⟩ : ∃ z : Int64, z = ((v7 - v42) + (1 : Int64)) := ⟨_, rfl⟩
      have F_35 : Fld Z hg57 r0 "com/example/evenkeel/evenkeel/FullCycles" "began" "J" (.long v57) := by subst hv57; exact F_31
      refine own_st (B := Tg57.setTop (mkF m 62 #[.val (.ref r0), .val (.long q1), .second] [(.int (1 : Int32)), (.ref r0)])) (fun target kt => ?_) ?_
      · show Steps p.tables e below (Tg57.setTop (mkF m 60 #[.val (.ref r0), .val (.long q1), .second] [])) target
        refine XS.aloadN Xg57.here hx rfl (hb hby own_d6_60) rfl rfl ?_
        show Steps p.tables e below (Tg57.setTop (mkF m 61 #[.val (.ref r0), .val (.long q1), .second] [(.ref r0)])) target
        refine XS.iconst Xg57.here hx rfl (hb hby own_d6_61) ?_
        exact kt
      obtain ⟨Tg62, hg62, Xg62, eg62, Wg62, stg62⟩ := putFN Xg57 hx hZ hown (hw _ (List.mem_of_getElem? (i := 35) rfl)) Via.refl eg57 F_34 F_27 (Or.inl (hw _ (List.mem_of_getElem? (i := 36) rfl))) (hw _ (List.mem_of_getElem? (i := 3) rfl)) (ty := .boolean) (v' := (.int (1 : Int32))) (by decide) rfl (own_bfits rfl) (g := (mkF m 62 #[.val (.ref r0), .val (.long q1), .second] [(.int (1 : Int32)), (.ref r0)])) rfl rfl (hb hby own_d6_62)
      refine own_st stg62 ?_
      have Ng62 := Fr.snoc Xg62 Ng57 g_r0
      have F_36 := F_27.wr Wg62
      have F_37 := F_28.other Wg62 (Or.inr (slot_ne (Or.inl (hw _ (List.mem_of_getElem? (i := 26) rfl))) (Or.inl (hw _ (List.mem_of_getElem? (i := 36) rfl))) (by decide) (t := .long) (t' := .boolean) (by decide) (by decide)))
      have F_38 := F_29.other Wg62 (Or.inr (slot_ne (Or.inl (hw _ (List.mem_of_getElem? (i := 24) rfl))) (Or.inl (hw _ (List.mem_of_getElem? (i := 36) rfl))) (by decide) (t := .boolean) (t' := .boolean) (by decide) (by decide)))
      have F_39 := F_30.other Wg62 (Or.inr (slot_ne (Or.inl (hw _ (List.mem_of_getElem? (i := 40) rfl))) (Or.inl (hw _ (List.mem_of_getElem? (i := 36) rfl))) (by decide) (t := .int) (t' := .boolean) (by decide) (by decide)))
      have F_40 := F_35.other Wg62 (Or.inr (slot_ne (Or.inl (hw _ (List.mem_of_getElem? (i := 32) rfl))) (Or.inl (hw _ (List.mem_of_getElem? (i := 36) rfl))) (by decide) (t := .long) (t' := .boolean) (by decide) (by decide)))
      have F_41 := F_32.other Wg62 (Or.inr (slot_ne (Or.inl (hw _ (List.mem_of_getElem? (i := 34) rfl))) (Or.inl (hw _ (List.mem_of_getElem? (i := 36) rfl))) (by decide) (t := .long) (t' := .boolean) (by decide) (by decide)))
      have F_42 := F_33.other Wg62 (Or.inr (slot_ne (Or.inl (hw _ (List.mem_of_getElem? (i := 38) rfl))) (Or.inl (hw _ (List.mem_of_getElem? (i := 36) rfl))) (by decide) (t := .long) (t' := .boolean) (by decide) (by decide)))
      have F_43 := F_34.same Wg62
      have Zz_4 : n0 ≤ hg62.size := Nat.le_trans Zz_3 (Keep.of_wr Wg62).1
      have Kc_4 := Kc_3.wr Wg62 (Or.inl (List.mem_of_getElem? (i := 0) rfl))
      subst hv42 hv57
      exact ⟨_, ⟨Tg62, hg62, _, (((v7 - ((v17 - w_t))) + (1 : Int64))), ((v17 - w_t)), (1 : Int32), rfl, Xg62, eg62, Ng62, Zz_4, Kc_4, F_36, F_37, F_38, F_39, F_40, F_41, F_42, F_43, (if_neg c29).symm, (if_neg c29).symm, (own_b1 (Or.inl c29)).symm⟩, fun _ k => k⟩
  refine own_st st_M65 ?_
  obtain ⟨fs, hr, hrun, hended, hW, hsame⟩ := X_M65.leave (v := none) (fun _ => rfl)
  have hend : Steps p.tables e below (T_M65.setTop (mkF m 65 #[.val (.ref r0), .val (.long q1), .second] [])) (T_M65.setFrames fs) := by
    exact X_M65.returnOut hx Bd.returns (hb hby own_d6_65) hr
  refine own_fin hend ⟨_, hrun, hended, _, _, rfl, ?_, ⟨_, rfl⟩, hW, hsame.mono (by decide) (by decide)⟩
  show own_Q6 Z r0 q1 w_p W_s w_k w_b w_m w_t W_h h0 n0 _ T_M65.heap _
  rw [e_M65]
  subst hv7 hv17 hj65_f_r0_began hj65_f_r0_made
  exact ⟨rfl, N_M65, K_M65, F_44, F_45, F_46, F_47, F_48, F_49, F_50, F_51⟩
theorem own_d11_0 : decode prog_34_method_11_code 0 = .ok (.aload_n 0, 1) := by decide +kernel
theorem own_d11_1 : decode prog_34_method_11_code 1 = .ok (.iconst 0, 1) := by decide +kernel
theorem own_d11_2 : decode prog_34_method_11_code 2 = .ok (.putfield 36, 3) := by decide +kernel
theorem own_d11_5 : decode prog_34_method_11_code 5 = .ok (.return_, 1) := by decide +kernel
theorem own_ef11 (m : MethodId) (r0 : Addr) : entryFrame m #[(.ref r0)] 1 = mkF m 0 #[.val (.ref r0)] [] := by first | (simp [entryFrame, mkF, argsToLocals, Value.category]; done) | rfl
def own_Q11 (Z : State) (r0 : Addr) (w_p : Int64) (W_s : Prop) [Decidable W_s] (w_k : Int32) (w_b : Int64) (w_m : Int64) (w_t : Int64) (W_h : Prop) [Decidable W_h] (h0 : Heap) (n0 : Nat) (v : Option Value) (h : Heap) (L : List Loc) : Prop := (v = none) ∧ (Fr n0 L) ∧ (Keep h0 h [r0]) ∧ (Exa Z h r0 "com/example/evenkeel/evenkeel/FullCycles") ∧ (Fld Z h r0 "com/example/evenkeel/evenkeel/FullCycles" "picks" "J" (.long w_p)) ∧ (Fld Z h r0 "com/example/evenkeel/evenkeel/FullCycles" "steady" "Z" (.int (own_b W_s))) ∧ (Fld Z h r0 "com/example/evenkeel/evenkeel/FullCycles" "taking" "I" (.int w_k)) ∧ (Fld Z h r0 "com/example/evenkeel/evenkeel/FullCycles" "began" "J" (.long w_b)) ∧ (Fld Z h r0 "com/example/evenkeel/evenkeel/FullCycles" "made" "J" (.long w_m)) ∧ (Fld Z h r0 "com/example/evenkeel/evenkeel/FullCycles" "total" "J" (.long w_t)) ∧ (Fld Z h r0 "com/example/evenkeel/evenkeel/FullCycles" "holding" "Z" (.int (0 : Int32)))
set_option maxRecDepth 65536 in
set_option maxHeartbeats 40000000 in
theorem own_rm11 (l : Launch) (Z : State) (a0 : Array Value) (hw : ∀ d ∈ tables_1, d.before a0 Z = true) (ws : List Jvm.Cond) (r0 : Addr) (w_p : Int64) (W_s : Prop) [Decidable W_s] (w_k : Int32) (w_b : Int64) (w_m : Int64) (w_t : Int64) (W_h : Prop) [Decidable W_h] (h0 : Heap) (n0 : Nat) (Z0 : n0 ≤ h0.size) (E_r0 : Exa Z h0 r0 "com/example/evenkeel/evenkeel/FullCycles") (F_r0_picks : Fld Z h0 r0 "com/example/evenkeel/evenkeel/FullCycles" "picks" "J" (.long w_p)) (F_r0_steady : Fld Z h0 r0 "com/example/evenkeel/evenkeel/FullCycles" "steady" "Z" (.int (own_b W_s))) (F_r0_taking : Fld Z h0 r0 "com/example/evenkeel/evenkeel/FullCycles" "taking" "I" (.int w_k)) (F_r0_began : Fld Z h0 r0 "com/example/evenkeel/evenkeel/FullCycles" "began" "J" (.long w_b)) (F_r0_made : Fld Z h0 r0 "com/example/evenkeel/evenkeel/FullCycles" "made" "J" (.long w_m)) (F_r0_total : Fld Z h0 r0 "com/example/evenkeel/evenkeel/FullCycles" "total" "J" (.long w_t)) (F_r0_holding : Fld Z h0 r0 "com/example/evenkeel/evenkeel/FullCycles" "holding" "Z" (.int (own_b W_h))) (g_r0 : n0 ≤ r0) :
    MetFree l (⟨"com/example/evenkeel/evenkeel/FullCycles", "giveUp", "()V"⟩ : MethodName) (head1 (Jvm.Cond.code (⟨"com/example/evenkeel/evenkeel/FullCycles", "giveUp", "()V"⟩ : MethodName) prog_34_method_11_code 1 none :: ws) ({ frames := 0, cells := 0, slots := 0, locals := 0 } : Room)) (fun a U => a = #[(.ref r0)] ∧ Z.Warmed39 U.vm ∧ U.heap = h0) (fun _ _ _ _ _ => True) (fun _ U o U' => ∃ v L, o = .returned v ∧ own_Q11 Z r0 w_p W_s w_k w_b w_m w_t W_h h0 n0 v U'.heap L ∧ FrameEnd U o U' L ({ frames := 0, cells := 0, slots := 0, locals := 0 } : Room).cells ({ frames := 0, cells := 0, slots := 0, locals := 0 } : Room).slots) := by
  refine MetFree.of_bodySF (plainFor_of_name own_pn0) hisR ?_
  intro p e s m args below meth c s₁ Bd hml0 hP hK
  obtain ⟨rfl, hZ, hh⟩ := hP
  have hx := Bd.exec
  have hby := Bd.bytes
  have hml : c.maxLocals = 1 := hml0
  have hown : s.vm.findClass "com/example/evenkeel/evenkeel/FullCycles" = some m.cls := findClass_of_methodNamed Bd.named
  have hnm := (name_of_methodNamed Bd.named Bd.method).1
  have X0 : Stand p l e ({ frames := 0, cells := 0, slots := 0, locals := 0 } : Room) s m #[(.ref r0)] below meth c s₁ [] 0 0 := Stand.of_body Bd
  have e0 : s₁.heap = h0 := by rw [← hh, Bd.state]; rfl
  have N0 := Fr.nil n0
  have pre0 : ∀ t, Steps p.tables e below (s₁.setTop (mkF m 0 #[.val (.ref r0)] [])) t → Steps p.tables e below (s₁.setTop (entryFrame m #[(.ref r0)] 1)) t := fun t k => castTop (own_ef11 m r0) k
  refine own_run (own_st pre0 ?_)
  refine own_st (B := s₁.setTop (mkF m 2 #[.val (.ref r0)] [(.int (0 : Int32)), (.ref r0)])) (fun target kt => ?_) ?_
  · show Steps p.tables e below (s₁.setTop (mkF m 0 #[.val (.ref r0)] [])) target
    refine XS.aloadN X0.here hx rfl (hb hby own_d11_0) rfl rfl ?_
    show Steps p.tables e below (s₁.setTop (mkF m 1 #[.val (.ref r0)] [(.ref r0)])) target
    refine XS.iconst X0.here hx rfl (hb hby own_d11_1) ?_
    exact kt
  obtain ⟨Tg2, hg2, Xg2, eg2, Wg2, stg2⟩ := putFN X0 hx hZ hown (hw _ (List.mem_of_getElem? (i := 35) rfl)) Via.refl e0 F_r0_holding E_r0 (Or.inl (hw _ (List.mem_of_getElem? (i := 36) rfl))) (hw _ (List.mem_of_getElem? (i := 3) rfl)) (ty := .boolean) (v' := (.int (0 : Int32))) (by decide) rfl (own_bfits rfl) (g := (mkF m 2 #[.val (.ref r0)] [(.int (0 : Int32)), (.ref r0)])) rfl rfl (hb hby own_d11_2)
  refine own_st stg2 ?_
  have Ng2 := Fr.snoc Xg2 N0 g_r0
  have F := E_r0.wr Wg2
  have F_1 := F_r0_picks.other Wg2 (Or.inr (slot_ne (Or.inl (hw _ (List.mem_of_getElem? (i := 26) rfl))) (Or.inl (hw _ (List.mem_of_getElem? (i := 36) rfl))) (by decide) (t := .long) (t' := .boolean) (by decide) (by decide)))
  have F_2 := F_r0_steady.other Wg2 (Or.inr (slot_ne (Or.inl (hw _ (List.mem_of_getElem? (i := 24) rfl))) (Or.inl (hw _ (List.mem_of_getElem? (i := 36) rfl))) (by decide) (t := .boolean) (t' := .boolean) (by decide) (by decide)))
  have F_3 := F_r0_taking.other Wg2 (Or.inr (slot_ne (Or.inl (hw _ (List.mem_of_getElem? (i := 40) rfl))) (Or.inl (hw _ (List.mem_of_getElem? (i := 36) rfl))) (by decide) (t := .int) (t' := .boolean) (by decide) (by decide)))
  have F_4 := F_r0_began.other Wg2 (Or.inr (slot_ne (Or.inl (hw _ (List.mem_of_getElem? (i := 32) rfl))) (Or.inl (hw _ (List.mem_of_getElem? (i := 36) rfl))) (by decide) (t := .long) (t' := .boolean) (by decide) (by decide)))
  have F_5 := F_r0_made.other Wg2 (Or.inr (slot_ne (Or.inl (hw _ (List.mem_of_getElem? (i := 34) rfl))) (Or.inl (hw _ (List.mem_of_getElem? (i := 36) rfl))) (by decide) (t := .long) (t' := .boolean) (by decide) (by decide)))
  have F_6 := F_r0_total.other Wg2 (Or.inr (slot_ne (Or.inl (hw _ (List.mem_of_getElem? (i := 38) rfl))) (Or.inl (hw _ (List.mem_of_getElem? (i := 36) rfl))) (by decide) (t := .long) (t' := .boolean) (by decide) (by decide)))
  have F_7 := F_r0_holding.same Wg2
  have Zz : n0 ≤ hg2.size := Nat.le_trans Z0 (Keep.of_wr Wg2).1
  have Kc := (Keep.refl h0 [r0]).wr Wg2 (Or.inl (List.mem_of_getElem? (i := 0) rfl))
  obtain ⟨fs, hr, hrun, hended, hW, hsame⟩ := Xg2.leave (v := none) (fun _ => rfl)
  have hend : Steps p.tables e below (Tg2.setTop (mkF m 5 #[.val (.ref r0)] [])) (Tg2.setFrames fs) := by
    exact Xg2.returnOut hx Bd.returns (hb hby own_d11_5) hr
  refine own_fin hend ⟨_, hrun, hended, _, _, rfl, ?_, ⟨_, rfl⟩, hW, hsame.mono (by decide) (by decide)⟩
  show own_Q11 Z r0 w_p W_s w_k w_b w_m w_t W_h h0 n0 _ Tg2.heap _
  rw [eg2]
  exact ⟨rfl, Ng2, Kc, F, F_1, F_2, F_3, F_4, F_5, F_6, F_7⟩
theorem own_d8_0 : decode prog_34_method_8_code 0 = .ok (.aload_n 0, 1) := by decide +kernel
theorem own_d8_1 : decode prog_34_method_8_code 1 = .ok (.getfield 39, 3) := by decide +kernel
theorem own_d8_4 : decode prog_34_method_8_code 4 = .ok (.lreturn, 1) := by decide +kernel
theorem own_ef8 (m : MethodId) (r0 : Addr) : entryFrame m #[(.ref r0)] 1 = mkF m 0 #[.val (.ref r0)] [] := by first | (simp [entryFrame, mkF, argsToLocals, Value.category]; done) | rfl
def own_Q8 (Z : State) (r0 : Addr) (w_b : Int64) (h0 : Heap) (n0 : Nat) (v : Option Value) (h : Heap) (L : List Loc) : Prop := (v = some (.long w_b)) ∧ (Fr n0 L) ∧ (h = h0)
set_option maxRecDepth 65536 in
set_option maxHeartbeats 40000000 in
theorem own_rm8 (l : Launch) (Z : State) (a0 : Array Value) (hw : ∀ d ∈ tables_1, d.before a0 Z = true) (ws : List Jvm.Cond) (r0 : Addr) (w_b : Int64) (h0 : Heap) (n0 : Nat) (Z0 : n0 ≤ h0.size) (F_r0_began : Fld Z h0 r0 "com/example/evenkeel/evenkeel/FullCycles" "began" "J" (.long w_b)) :
    MetFree l (⟨"com/example/evenkeel/evenkeel/FullCycles", "cycle", "()J"⟩ : MethodName) (head1 (Jvm.Cond.code (⟨"com/example/evenkeel/evenkeel/FullCycles", "cycle", "()J"⟩ : MethodName) prog_34_method_8_code 1 (some .long) :: ws) ({ frames := 0, cells := 0, slots := 0, locals := 0 } : Room)) (fun a U => a = #[(.ref r0)] ∧ Z.Warmed39 U.vm ∧ U.heap = h0) (fun _ _ _ _ _ => True) (fun _ U o U' => ∃ v L, o = .returned v ∧ own_Q8 Z r0 w_b h0 n0 v U'.heap L ∧ FrameEnd U o U' L ({ frames := 0, cells := 0, slots := 0, locals := 0 } : Room).cells ({ frames := 0, cells := 0, slots := 0, locals := 0 } : Room).slots) := by
  refine MetFree.of_bodySF (plainFor_of_name own_pn0) hisR ?_
  intro p e s m args below meth c s₁ Bd hml0 hP hK
  obtain ⟨rfl, hZ, hh⟩ := hP
  have hx := Bd.exec
  have hby := Bd.bytes
  have hml : c.maxLocals = 1 := hml0
  have hown : s.vm.findClass "com/example/evenkeel/evenkeel/FullCycles" = some m.cls := findClass_of_methodNamed Bd.named
  have hnm := (name_of_methodNamed Bd.named Bd.method).1
  have X0 : Stand p l e ({ frames := 0, cells := 0, slots := 0, locals := 0 } : Room) s m #[(.ref r0)] below meth c s₁ [] 0 0 := Stand.of_body Bd
  have e0 : s₁.heap = h0 := by rw [← hh, Bd.state]; rfl
  have N0 := Fr.nil n0
  have pre0 : ∀ t, Steps p.tables e below (s₁.setTop (mkF m 0 #[.val (.ref r0)] [])) t → Steps p.tables e below (s₁.setTop (entryFrame m #[(.ref r0)] 1)) t := fun t k => castTop (own_ef8 m r0) k
  refine own_run (own_st pre0 ?_)
  refine own_st (B := s₁.setTop (mkF m 1 #[.val (.ref r0)] [(.ref r0)])) (fun target kt => ?_) ?_
  · show Steps p.tables e below (s₁.setTop (mkF m 0 #[.val (.ref r0)] [])) target
    refine XS.aloadN X0.here hx rfl (hb hby own_d8_0) rfl rfl ?_
    exact kt
  obtain ⟨Tg1, Xg1, eg1, stg1⟩ := getF X0 hx hZ hown (host := "") (Or.inl (hw _ (List.mem_of_getElem? (i := 31) rfl))) Via.refl e0 F_r0_began (g := (mkF m 1 #[.val (.ref r0)] [(.ref r0)])) rfl rfl (hb hby own_d8_1)
  refine own_st stg1 ?_
  obtain ⟨fs, hr, hrun, hended, hW, hsame⟩ := Xg1.leave (v := some (.long w_b)) (fun h => by rw [Bd.returns] at h; cases h)
  have hend : Steps p.tables e below (Tg1.setTop (mkF m 4 #[.val (.ref r0)] [(.long w_b)])) (Tg1.setFrames fs) := by
    jvm_step Xg1.here [Xg1.here.top, hx, (hb hby own_d8_4), Xg1.method', Bd.returns, narrow]
    first | (intro acts; rw [hr _ acts rfl rfl rfl]) | rw [hr _ _ rfl rfl rfl]
    exact Steps.refl _
  refine own_fin hend ⟨_, hrun, hended, _, _, rfl, ?_, ⟨_, rfl⟩, hW, hsame.mono (by decide) (by decide)⟩
  show own_Q8 Z r0 w_b h0 n0 _ Tg1.heap _
  rw [eg1]
  exact ⟨(congrArg (fun z => some (Value.long z)) rfl), N0, rfl⟩
theorem own_d9_0 : decode prog_34_method_9_code 0 = .ok (.aload_n 0, 1) := by decide +kernel
theorem own_d9_1 : decode prog_34_method_9_code 1 = .ok (.getfield 33, 3) := by decide +kernel
theorem own_d9_4 : decode prog_34_method_9_code 4 = .ok (.aload_n 0, 1) := by decide +kernel
theorem own_d9_5 : decode prog_34_method_9_code 5 = .ok (.getfield 42, 3) := by decide +kernel
theorem own_d9_8 : decode prog_34_method_9_code 8 = .ok (.lsub, 1) := by decide +kernel
theorem own_d9_9 : decode prog_34_method_9_code 9 = .ok (.lreturn, 1) := by decide +kernel
theorem own_ef9 (m : MethodId) (r0 : Addr) : entryFrame m #[(.ref r0)] 1 = mkF m 0 #[.val (.ref r0)] [] := by first | (simp [entryFrame, mkF, argsToLocals, Value.category]; done) | rfl
def own_Q9 (Z : State) (r0 : Addr) (w_t : Int64) (w_m : Int64) (h0 : Heap) (n0 : Nat) (v : Option Value) (h : Heap) (L : List Loc) : Prop := (v = some (.long (w_t - w_m))) ∧ (Fr n0 L) ∧ (h = h0)
set_option maxRecDepth 65536 in
set_option maxHeartbeats 40000000 in
theorem own_rm9 (l : Launch) (Z : State) (a0 : Array Value) (hw : ∀ d ∈ tables_1, d.before a0 Z = true) (ws : List Jvm.Cond) (r0 : Addr) (w_t : Int64) (w_m : Int64) (h0 : Heap) (n0 : Nat) (Z0 : n0 ≤ h0.size) (F_r0_total : Fld Z h0 r0 "com/example/evenkeel/evenkeel/FullCycles" "total" "J" (.long w_t)) (F_r0_made : Fld Z h0 r0 "com/example/evenkeel/evenkeel/FullCycles" "made" "J" (.long w_m)) :
    MetFree l (⟨"com/example/evenkeel/evenkeel/FullCycles", "left", "()J"⟩ : MethodName) (head1 (Jvm.Cond.code (⟨"com/example/evenkeel/evenkeel/FullCycles", "left", "()J"⟩ : MethodName) prog_34_method_9_code 1 (some .long) :: ws) ({ frames := 0, cells := 0, slots := 0, locals := 0 } : Room)) (fun a U => a = #[(.ref r0)] ∧ Z.Warmed39 U.vm ∧ U.heap = h0) (fun _ _ _ _ _ => True) (fun _ U o U' => ∃ v L, o = .returned v ∧ own_Q9 Z r0 w_t w_m h0 n0 v U'.heap L ∧ FrameEnd U o U' L ({ frames := 0, cells := 0, slots := 0, locals := 0 } : Room).cells ({ frames := 0, cells := 0, slots := 0, locals := 0 } : Room).slots) := by
  refine MetFree.of_bodySF (plainFor_of_name own_pn0) hisR ?_
  intro p e s m args below meth c s₁ Bd hml0 hP hK
  obtain ⟨rfl, hZ, hh⟩ := hP
  have hx := Bd.exec
  have hby := Bd.bytes
  have hml : c.maxLocals = 1 := hml0
  have hown : s.vm.findClass "com/example/evenkeel/evenkeel/FullCycles" = some m.cls := findClass_of_methodNamed Bd.named
  have hnm := (name_of_methodNamed Bd.named Bd.method).1
  have X0 : Stand p l e ({ frames := 0, cells := 0, slots := 0, locals := 0 } : Room) s m #[(.ref r0)] below meth c s₁ [] 0 0 := Stand.of_body Bd
  have e0 : s₁.heap = h0 := by rw [← hh, Bd.state]; rfl
  have N0 := Fr.nil n0
  have pre0 : ∀ t, Steps p.tables e below (s₁.setTop (mkF m 0 #[.val (.ref r0)] [])) t → Steps p.tables e below (s₁.setTop (entryFrame m #[(.ref r0)] 1)) t := fun t k => castTop (own_ef9 m r0) k
  refine own_run (own_st pre0 ?_)
  refine own_st (B := s₁.setTop (mkF m 1 #[.val (.ref r0)] [(.ref r0)])) (fun target kt => ?_) ?_
  · show Steps p.tables e below (s₁.setTop (mkF m 0 #[.val (.ref r0)] [])) target
    refine XS.aloadN X0.here hx rfl (hb hby own_d9_0) rfl rfl ?_
    exact kt
  obtain ⟨Tg1, Xg1, eg1, stg1⟩ := getF X0 hx hZ hown (host := "") (Or.inl (hw _ (List.mem_of_getElem? (i := 37) rfl))) Via.refl e0 F_r0_total (g := (mkF m 1 #[.val (.ref r0)] [(.ref r0)])) rfl rfl (hb hby own_d9_1)
  refine own_st stg1 ?_
  refine own_st (B := Tg1.setTop (mkF m 5 #[.val (.ref r0)] [(.ref r0), (.long w_t)])) (fun target kt => ?_) ?_
  · show Steps p.tables e below (Tg1.setTop (mkF m 4 #[.val (.ref r0)] [(.long w_t)])) target
    refine XS.aloadN Xg1.here hx rfl (hb hby own_d9_4) rfl rfl ?_
    exact kt
  obtain ⟨Tg5, Xg5, eg5, stg5⟩ := getF Xg1 hx hZ hown (host := "") (Or.inl (hw _ (List.mem_of_getElem? (i := 33) rfl))) Via.refl eg1 F_r0_made (g := (mkF m 5 #[.val (.ref r0)] [(.ref r0), (.long w_t)])) rfl rfl (hb hby own_d9_5)
  refine own_st stg5 ?_
  refine own_st (B := Tg5.setTop (mkF m 9 #[.val (.ref r0)] [(.long (w_t - w_m))])) (fun target kt => ?_) ?_
  · show Steps p.tables e below (Tg5.setTop (mkF m 8 #[.val (.ref r0)] [(.long w_m), (.long w_t)])) target
    refine XS.lsub Xg5.here hx rfl (hb hby own_d9_8) rfl ?_
    exact kt
  obtain ⟨fs, hr, hrun, hended, hW, hsame⟩ := Xg5.leave (v := some (.long (w_t - w_m))) (fun h => by rw [Bd.returns] at h; cases h)
  have hend : Steps p.tables e below (Tg5.setTop (mkF m 9 #[.val (.ref r0)] [(.long (w_t - w_m))])) (Tg5.setFrames fs) := by
    jvm_step Xg5.here [Xg5.here.top, hx, (hb hby own_d9_9), Xg5.method', Bd.returns, narrow]
    first | (intro acts; rw [hr _ acts rfl rfl rfl]) | rw [hr _ _ rfl rfl rfl]
    exact Steps.refl _
  refine own_fin hend ⟨_, hrun, hended, _, _, rfl, ?_, ⟨_, rfl⟩, hW, hsame.mono (by decide) (by decide)⟩
  show own_Q9 Z r0 w_t w_m h0 n0 _ Tg5.heap _
  rw [eg5]
  exact ⟨(congrArg (fun z => some (Value.long z)) rfl), N0, rfl⟩
theorem own_d10_0 : decode prog_34_method_5_code 0 = .ok (.aload_n 0, 1) := by decide +kernel
theorem own_d10_1 : decode prog_34_method_5_code 1 = .ok (.getfield 36, 3) := by decide +kernel
theorem own_d10_4 : decode prog_34_method_5_code 4 = .ok (.ireturn, 1) := by decide +kernel
theorem own_ef10 (m : MethodId) (r0 : Addr) : entryFrame m #[(.ref r0)] 1 = mkF m 0 #[.val (.ref r0)] [] := by first | (simp [entryFrame, mkF, argsToLocals, Value.category]; done) | rfl
def own_Q10 (Z : State) (r0 : Addr) (W_h : Prop) [Decidable W_h] (h0 : Heap) (n0 : Nat) (v : Option Value) (h : Heap) (L : List Loc) : Prop := (v = some (.int (own_b (W_h)))) ∧ (Fr n0 L) ∧ (h = h0)
set_option maxRecDepth 65536 in
set_option maxHeartbeats 40000000 in
theorem own_rm10 (l : Launch) (Z : State) (a0 : Array Value) (hw : ∀ d ∈ tables_1, d.before a0 Z = true) (ws : List Jvm.Cond) (r0 : Addr) (W_h : Prop) [Decidable W_h] (h0 : Heap) (n0 : Nat) (Z0 : n0 ≤ h0.size) (F_r0_holding : Fld Z h0 r0 "com/example/evenkeel/evenkeel/FullCycles" "holding" "Z" (.int (own_b W_h))) :
    MetFree l (⟨"com/example/evenkeel/evenkeel/FullCycles", "holds", "()Z"⟩ : MethodName) (head1 (Jvm.Cond.code (⟨"com/example/evenkeel/evenkeel/FullCycles", "holds", "()Z"⟩ : MethodName) prog_34_method_5_code 1 (some .boolean) :: ws) ({ frames := 0, cells := 0, slots := 0, locals := 0 } : Room)) (fun a U => a = #[(.ref r0)] ∧ Z.Warmed39 U.vm ∧ U.heap = h0) (fun _ _ _ _ _ => True) (fun _ U o U' => ∃ v L, o = .returned v ∧ own_Q10 Z r0 W_h h0 n0 v U'.heap L ∧ FrameEnd U o U' L ({ frames := 0, cells := 0, slots := 0, locals := 0 } : Room).cells ({ frames := 0, cells := 0, slots := 0, locals := 0 } : Room).slots) := by
  refine MetFree.of_bodySF (plainFor_of_name own_pn0) hisR ?_
  intro p e s m args below meth c s₁ Bd hml0 hP hK
  obtain ⟨rfl, hZ, hh⟩ := hP
  have hx := Bd.exec
  have hby := Bd.bytes
  have hml : c.maxLocals = 1 := hml0
  have hown : s.vm.findClass "com/example/evenkeel/evenkeel/FullCycles" = some m.cls := findClass_of_methodNamed Bd.named
  have hnm := (name_of_methodNamed Bd.named Bd.method).1
  have X0 : Stand p l e ({ frames := 0, cells := 0, slots := 0, locals := 0 } : Room) s m #[(.ref r0)] below meth c s₁ [] 0 0 := Stand.of_body Bd
  have e0 : s₁.heap = h0 := by rw [← hh, Bd.state]; rfl
  have N0 := Fr.nil n0
  have pre0 : ∀ t, Steps p.tables e below (s₁.setTop (mkF m 0 #[.val (.ref r0)] [])) t → Steps p.tables e below (s₁.setTop (entryFrame m #[(.ref r0)] 1)) t := fun t k => castTop (own_ef10 m r0) k
  refine own_run (own_st pre0 ?_)
  refine own_st (B := s₁.setTop (mkF m 1 #[.val (.ref r0)] [(.ref r0)])) (fun target kt => ?_) ?_
  · show Steps p.tables e below (s₁.setTop (mkF m 0 #[.val (.ref r0)] [])) target
    refine XS.aloadN X0.here hx rfl (hb hby own_d10_0) rfl rfl ?_
    exact kt
  obtain ⟨Tg1, Xg1, eg1, stg1⟩ := getF X0 hx hZ hown (host := "") (Or.inl (hw _ (List.mem_of_getElem? (i := 35) rfl))) Via.refl e0 F_r0_holding (g := (mkF m 1 #[.val (.ref r0)] [(.ref r0)])) rfl rfl (hb hby own_d10_1)
  refine own_st stg1 ?_
  obtain ⟨fs, hr, hrun, hended, hW, hsame⟩ := Xg1.leave (v := some (.int (nar .boolean (own_b W_h)))) (fun h => by rw [Bd.returns] at h; cases h)
  have hend : Steps p.tables e below (Tg1.setTop (mkF m 4 #[.val (.ref r0)] [(.int (own_b W_h))])) (Tg1.setFrames fs) := by
    exact retN Xg1 hx (t := .boolean) Bd.returns (by simp) (hb hby own_d10_4) hr
  refine own_fin hend ⟨_, hrun, hended, _, _, rfl, ?_, ⟨_, rfl⟩, hW, hsame.mono (by decide) (by decide)⟩
  show own_Q10 Z r0 W_h h0 n0 _ Tg1.heap _
  rw [eg1]
  exact ⟨(congrArg (fun z => some (Value.int z)) ((own_nar rfl).trans (own_bi ⟨fun w => w, fun w => w⟩))), N0, rfl⟩
theorem own_d7_0 : decode prog_34_method_3_code 0 = .ok (.aload_n 1, 1) := by decide +kernel
theorem own_d7_1 : decode prog_34_method_3_code 1 = .ok (.aload_n 0, 1) := by decide +kernel
theorem own_d7_2 : decode prog_34_method_3_code 2 = .ok (.getfield 13, 3) := by decide +kernel
theorem own_d7_5 : decode prog_34_method_3_code 5 = .ok (.putfield 7, 3) := by decide +kernel
theorem own_d7_8 : decode prog_34_method_3_code 8 = .ok (.aload_n 1, 1) := by decide +kernel
theorem own_d7_9 : decode prog_34_method_3_code 9 = .ok (.iload_n 2, 1) := by decide +kernel
theorem own_d7_10 : decode prog_34_method_3_code 10 = .ok (.putfield 18, 3) := by decide +kernel
theorem own_d7_13 : decode prog_34_method_3_code 13 = .ok (.return_, 1) := by decide +kernel
theorem own_ef7 (m : MethodId) (r0 : Addr) (r1 : Addr) (p2 : Int32) : entryFrame m #[(.ref r0), (.ref r1), (.int p2)] 3 = mkF m 0 #[.val (.ref r0), .val (.ref r1), .val (.int p2)] [] := by first | (simp [entryFrame, mkF, argsToLocals, Value.category]; done) | rfl
def own_Q7 (Z : State) (r0 : Addr) (r1 : Addr) (p2 : Int32) (w_p : Int64) (w_s : Int64) (w_w : Int32) (h0 : Heap) (n0 : Nat) (v : Option Value) (h : Heap) (L : List Loc) : Prop := (v = none) ∧ (Fr n0 L) ∧ (Keep h0 h [r1]) ∧ (Exa Z h r1 "com/example/evenkeel/evenkeel/CurrentValue") ∧ (Fld Z h r1 "com/example/evenkeel/evenkeel/CurrentValue" "seen" "J" (.long w_p)) ∧ (Fld Z h r1 "com/example/evenkeel/evenkeel/CurrentValue" "seenWeight" "I" (.int p2))
set_option maxRecDepth 65536 in
set_option maxHeartbeats 40000000 in
theorem own_rm7 (l : Launch) (Z : State) (a0 : Array Value) (hw : ∀ d ∈ tables_1, d.before a0 Z = true) (ws : List Jvm.Cond) (r0 : Addr) (r1 : Addr) (p2 : Int32) (w_p : Int64) (w_s : Int64) (w_w : Int32) (h0 : Heap) (n0 : Nat) (Z0 : n0 ≤ h0.size) (F_r0_picks : Fld Z h0 r0 "com/example/evenkeel/evenkeel/FullCycles" "picks" "J" (.long w_p)) (E_r1 : Exa Z h0 r1 "com/example/evenkeel/evenkeel/CurrentValue") (F_r1_seen : Fld Z h0 r1 "com/example/evenkeel/evenkeel/CurrentValue" "seen" "J" (.long w_s)) (F_r1_seenWeight : Fld Z h0 r1 "com/example/evenkeel/evenkeel/CurrentValue" "seenWeight" "I" (.int w_w)) (g_r1 : n0 ≤ r1) (ne_r0_r1 : r0 ≠ r1) :
    MetFree l (⟨"com/example/evenkeel/evenkeel/FullCycles", "tookPart", "(Lcom/example/evenkeel/evenkeel/CurrentValue;I)V"⟩ : MethodName) (head1 (Jvm.Cond.code (⟨"com/example/evenkeel/evenkeel/FullCycles", "tookPart", "(Lcom/example/evenkeel/evenkeel/CurrentValue;I)V"⟩ : MethodName) prog_34_method_3_code 3 none :: ws) ({ frames := 0, cells := 0, slots := 0, locals := 0 } : Room)) (fun a U => a = #[(.ref r0), (.ref r1), (.int p2)] ∧ Z.Warmed39 U.vm ∧ U.heap = h0) (fun _ _ _ _ _ => True) (fun _ U o U' => ∃ v L, o = .returned v ∧ own_Q7 Z r0 r1 p2 w_p w_s w_w h0 n0 v U'.heap L ∧ FrameEnd U o U' L ({ frames := 0, cells := 0, slots := 0, locals := 0 } : Room).cells ({ frames := 0, cells := 0, slots := 0, locals := 0 } : Room).slots) := by
  refine MetFree.of_bodySF (plainFor_of_name own_pn0) hisR ?_
  intro p e s m args below meth c s₁ Bd hml0 hP hK
  obtain ⟨rfl, hZ, hh⟩ := hP
  have hx := Bd.exec
  have hby := Bd.bytes
  have hml : c.maxLocals = 3 := hml0
  have hown : s.vm.findClass "com/example/evenkeel/evenkeel/FullCycles" = some m.cls := findClass_of_methodNamed Bd.named
  have hnm := (name_of_methodNamed Bd.named Bd.method).1
  have X0 : Stand p l e ({ frames := 0, cells := 0, slots := 0, locals := 0 } : Room) s m #[(.ref r0), (.ref r1), (.int p2)] below meth c s₁ [] 0 0 := Stand.of_body Bd
  have e0 : s₁.heap = h0 := by rw [← hh, Bd.state]; rfl
  have N0 := Fr.nil n0
  have pre0 : ∀ t, Steps p.tables e below (s₁.setTop (mkF m 0 #[.val (.ref r0), .val (.ref r1), .val (.int p2)] [])) t → Steps p.tables e below (s₁.setTop (entryFrame m #[(.ref r0), (.ref r1), (.int p2)] 3)) t := fun t k => castTop (own_ef7 m r0 r1 p2) k
  refine own_run (own_st pre0 ?_)
  refine own_st (B := s₁.setTop (mkF m 2 #[.val (.ref r0), .val (.ref r1), .val (.int p2)] [(.ref r0), (.ref r1)])) (fun target kt => ?_) ?_
  · show Steps p.tables e below (s₁.setTop (mkF m 0 #[.val (.ref r0), .val (.ref r1), .val (.int p2)] [])) target
    refine XS.aloadN X0.here hx rfl (hb hby own_d7_0) rfl rfl ?_
    show Steps p.tables e below (s₁.setTop (mkF m 1 #[.val (.ref r0), .val (.ref r1), .val (.int p2)] [(.ref r1)])) target
    refine XS.aloadN X0.here hx rfl (hb hby own_d7_1) rfl rfl ?_
    exact kt
  obtain ⟨Tg2, Xg2, eg2, stg2⟩ := getF X0 hx hZ hown (host := "") (Or.inl (hw _ (List.mem_of_getElem? (i := 25) rfl))) Via.refl e0 F_r0_picks (g := (mkF m 2 #[.val (.ref r0), .val (.ref r1), .val (.int p2)] [(.ref r0), (.ref r1)])) rfl rfl (hb hby own_d7_2)
  refine own_st stg2 ?_
  obtain ⟨Tg5, hg5, Xg5, eg5, Wg5, stg5⟩ := putF Xg2 hx hZ hown (host := "") (Or.inl (hw _ (List.mem_of_getElem? (i := 51) rfl))) Via.refl eg2 F_r1_seen E_r1 (Or.inl (hw _ (List.mem_of_getElem? (i := 52) rfl))) (hw _ (List.mem_of_getElem? (i := 12) rfl)) (ty := .long) (by decide) rfl rfl (g := (mkF m 5 #[.val (.ref r0), .val (.ref r1), .val (.int p2)] [(.long w_p), (.ref r1)])) rfl rfl (hb hby own_d7_5)
  refine own_st stg5 ?_
  have Ng5 := Fr.snoc Xg5 N0 g_r1
  have F := F_r0_picks.other Wg5 (Or.inl ne_r0_r1)
  have F_1 := E_r1.wr Wg5
  have F_2 := F_r1_seen.same Wg5
  have F_3 := F_r1_seenWeight.other Wg5 (Or.inr (slot_ne (Or.inl (hw _ (List.mem_of_getElem? (i := 54) rfl))) (Or.inl (hw _ (List.mem_of_getElem? (i := 52) rfl))) (by decide) (t := .int) (t' := .long) (by decide) (by decide)))
  have Zz : n0 ≤ hg5.size := Nat.le_trans Z0 (Keep.of_wr Wg5).1
  have Kc := (Keep.refl h0 [r1]).wr Wg5 (Or.inl (List.mem_of_getElem? (i := 0) rfl))
  refine own_st (B := Tg5.setTop (mkF m 10 #[.val (.ref r0), .val (.ref r1), .val (.int p2)] [(.int p2), (.ref r1)])) (fun target kt => ?_) ?_
  · show Steps p.tables e below (Tg5.setTop (mkF m 8 #[.val (.ref r0), .val (.ref r1), .val (.int p2)] [])) target
    refine XS.aloadN Xg5.here hx rfl (hb hby own_d7_8) rfl rfl ?_
    show Steps p.tables e below (Tg5.setTop (mkF m 9 #[.val (.ref r0), .val (.ref r1), .val (.int p2)] [(.ref r1)])) target
    refine XS.iloadN Xg5.here hx rfl (hb hby own_d7_9) rfl ?_
    exact kt
  obtain ⟨Tg10, hg10, Xg10, eg10, Wg10, stg10⟩ := putF Xg5 hx hZ hown (host := "") (Or.inl (hw _ (List.mem_of_getElem? (i := 53) rfl))) Via.refl eg5 F_3 F_1 (Or.inl (hw _ (List.mem_of_getElem? (i := 54) rfl))) (hw _ (List.mem_of_getElem? (i := 12) rfl)) (ty := .int) (by decide) rfl rfl (g := (mkF m 10 #[.val (.ref r0), .val (.ref r1), .val (.int p2)] [(.int p2), (.ref r1)])) rfl rfl (hb hby own_d7_10)
  refine own_st stg10 ?_
  have Ng10 := Fr.snoc Xg10 Ng5 g_r1
  have F_4 := F.other Wg10 (Or.inl ne_r0_r1)
  have F_5 := F_1.wr Wg10
  have F_6 := F_2.other Wg10 (Or.inr (slot_ne (Or.inl (hw _ (List.mem_of_getElem? (i := 52) rfl))) (Or.inl (hw _ (List.mem_of_getElem? (i := 54) rfl))) (by decide) (t := .long) (t' := .int) (by decide) (by decide)))
  have F_7 := F_3.same Wg10
  have Zz_1 : n0 ≤ hg10.size := Nat.le_trans Zz (Keep.of_wr Wg10).1
  have Kc_1 := Kc.wr Wg10 (Or.inl (List.mem_of_getElem? (i := 0) rfl))
  obtain ⟨fs, hr, hrun, hended, hW, hsame⟩ := Xg10.leave (v := none) (fun _ => rfl)
  have hend : Steps p.tables e below (Tg10.setTop (mkF m 13 #[.val (.ref r0), .val (.ref r1), .val (.int p2)] [])) (Tg10.setFrames fs) := by
    exact Xg10.returnOut hx Bd.returns (hb hby own_d7_13) hr
  refine own_fin hend ⟨_, hrun, hended, _, _, rfl, ?_, ⟨_, rfl⟩, hW, hsame.mono (by decide) (by decide)⟩
  show own_Q7 Z r0 r1 p2 w_p w_s w_w h0 n0 _ Tg10.heap _
  rw [eg10]
  exact ⟨rfl, Ng10, Kc_1, F_5, F_6, F_7⟩
theorem own_tot (a : Int64) (f : Int32) (t : Int64) (h : t = (if (f &&& (8 : Int32)) = (0 : Int32) then ((1 : Int64) + (a &&& (4611686018427387903 : Int64))) else ((1 : Int64) + (a &&& (7 : Int64))))) : 1 ≤ t.toInt := by
  have h1 := c_maskL a 4611686018427387903 62 (by decide) (by decide)
  have h3 := c_maskL a 7 3 (by decide) (by decide)
  have h2 := c_ladd 1 (a &&& 4611686018427387903)
  have h4 := c_ladd 1 (a &&& 7)
  have e1 : (1 : Int64).toInt = 1 := by decide
  have r1 := rng64 (1 + (a &&& 4611686018427387903))
  have r2 := rng64 (1 + (a &&& 7))
  rw [h1, e1] at h2
  rw [h3, e1] at h4
  by_cases hf : (f &&& (8 : Int32)) = (0 : Int32)
  · rw [if_pos hf] at h
    rw [h]
    omega
  · rw [if_neg hf] at h
    rw [h]
    omega
theorem own_lt (a t : Int64) (ht : 1 ≤ t.toInt) : ((a &&& (9223372036854775807 : Int64)) % t) < t := by
  have h1 := c_maskL a 9223372036854775807 63 (by decide) (by decide)
  have h2 : 0 ≤ (a &&& (9223372036854775807 : Int64)).toInt := by rw [h1]; omega
  rw [Int64.lt_iff_toInt_lt, Int64.toInt_mod, Int.tmod_eq_emod_of_nonneg h2]
  exact Int.emod_lt_of_pos _ (by omega)
theorem own_y1 (s t : Int64) : (s - (s - t)) + (1 : Int64) = t + (1 : Int64) := by
  apply Int64.toInt_inj.mp
  have h1 := c_lsub s t
  have h2 := c_lsub s (s - t)
  have h3 := c_ladd (s - (s - t)) 1
  have h4 := c_ladd t 1
  have r1 := rng64 (s - (s - t) + 1)
  have r2 := rng64 (t + 1)
  omega
theorem own_pd1 : parseMethodDescriptor "()V" = some ⟨[], none⟩ := by decide +kernel
theorem own_pd2 : parseMethodDescriptor "(ZZJI)Z" = some ⟨[.boolean, .boolean, .long, .int], some .boolean⟩ := by decide +kernel
theorem own_pd3 : parseMethodDescriptor "(Lcom/example/evenkeel/evenkeel/CurrentValue;I)V" = some ⟨[(.object "com/example/evenkeel/evenkeel/CurrentValue"), .int], none⟩ := by decide +kernel
theorem own_pd4 : parseMethodDescriptor "()J" = some ⟨[], some .long⟩ := by decide +kernel
theorem own_pd5 : parseMethodDescriptor "()Z" = some ⟨[], some .boolean⟩ := by decide +kernel
theorem own_pn2 : plainName "com/example/evenkeel/evenkeel/FullCyclesSkipPinLaw" = true := by first | (simp [plainName, overriddenIn]; done) | decide +kernel
theorem own_ef0 (m : MethodId) (q0 : Int64) (q1 : Int64) (q2 : Int64) (p3 : Int32) : entryFrame m #[(.long q0), (.long q1), (.long q2), (.int p3)] maxLocals = mkF m 0 #[.val (.long q0), .second, .val (.long q1), .second, .val (.long q2), .second, .val (.int p3), .unset, .unset, .unset, .unset, .unset, .unset, .unset, .unset, .unset, .unset, .unset, .unset, .unset, .unset, .unset, .unset, .unset] [] := by first | (simp [entryFrame, mkF, argsToLocals, Value.category, maxLocals]; done) | rfl
def own_Q0 (Z : State) (q0 : Int64) (q1 : Int64) (q2 : Int64) (p3 : Int32) (h0 : Heap) (n0 : Nat) (v : Option Value) (h : Heap) (L : List Loc) : Prop := (v = some (.int (1 : Int32))) ∧ (Fr n0 L)
set_option maxRecDepth 65536 in
set_option maxHeartbeats 40000000 in
theorem own_rm0 (l : Launch) (Z : State) (a0 : Array Value) (hw : ∀ d ∈ tables_1, d.before a0 Z = true) (ws : List Jvm.Cond) (q0 : Int64) (q1 : Int64) (q2 : Int64) (p3 : Int32) (h0 : Heap) (n0 : Nat) (Z0 : n0 ≤ h0.size) :
    MetFree l x (head1 (Jvm.Cond.code x code maxLocals ret :: ws) room_1) (fun a U => a = #[(.long q0), (.long q1), (.long q2), (.int p3)] ∧ Z.Warmed39 U.vm ∧ U.heap = h0) (fun _ _ _ _ _ => True) (fun _ U o U' => ∃ v L, o = .returned v ∧ own_Q0 Z q0 q1 q2 p3 h0 n0 v U'.heap L ∧ FrameEnd U o U' L room_1.cells room_1.slots) := by
  refine MetFree.of_bodySF (plainFor_of_name own_pn2) hisR ?_
  intro p e s m args below meth c s₁ Bd hml0 hP hK
  obtain ⟨rfl, hZ, hh⟩ := hP
  have hx := Bd.exec
  have hby := Bd.bytes
  have hml : c.maxLocals = 24 := hml0
  have hown : s.vm.findClass "com/example/evenkeel/evenkeel/FullCyclesSkipPinLaw" = some m.cls := findClass_of_methodNamed Bd.named
  have hnm := (name_of_methodNamed Bd.named Bd.method).1
  have X0 : Stand p l e room_1 s m #[(.long q0), (.long q1), (.long q2), (.int p3)] below meth c s₁ [] 0 0 := Stand.of_body Bd
  have e0 : s₁.heap = h0 := by rw [← hh, Bd.state]; rfl
  have N0 := Fr.nil n0
  have pre0 : ∀ t, Steps p.tables e below (s₁.setTop (mkF m 0 #[.val (.long q0), .second, .val (.long q1), .second, .val (.long q2), .second, .val (.int p3), .unset, .unset, .unset, .unset, .unset, .unset, .unset, .unset, .unset, .unset, .unset, .unset, .unset, .unset, .unset, .unset, .unset] [])) t → Steps p.tables e below (s₁.setTop (entryFrame m #[(.long q0), (.long q1), (.long q2), (.int p3)] maxLocals)) t := fun t k => castTop (own_ef0 m q0 q1 q2 p3) k
  refine own_run (own_st pre0 ?_)
  refine own_st (B := s₁.setTop (mkF m 5 #[.val (.long q0), .second, .val (.long q1), .second, .val (.long q2), .second, .val (.int p3), .unset, .unset, .unset, .unset, .unset, .unset, .unset, .unset, .unset, .unset, .unset, .unset, .unset, .unset, .unset, .unset, .unset] [(.int (p3 &&& (8 : Int32)))])) (fun target kt => ?_) ?_
  · show Steps p.tables e below (s₁.setTop (mkF m 0 #[.val (.long q0), .second, .val (.long q1), .second, .val (.long q2), .second, .val (.int p3), .unset, .unset, .unset, .unset, .unset, .unset, .unset, .unset, .unset, .unset, .unset, .unset, .unset, .unset, .unset, .unset, .unset] [])) target
    refine XS.iload X0.here hx rfl (hb hby at_0) rfl ?_
    show Steps p.tables e below (s₁.setTop (mkF m 2 #[.val (.long q0), .second, .val (.long q1), .second, .val (.long q2), .second, .val (.int p3), .unset, .unset, .unset, .unset, .unset, .unset, .unset, .unset, .unset, .unset, .unset, .unset, .unset, .unset, .unset, .unset, .unset] [(.int p3)])) target
    refine XS.bipush X0.here hx rfl (hb hby at_2) ?_
    show Steps p.tables e below (s₁.setTop (mkF m 4 #[.val (.long q0), .second, .val (.long q1), .second, .val (.long q2), .second, .val (.int p3), .unset, .unset, .unset, .unset, .unset, .unset, .unset, .unset, .unset, .unset, .unset, .unset, .unset, .unset, .unset, .unset, .unset] [(.int (8 : Int32)), (.int p3)])) target
    refine XS.iand X0.here hx rfl (hb hby at_4) rfl ?_
    exact kt
  obtain ⟨_, ⟨j25_s0, rfl, hj25_s0⟩, st_M25⟩ : own_Lead p.tables e below (s₁.setTop (mkF m 5 #[.val (.long q0), .second, .val (.long q1), .second, .val (.long q2), .second, .val (.int p3), .unset, .unset, .unset, .unset, .unset, .unset, .unset, .unset, .unset, .unset, .unset, .unset, .unset, .unset, .unset, .unset, .unset] [(.int (p3 &&& (8 : Int32)))])) (fun B => ∃ (j25_s0 : Int64), B = s₁.setTop (mkF m 25 #[.val (.long q0), .second, .val (.long q1), .second, .val (.long q2), .second, .val (.int p3), .unset, .unset, .unset, .unset, .unset, .unset, .unset, .unset, .unset, .unset, .unset, .unset, .unset, .unset, .unset, .unset, .unset] [(.long j25_s0)]) ∧ j25_s0 = (if (p3 &&& (8 : Int32)) = (0 : Int32) then ((1 : Int64) + (q0 &&& (4611686018427387903 : Int64))) else ((1 : Int64) + (q0 &&& (7 : Int64))))) := by
    by_cases c5 : (p3 &&& (8 : Int32)) = (0 : Int32)
    · refine own_st (B := s₁.setTop (mkF m 25 #[.val (.long q0), .second, .val (.long q1), .second, .val (.long q2), .second, .val (.int p3), .unset, .unset, .unset, .unset, .unset, .unset, .unset, .unset, .unset, .unset, .unset, .unset, .unset, .unset, .unset, .unset, .unset] [(.long ((1 : Int64) + (q0 &&& (4611686018427387903 : Int64))))])) (fun target kt => ?_) ?_
      · show Steps p.tables e below (s₁.setTop (mkF m 5 #[.val (.long q0), .second, .val (.long q1), .second, .val (.long q2), .second, .val (.int p3), .unset, .unset, .unset, .unset, .unset, .unset, .unset, .unset, .unset, .unset, .unset, .unset, .unset, .unset, .unset, .unset, .unset] [(.int (p3 &&& (8 : Int32)))])) target
        refine XS.ifYes X0.here hx rfl (pc0 := 5) (pc' := 18) rfl (hb hby at_5) rfl ((if0 _ _).trans (teq c5).1) (by decide) (by decide) ?_
        show Steps p.tables e below (s₁.setTop (mkF m 18 #[.val (.long q0), .second, .val (.long q1), .second, .val (.long q2), .second, .val (.int p3), .unset, .unset, .unset, .unset, .unset, .unset, .unset, .unset, .unset, .unset, .unset, .unset, .unset, .unset, .unset, .unset, .unset] [])) target
        refine XS.lconst X0.here hx rfl (hb hby at_18) ?_
        show Steps p.tables e below (s₁.setTop (mkF m 19 #[.val (.long q0), .second, .val (.long q1), .second, .val (.long q2), .second, .val (.int p3), .unset, .unset, .unset, .unset, .unset, .unset, .unset, .unset, .unset, .unset, .unset, .unset, .unset, .unset, .unset, .unset, .unset] [(.long (1 : Int64))])) target
        refine XS.lloadN X0.here hx rfl (hb hby at_19) rfl ?_
        show Steps p.tables e below (s₁.setTop (mkF m 20 #[.val (.long q0), .second, .val (.long q1), .second, .val (.long q2), .second, .val (.int p3), .unset, .unset, .unset, .unset, .unset, .unset, .unset, .unset, .unset, .unset, .unset, .unset, .unset, .unset, .unset, .unset, .unset] [(.long q0), (.long (1 : Int64))])) target
        refine X0.ldc2Long hx hown (mvT hZ (hw _ (List.mem_of_getElem? (i := 0) rfl))) (g := (mkF m 20 #[.val (.long q0), .second, .val (.long q1), .second, .val (.long q2), .second, .val (.int p3), .unset, .unset, .unset, .unset, .unset, .unset, .unset, .unset, .unset, .unset, .unset, .unset, .unset, .unset, .unset, .unset, .unset] [(.long q0), (.long (1 : Int64))])) rfl (hb hby at_20) _ ?_
        show Steps p.tables e below (s₁.setTop (mkF m 23 #[.val (.long q0), .second, .val (.long q1), .second, .val (.long q2), .second, .val (.int p3), .unset, .unset, .unset, .unset, .unset, .unset, .unset, .unset, .unset, .unset, .unset, .unset, .unset, .unset, .unset, .unset, .unset] [(.long (4611686018427387903 : Int64)), (.long q0), (.long (1 : Int64))])) target
        refine XS.land X0.here hx rfl (hb hby at_23) rfl ?_
        show Steps p.tables e below (s₁.setTop (mkF m 24 #[.val (.long q0), .second, .val (.long q1), .second, .val (.long q2), .second, .val (.int p3), .unset, .unset, .unset, .unset, .unset, .unset, .unset, .unset, .unset, .unset, .unset, .unset, .unset, .unset, .unset, .unset, .unset] [(.long (q0 &&& (4611686018427387903 : Int64))), (.long (1 : Int64))])) target
        refine XS.ladd X0.here hx rfl (hb hby at_24) rfl ?_
        exact kt
      exact ⟨_, ⟨((1 : Int64) + (q0 &&& (4611686018427387903 : Int64))), rfl, (if_pos c5).symm⟩, fun _ k => k⟩
    · refine own_st (B := s₁.setTop (mkF m 25 #[.val (.long q0), .second, .val (.long q1), .second, .val (.long q2), .second, .val (.int p3), .unset, .unset, .unset, .unset, .unset, .unset, .unset, .unset, .unset, .unset, .unset, .unset, .unset, .unset, .unset, .unset, .unset] [(.long ((1 : Int64) + (q0 &&& (7 : Int64))))])) (fun target kt => ?_) ?_
      · show Steps p.tables e below (s₁.setTop (mkF m 5 #[.val (.long q0), .second, .val (.long q1), .second, .val (.long q2), .second, .val (.int p3), .unset, .unset, .unset, .unset, .unset, .unset, .unset, .unset, .unset, .unset, .unset, .unset, .unset, .unset, .unset, .unset, .unset] [(.int (p3 &&& (8 : Int32)))])) target
        refine XS.ifNo X0.here hx rfl (hb hby at_5) rfl ((if0 _ _).trans (feq c5).1) ?_
        show Steps p.tables e below (s₁.setTop (mkF m 8 #[.val (.long q0), .second, .val (.long q1), .second, .val (.long q2), .second, .val (.int p3), .unset, .unset, .unset, .unset, .unset, .unset, .unset, .unset, .unset, .unset, .unset, .unset, .unset, .unset, .unset, .unset, .unset] [])) target
        refine XS.lconst X0.here hx rfl (hb hby at_8) ?_
        show Steps p.tables e below (s₁.setTop (mkF m 9 #[.val (.long q0), .second, .val (.long q1), .second, .val (.long q2), .second, .val (.int p3), .unset, .unset, .unset, .unset, .unset, .unset, .unset, .unset, .unset, .unset, .unset, .unset, .unset, .unset, .unset, .unset, .unset] [(.long (1 : Int64))])) target
        refine XS.lloadN X0.here hx rfl (hb hby at_9) rfl ?_
        show Steps p.tables e below (s₁.setTop (mkF m 10 #[.val (.long q0), .second, .val (.long q1), .second, .val (.long q2), .second, .val (.int p3), .unset, .unset, .unset, .unset, .unset, .unset, .unset, .unset, .unset, .unset, .unset, .unset, .unset, .unset, .unset, .unset, .unset] [(.long q0), (.long (1 : Int64))])) target
        refine X0.ldc2Long hx hown (mvT hZ (hw _ (List.mem_of_getElem? (i := 76) rfl))) (g := (mkF m 10 #[.val (.long q0), .second, .val (.long q1), .second, .val (.long q2), .second, .val (.int p3), .unset, .unset, .unset, .unset, .unset, .unset, .unset, .unset, .unset, .unset, .unset, .unset, .unset, .unset, .unset, .unset, .unset] [(.long q0), (.long (1 : Int64))])) rfl (hb hby at_10) _ ?_
        show Steps p.tables e below (s₁.setTop (mkF m 13 #[.val (.long q0), .second, .val (.long q1), .second, .val (.long q2), .second, .val (.int p3), .unset, .unset, .unset, .unset, .unset, .unset, .unset, .unset, .unset, .unset, .unset, .unset, .unset, .unset, .unset, .unset, .unset] [(.long (7 : Int64)), (.long q0), (.long (1 : Int64))])) target
        refine XS.land X0.here hx rfl (hb hby at_13) rfl ?_
        show Steps p.tables e below (s₁.setTop (mkF m 14 #[.val (.long q0), .second, .val (.long q1), .second, .val (.long q2), .second, .val (.int p3), .unset, .unset, .unset, .unset, .unset, .unset, .unset, .unset, .unset, .unset, .unset, .unset, .unset, .unset, .unset, .unset, .unset] [(.long (q0 &&& (7 : Int64))), (.long (1 : Int64))])) target
        refine XS.ladd X0.here hx rfl (hb hby at_14) rfl ?_
        show Steps p.tables e below (s₁.setTop (mkF m 15 #[.val (.long q0), .second, .val (.long q1), .second, .val (.long q2), .second, .val (.int p3), .unset, .unset, .unset, .unset, .unset, .unset, .unset, .unset, .unset, .unset, .unset, .unset, .unset, .unset, .unset, .unset, .unset] [(.long ((1 : Int64) + (q0 &&& (7 : Int64))))])) target
        refine XS.goto X0.here hx rfl (pc0 := 15) (pc' := 25) rfl (hb hby at_15) (by decide) (by decide) ?_
        exact kt
      exact ⟨_, ⟨((1 : Int64) + (q0 &&& (7 : Int64))), rfl, (if_neg c5).symm⟩, fun _ k => k⟩
  refine own_st st_M25 ?_
  refine own_st (B := s₁.setTop (mkF m 27 #[.val (.long q0), .second, .val (.long q1), .second, .val (.long q2), .second, .val (.int p3), .val (.long j25_s0), .second, .unset, .unset, .unset, .unset, .unset, .unset, .unset, .unset, .unset, .unset, .unset, .unset, .unset, .unset, .unset] [])) (fun target kt => ?_) ?_
  · show Steps p.tables e below (s₁.setTop (mkF m 25 #[.val (.long q0), .second, .val (.long q1), .second, .val (.long q2), .second, .val (.int p3), .unset, .unset, .unset, .unset, .unset, .unset, .unset, .unset, .unset, .unset, .unset, .unset, .unset, .unset, .unset, .unset, .unset] [(.long j25_s0)])) target
    refine XS.lstore X0.here hx rfl (hb hby at_25) rfl (l' := #[.val (.long q0), .second, .val (.long q1), .second, .val (.long q2), .second, .val (.int p3), .val (.long j25_s0), .second, .unset, .unset, .unset, .unset, .unset, .unset, .unset, .unset, .unset, .unset, .unset, .unset, .unset, .unset, .unset]) rfl ?_
    exact kt
  have hT := own_tot q0 p3 j25_s0 hj25_s0
  have hT0 : j25_s0 ≠ 0 := fun q => by have h := congrArg Int64.toInt q; rw [show (0 : Int64).toInt = 0 by decide] at h; omega
  obtain ⟨v35, hv35⟩ : ∃ z : Int64, z = ((q1 &&& (9223372036854775807 : Int64)) % j25_s0) := ⟨_, rfl⟩
  obtain ⟨v46, hv46⟩ : ∃ z : Int64, z = ((q2 &&& (9223372036854775807 : Int64)) % j25_s0) := ⟨_, rfl⟩
  refine own_st (B := s₁.setTop (mkF m 52 #[.val (.long q0), .second, .val (.long q1), .second, .val (.long q2), .second, .val (.int p3), .val (.long j25_s0), .second, .val (.long v35), .second, .val (.long v46), .second, .unset, .unset, .unset, .unset, .unset, .unset, .unset, .unset, .unset, .unset, .unset] [(.int (p3 &&& (4 : Int32)))])) (fun target kt => ?_) ?_
  · show Steps p.tables e below (s₁.setTop (mkF m 27 #[.val (.long q0), .second, .val (.long q1), .second, .val (.long q2), .second, .val (.int p3), .val (.long j25_s0), .second, .unset, .unset, .unset, .unset, .unset, .unset, .unset, .unset, .unset, .unset, .unset, .unset, .unset, .unset, .unset] [])) target
    refine XS.lloadN X0.here hx rfl (hb hby at_27) rfl ?_
    show Steps p.tables e below (s₁.setTop (mkF m 28 #[.val (.long q0), .second, .val (.long q1), .second, .val (.long q2), .second, .val (.int p3), .val (.long j25_s0), .second, .unset, .unset, .unset, .unset, .unset, .unset, .unset, .unset, .unset, .unset, .unset, .unset, .unset, .unset, .unset] [(.long q1)])) target
    refine X0.ldc2Long hx hown (mvT hZ (hw _ (List.mem_of_getElem? (i := 1) rfl))) (g := (mkF m 28 #[.val (.long q0), .second, .val (.long q1), .second, .val (.long q2), .second, .val (.int p3), .val (.long j25_s0), .second, .unset, .unset, .unset, .unset, .unset, .unset, .unset, .unset, .unset, .unset, .unset, .unset, .unset, .unset, .unset] [(.long q1)])) rfl (hb hby at_28) _ ?_
    show Steps p.tables e below (s₁.setTop (mkF m 31 #[.val (.long q0), .second, .val (.long q1), .second, .val (.long q2), .second, .val (.int p3), .val (.long j25_s0), .second, .unset, .unset, .unset, .unset, .unset, .unset, .unset, .unset, .unset, .unset, .unset, .unset, .unset, .unset, .unset] [(.long (9223372036854775807 : Int64)), (.long q1)])) target
    refine XS.land X0.here hx rfl (hb hby at_31) rfl ?_
    show Steps p.tables e below (s₁.setTop (mkF m 32 #[.val (.long q0), .second, .val (.long q1), .second, .val (.long q2), .second, .val (.int p3), .val (.long j25_s0), .second, .unset, .unset, .unset, .unset, .unset, .unset, .unset, .unset, .unset, .unset, .unset, .unset, .unset, .unset, .unset] [(.long (q1 &&& (9223372036854775807 : Int64)))])) target
    refine XS.lload X0.here hx rfl (hb hby at_32) rfl ?_
    show Steps p.tables e below (s₁.setTop (mkF m 34 #[.val (.long q0), .second, .val (.long q1), .second, .val (.long q2), .second, .val (.int p3), .val (.long j25_s0), .second, .unset, .unset, .unset, .unset, .unset, .unset, .unset, .unset, .unset, .unset, .unset, .unset, .unset, .unset, .unset] [(.long j25_s0), (.long (q1 &&& (9223372036854775807 : Int64)))])) target
    refine own_lremM X0 hx rfl (hb hby at_34) rfl hT0 ?_
    show Steps p.tables e below (s₁.setTop (mkF m 35 #[.val (.long q0), .second, .val (.long q1), .second, .val (.long q2), .second, .val (.int p3), .val (.long j25_s0), .second, .unset, .unset, .unset, .unset, .unset, .unset, .unset, .unset, .unset, .unset, .unset, .unset, .unset, .unset, .unset] [(.long ((q1 &&& (9223372036854775807 : Int64)) % j25_s0))])) target
    refine XS.lstore X0.here hx rfl (hb hby at_35) rfl (l' := #[.val (.long q0), .second, .val (.long q1), .second, .val (.long q2), .second, .val (.int p3), .val (.long j25_s0), .second, .val (.long v35), .second, .unset, .unset, .unset, .unset, .unset, .unset, .unset, .unset, .unset, .unset, .unset, .unset, .unset]) (by subst hv35; rfl) ?_
    show Steps p.tables e below (s₁.setTop (mkF m 37 #[.val (.long q0), .second, .val (.long q1), .second, .val (.long q2), .second, .val (.int p3), .val (.long j25_s0), .second, .val (.long v35), .second, .unset, .unset, .unset, .unset, .unset, .unset, .unset, .unset, .unset, .unset, .unset, .unset, .unset] [])) target
    refine XS.lload X0.here hx rfl (hb hby at_37) rfl ?_
    show Steps p.tables e below (s₁.setTop (mkF m 39 #[.val (.long q0), .second, .val (.long q1), .second, .val (.long q2), .second, .val (.int p3), .val (.long j25_s0), .second, .val (.long v35), .second, .unset, .unset, .unset, .unset, .unset, .unset, .unset, .unset, .unset, .unset, .unset, .unset, .unset] [(.long q2)])) target
    refine X0.ldc2Long hx hown (mvT hZ (hw _ (List.mem_of_getElem? (i := 1) rfl))) (g := (mkF m 39 #[.val (.long q0), .second, .val (.long q1), .second, .val (.long q2), .second, .val (.int p3), .val (.long j25_s0), .second, .val (.long v35), .second, .unset, .unset, .unset, .unset, .unset, .unset, .unset, .unset, .unset, .unset, .unset, .unset, .unset] [(.long q2)])) rfl (hb hby at_39) _ ?_
    show Steps p.tables e below (s₁.setTop (mkF m 42 #[.val (.long q0), .second, .val (.long q1), .second, .val (.long q2), .second, .val (.int p3), .val (.long j25_s0), .second, .val (.long v35), .second, .unset, .unset, .unset, .unset, .unset, .unset, .unset, .unset, .unset, .unset, .unset, .unset, .unset] [(.long (9223372036854775807 : Int64)), (.long q2)])) target
    refine XS.land X0.here hx rfl (hb hby at_42) rfl ?_
    show Steps p.tables e below (s₁.setTop (mkF m 43 #[.val (.long q0), .second, .val (.long q1), .second, .val (.long q2), .second, .val (.int p3), .val (.long j25_s0), .second, .val (.long v35), .second, .unset, .unset, .unset, .unset, .unset, .unset, .unset, .unset, .unset, .unset, .unset, .unset, .unset] [(.long (q2 &&& (9223372036854775807 : Int64)))])) target
    refine XS.lload X0.here hx rfl (hb hby at_43) rfl ?_
    show Steps p.tables e below (s₁.setTop (mkF m 45 #[.val (.long q0), .second, .val (.long q1), .second, .val (.long q2), .second, .val (.int p3), .val (.long j25_s0), .second, .val (.long v35), .second, .unset, .unset, .unset, .unset, .unset, .unset, .unset, .unset, .unset, .unset, .unset, .unset, .unset] [(.long j25_s0), (.long (q2 &&& (9223372036854775807 : Int64)))])) target
    refine own_lremM X0 hx rfl (hb hby at_45) rfl hT0 ?_
    show Steps p.tables e below (s₁.setTop (mkF m 46 #[.val (.long q0), .second, .val (.long q1), .second, .val (.long q2), .second, .val (.int p3), .val (.long j25_s0), .second, .val (.long v35), .second, .unset, .unset, .unset, .unset, .unset, .unset, .unset, .unset, .unset, .unset, .unset, .unset, .unset] [(.long ((q2 &&& (9223372036854775807 : Int64)) % j25_s0))])) target
    refine XS.lstore X0.here hx rfl (hb hby at_46) rfl (l' := #[.val (.long q0), .second, .val (.long q1), .second, .val (.long q2), .second, .val (.int p3), .val (.long j25_s0), .second, .val (.long v35), .second, .val (.long v46), .second, .unset, .unset, .unset, .unset, .unset, .unset, .unset, .unset, .unset, .unset, .unset]) (by subst hv46; rfl) ?_
    show Steps p.tables e below (s₁.setTop (mkF m 48 #[.val (.long q0), .second, .val (.long q1), .second, .val (.long q2), .second, .val (.int p3), .val (.long j25_s0), .second, .val (.long v35), .second, .val (.long v46), .second, .unset, .unset, .unset, .unset, .unset, .unset, .unset, .unset, .unset, .unset, .unset] [])) target
    refine XS.iload X0.here hx rfl (hb hby at_48) rfl ?_
    show Steps p.tables e below (s₁.setTop (mkF m 50 #[.val (.long q0), .second, .val (.long q1), .second, .val (.long q2), .second, .val (.int p3), .val (.long j25_s0), .second, .val (.long v35), .second, .val (.long v46), .second, .unset, .unset, .unset, .unset, .unset, .unset, .unset, .unset, .unset, .unset, .unset] [(.int p3)])) target
    refine XS.iconst X0.here hx rfl (hb hby at_50) ?_
    show Steps p.tables e below (s₁.setTop (mkF m 51 #[.val (.long q0), .second, .val (.long q1), .second, .val (.long q2), .second, .val (.int p3), .val (.long j25_s0), .second, .val (.long v35), .second, .val (.long v46), .second, .unset, .unset, .unset, .unset, .unset, .unset, .unset, .unset, .unset, .unset, .unset] [(.int (4 : Int32)), (.int p3)])) target
    refine XS.iand X0.here hx rfl (hb hby at_51) rfl ?_
    exact kt
  obtain ⟨_, ⟨j60_s0, rfl, rfl⟩, st_M60⟩ : own_Lead p.tables e below (s₁.setTop (mkF m 52 #[.val (.long q0), .second, .val (.long q1), .second, .val (.long q2), .second, .val (.int p3), .val (.long j25_s0), .second, .val (.long v35), .second, .val (.long v46), .second, .unset, .unset, .unset, .unset, .unset, .unset, .unset, .unset, .unset, .unset, .unset] [(.int (p3 &&& (4 : Int32)))])) (fun B => ∃ (j60_s0 : Int32), B = s₁.setTop (mkF m 60 #[.val (.long q0), .second, .val (.long q1), .second, .val (.long q2), .second, .val (.int p3), .val (.long j25_s0), .second, .val (.long v35), .second, .val (.long v46), .second, .unset, .unset, .unset, .unset, .unset, .unset, .unset, .unset, .unset, .unset, .unset] [(.int j60_s0)]) ∧ j60_s0 = own_b (¬ ((p3 &&& (4 : Int32)) = (0 : Int32)))) := by
    by_cases c52 : (p3 &&& (4 : Int32)) = (0 : Int32)
    · refine own_st (B := s₁.setTop (mkF m 60 #[.val (.long q0), .second, .val (.long q1), .second, .val (.long q2), .second, .val (.int p3), .val (.long j25_s0), .second, .val (.long v35), .second, .val (.long v46), .second, .unset, .unset, .unset, .unset, .unset, .unset, .unset, .unset, .unset, .unset, .unset] [(.int (0 : Int32))])) (fun target kt => ?_) ?_
      · show Steps p.tables e below (s₁.setTop (mkF m 52 #[.val (.long q0), .second, .val (.long q1), .second, .val (.long q2), .second, .val (.int p3), .val (.long j25_s0), .second, .val (.long v35), .second, .val (.long v46), .second, .unset, .unset, .unset, .unset, .unset, .unset, .unset, .unset, .unset, .unset, .unset] [(.int (p3 &&& (4 : Int32)))])) target
        refine XS.ifYes X0.here hx rfl (pc0 := 52) (pc' := 59) rfl (hb hby at_52) rfl ((if0 _ _).trans (teq c52).1) (by decide) (by decide) ?_
        show Steps p.tables e below (s₁.setTop (mkF m 59 #[.val (.long q0), .second, .val (.long q1), .second, .val (.long q2), .second, .val (.int p3), .val (.long j25_s0), .second, .val (.long v35), .second, .val (.long v46), .second, .unset, .unset, .unset, .unset, .unset, .unset, .unset, .unset, .unset, .unset, .unset] [])) target
        refine XS.iconst X0.here hx rfl (hb hby at_59) ?_
        exact kt
      exact ⟨_, ⟨(0 : Int32), rfl, (own_b0 (fun w => w c52)).symm⟩, fun _ k => k⟩
    · refine own_st (B := s₁.setTop (mkF m 60 #[.val (.long q0), .second, .val (.long q1), .second, .val (.long q2), .second, .val (.int p3), .val (.long j25_s0), .second, .val (.long v35), .second, .val (.long v46), .second, .unset, .unset, .unset, .unset, .unset, .unset, .unset, .unset, .unset, .unset, .unset] [(.int (1 : Int32))])) (fun target kt => ?_) ?_
      · show Steps p.tables e below (s₁.setTop (mkF m 52 #[.val (.long q0), .second, .val (.long q1), .second, .val (.long q2), .second, .val (.int p3), .val (.long j25_s0), .second, .val (.long v35), .second, .val (.long v46), .second, .unset, .unset, .unset, .unset, .unset, .unset, .unset, .unset, .unset, .unset, .unset] [(.int (p3 &&& (4 : Int32)))])) target
        refine XS.ifNo X0.here hx rfl (hb hby at_52) rfl ((if0 _ _).trans (feq c52).1) ?_
        show Steps p.tables e below (s₁.setTop (mkF m 55 #[.val (.long q0), .second, .val (.long q1), .second, .val (.long q2), .second, .val (.int p3), .val (.long j25_s0), .second, .val (.long v35), .second, .val (.long v46), .second, .unset, .unset, .unset, .unset, .unset, .unset, .unset, .unset, .unset, .unset, .unset] [])) target
        refine XS.iconst X0.here hx rfl (hb hby at_55) ?_
        show Steps p.tables e below (s₁.setTop (mkF m 56 #[.val (.long q0), .second, .val (.long q1), .second, .val (.long q2), .second, .val (.int p3), .val (.long j25_s0), .second, .val (.long v35), .second, .val (.long v46), .second, .unset, .unset, .unset, .unset, .unset, .unset, .unset, .unset, .unset, .unset, .unset] [(.int (1 : Int32))])) target
        refine XS.goto X0.here hx rfl (pc0 := 56) (pc' := 60) rfl (hb hby at_56) (by decide) (by decide) ?_
        exact kt
      exact ⟨_, ⟨(1 : Int32), rfl, (own_b1 c52).symm⟩, fun _ k => k⟩
  refine own_st st_M60 ?_
  refine own_st (B := s₁.setTop (mkF m 62 #[.val (.long q0), .second, .val (.long q1), .second, .val (.long q2), .second, .val (.int p3), .val (.long j25_s0), .second, .val (.long v35), .second, .val (.long v46), .second, .val (.int (own_b (¬ ((p3 &&& (4 : Int32)) = (0 : Int32))))), .unset, .unset, .unset, .unset, .unset, .unset, .unset, .unset, .unset, .unset] [])) (fun target kt => ?_) ?_
  · show Steps p.tables e below (s₁.setTop (mkF m 60 #[.val (.long q0), .second, .val (.long q1), .second, .val (.long q2), .second, .val (.int p3), .val (.long j25_s0), .second, .val (.long v35), .second, .val (.long v46), .second, .unset, .unset, .unset, .unset, .unset, .unset, .unset, .unset, .unset, .unset, .unset] [(.int (own_b (¬ ((p3 &&& (4 : Int32)) = (0 : Int32)))))])) target
    refine XS.istore X0.here hx rfl (hb hby at_60) rfl (l' := #[.val (.long q0), .second, .val (.long q1), .second, .val (.long q2), .second, .val (.int p3), .val (.long j25_s0), .second, .val (.long v35), .second, .val (.long v46), .second, .val (.int (own_b (¬ ((p3 &&& (4 : Int32)) = (0 : Int32))))), .unset, .unset, .unset, .unset, .unset, .unset, .unset, .unset, .unset, .unset]) rfl ?_
    exact kt
  obtain ⟨Tg62, hg62, Xg62, eg62, Eg62, Ag62, Dg62, -, stg62⟩ := newO X0 hx hZ hown (hw _ (List.mem_of_getElem? (i := 2) rfl)) (hw _ (List.mem_of_getElem? (i := 3) rfl)) (hw _ (List.mem_of_getElem? (i := 4) rfl)) e0 (g := (mkF m 62 #[.val (.long q0), .second, .val (.long q1), .second, .val (.long q2), .second, .val (.int p3), .val (.long j25_s0), .second, .val (.long v35), .second, .val (.long v46), .second, .val (.int (own_b (¬ ((p3 &&& (4 : Int32)) = (0 : Int32))))), .unset, .unset, .unset, .unset, .unset, .unset, .unset, .unset, .unset, .unset] [])) rfl (hb hby at_62) (by decide) (by decide)
  obtain ⟨b62, gg62⟩ : ∃ z, z = h0.size := ⟨_, rfl⟩
  rw [← gg62] at Ag62 Dg62 stg62
  refine own_st stg62 ?_
  have g_b62 : n0 ≤ b62 := Nat.le_trans Z0 (Nat.le_of_eq gg62.symm)
  have Zz : n0 ≤ hg62.size := Nat.le_trans Z0 Eg62.1
  have F : Fld Z hg62 b62 "com/example/evenkeel/evenkeel/FullCycles" "steady" "Z" (.int (0 : Int32)) := Dg62 (Or.inl (hw _ (List.mem_of_getElem? (i := 24) rfl))) (ty := .boolean) (by decide)
  have F_1 : Fld Z hg62 b62 "com/example/evenkeel/evenkeel/FullCycles" "picks" "J" (.long (0 : Int64)) := Dg62 (Or.inl (hw _ (List.mem_of_getElem? (i := 26) rfl))) (ty := .long) (by decide)
  have F_2 : Fld Z hg62 b62 "com/example/evenkeel/evenkeel/FullCycles" "began" "J" (.long (0 : Int64)) := Dg62 (Or.inl (hw _ (List.mem_of_getElem? (i := 32) rfl))) (ty := .long) (by decide)
  have F_3 : Fld Z hg62 b62 "com/example/evenkeel/evenkeel/FullCycles" "made" "J" (.long (0 : Int64)) := Dg62 (Or.inl (hw _ (List.mem_of_getElem? (i := 34) rfl))) (ty := .long) (by decide)
  have F_4 : Fld Z hg62 b62 "com/example/evenkeel/evenkeel/FullCycles" "holding" "Z" (.int (0 : Int32)) := Dg62 (Or.inl (hw _ (List.mem_of_getElem? (i := 36) rfl))) (ty := .boolean) (by decide)
  have F_5 : Fld Z hg62 b62 "com/example/evenkeel/evenkeel/FullCycles" "total" "J" (.long (0 : Int64)) := Dg62 (Or.inl (hw _ (List.mem_of_getElem? (i := 38) rfl))) (ty := .long) (by decide)
  have F_6 : Fld Z hg62 b62 "com/example/evenkeel/evenkeel/FullCycles" "taking" "I" (.int (0 : Int32)) := Dg62 (Or.inl (hw _ (List.mem_of_getElem? (i := 40) rfl))) (ty := .int) (by decide)
  refine own_st (B := Tg62.setTop (mkF m 66 #[.val (.long q0), .second, .val (.long q1), .second, .val (.long q2), .second, .val (.int p3), .val (.long j25_s0), .second, .val (.long v35), .second, .val (.long v46), .second, .val (.int (own_b (¬ ((p3 &&& (4 : Int32)) = (0 : Int32))))), .unset, .unset, .unset, .unset, .unset, .unset, .unset, .unset, .unset, .unset] [(.ref b62), (.ref b62)])) (fun target kt => ?_) ?_
  · show Steps p.tables e below (Tg62.setTop (mkF m 65 #[.val (.long q0), .second, .val (.long q1), .second, .val (.long q2), .second, .val (.int p3), .val (.long j25_s0), .second, .val (.long v35), .second, .val (.long v46), .second, .val (.int (own_b (¬ ((p3 &&& (4 : Int32)) = (0 : Int32))))), .unset, .unset, .unset, .unset, .unset, .unset, .unset, .unset, .unset, .unset] [(.ref b62)])) target
    refine XS.dup Xg62.here hx rfl (hb hby at_65) rfl rfl ?_
    exact kt
  obtain ⟨_, _, ⟨Tg66, Lg66, kg66, ng66⟩, -, Xg66, ⟨Lcg66, hQg66, lg66, yg66, zg66⟩, stg66⟩ := Xg62.specialBack hx (y := (⟨"com/example/evenkeel/evenkeel/FullCycles", "<init>", "()V"⟩ : MethodName)) rfl hown (mvT hZ (hw _ (List.mem_of_getElem? (i := 5) rfl))) (mvT hZ (hw _ (List.mem_of_getElem? (i := 6) rfl))) (mvT hZ (hw _ (List.mem_of_getElem? (i := 7) rfl))) (by decide) (backOf (W := 1) (own_rm1 l Z a0 hw [] b62 hg62 n0 Zz) hZ (hw _ (List.mem_of_getElem? (i := 7) rfl)) (hw _ (List.mem_of_getElem? (i := 4) rfl)) (by decide) (by decide)) (g := (mkF m 66 #[.val (.long q0), .second, .val (.long q1), .second, .val (.long q2), .second, .val (.int p3), .val (.long j25_s0), .second, .val (.long v35), .second, .val (.long v46), .second, .val (.int (own_b (¬ ((p3 &&& (4 : Int32)) = (0 : Int32))))), .unset, .unset, .unset, .unset, .unset, .unset, .unset, .unset, .unset, .unset] [(.ref b62), (.ref b62)])) rfl (by rw [hml]; rfl) (Steps.refl _) (a := b62) (argsL := []) (rest := [(.ref b62)]) (lenOf own_pd1 rfl) rfl (by show 2 * 0 + _ ≤ _; exact Nat.le_of_eq rfl) (hb hby at_66) (fun _ _ => ⟨rfl, eg62, (by decide : 1 + 0 ≤ _), (by decide : 7 + 0 ≤ _)⟩)
  dsimp only [Pt.U, Pt.locs, Pt.cells, Pt.slots] at Xg66 lg66 yg66 zg66 stg66 hQg66
  subst lg66 yg66 zg66
  obtain ⟨rfl, Ng66q, eg66⟩ := hQg66
  have Ng66 := Fr.app N0 Ng66q
  refine own_st (fun _ k => stg66.trans k) ?_
  refine own_st (B := Tg66.setTop (mkF m 71 #[.val (.long q0), .second, .val (.long q1), .second, .val (.long q2), .second, .val (.int p3), .val (.long j25_s0), .second, .val (.long v35), .second, .val (.long v46), .second, .val (.int (own_b (¬ ((p3 &&& (4 : Int32)) = (0 : Int32))))), .val (.ref b62), .unset, .unset, .unset, .unset, .unset, .unset, .unset, .unset, .unset] [])) (fun target kt => ?_) ?_
  · show Steps p.tables e below (Tg66.setTop (mkF m 69 #[.val (.long q0), .second, .val (.long q1), .second, .val (.long q2), .second, .val (.int p3), .val (.long j25_s0), .second, .val (.long v35), .second, .val (.long v46), .second, .val (.int (own_b (¬ ((p3 &&& (4 : Int32)) = (0 : Int32))))), .unset, .unset, .unset, .unset, .unset, .unset, .unset, .unset, .unset, .unset] [(.ref b62)])) target
    refine XS.astore Xg66.here hx rfl (hb hby at_69) rfl rfl (l' := #[.val (.long q0), .second, .val (.long q1), .second, .val (.long q2), .second, .val (.int p3), .val (.long j25_s0), .second, .val (.long v35), .second, .val (.long v46), .second, .val (.int (own_b (¬ ((p3 &&& (4 : Int32)) = (0 : Int32))))), .val (.ref b62), .unset, .unset, .unset, .unset, .unset, .unset, .unset, .unset, .unset]) rfl ?_
    exact kt
  obtain ⟨Tg71, hg71, Xg71, eg71, Eg71, Ag71, Dg71, -, stg71⟩ := newO Xg66 hx hZ hown (hw _ (List.mem_of_getElem? (i := 11) rfl)) (hw _ (List.mem_of_getElem? (i := 12) rfl)) (hw _ (List.mem_of_getElem? (i := 13) rfl)) eg66 (g := (mkF m 71 #[.val (.long q0), .second, .val (.long q1), .second, .val (.long q2), .second, .val (.int p3), .val (.long j25_s0), .second, .val (.long v35), .second, .val (.long v46), .second, .val (.int (own_b (¬ ((p3 &&& (4 : Int32)) = (0 : Int32))))), .val (.ref b62), .unset, .unset, .unset, .unset, .unset, .unset, .unset, .unset, .unset] [])) rfl (hb hby at_71) (by decide) (by decide)
  obtain ⟨b71, gg71⟩ : ∃ z, z = hg62.size := ⟨_, rfl⟩
  rw [← gg71] at Ag71 Dg71 stg71
  refine own_st stg71 ?_
  have ne_b62_b71 : b62 ≠ b71 := Nat.ne_of_lt (Nat.lt_of_lt_of_le Ag62.lt (Nat.le_of_eq gg71.symm))
  have g_b71 : n0 ≤ b71 := Nat.le_trans Zz (Nat.le_of_eq gg71.symm)
  have F_7 := Ag62.ext Eg71
  have F_8 := F.ext Eg71
  have F_9 := F_1.ext Eg71
  have F_10 := F_2.ext Eg71
  have F_11 := F_3.ext Eg71
  have F_12 := F_4.ext Eg71
  have F_13 := F_5.ext Eg71
  have F_14 := F_6.ext Eg71
  have Zz_1 : n0 ≤ hg71.size := Nat.le_trans Zz Eg71.1
  have F_15 : Fld Z hg71 b71 "com/example/evenkeel/evenkeel/CurrentValue" "seen" "J" (.long (0 : Int64)) := Dg71 (Or.inl (hw _ (List.mem_of_getElem? (i := 52) rfl))) (ty := .long) (by decide)
  have F_16 : Fld Z hg71 b71 "com/example/evenkeel/evenkeel/CurrentValue" "seenWeight" "I" (.int (0 : Int32)) := Dg71 (Or.inl (hw _ (List.mem_of_getElem? (i := 54) rfl))) (ty := .int) (by decide)
  refine own_st (B := Tg71.setTop (mkF m 75 #[.val (.long q0), .second, .val (.long q1), .second, .val (.long q2), .second, .val (.int p3), .val (.long j25_s0), .second, .val (.long v35), .second, .val (.long v46), .second, .val (.int (own_b (¬ ((p3 &&& (4 : Int32)) = (0 : Int32))))), .val (.ref b62), .unset, .unset, .unset, .unset, .unset, .unset, .unset, .unset, .unset] [(.ref b71), (.ref b71)])) (fun target kt => ?_) ?_
  · show Steps p.tables e below (Tg71.setTop (mkF m 74 #[.val (.long q0), .second, .val (.long q1), .second, .val (.long q2), .second, .val (.int p3), .val (.long j25_s0), .second, .val (.long v35), .second, .val (.long v46), .second, .val (.int (own_b (¬ ((p3 &&& (4 : Int32)) = (0 : Int32))))), .val (.ref b62), .unset, .unset, .unset, .unset, .unset, .unset, .unset, .unset, .unset] [(.ref b71)])) target
    refine XS.dup Xg71.here hx rfl (hb hby at_74) rfl rfl ?_
    exact kt
  obtain ⟨_, _, ⟨Tg75, Lg75, kg75, ng75⟩, -, Xg75, ⟨Lcg75, hQg75, lg75, yg75, zg75⟩, stg75⟩ := Xg71.specialBack hx (y := (⟨"com/example/evenkeel/evenkeel/CurrentValue", "<init>", "()V"⟩ : MethodName)) rfl hown (mvT hZ (hw _ (List.mem_of_getElem? (i := 14) rfl))) (mvT hZ (hw _ (List.mem_of_getElem? (i := 15) rfl))) (mvT hZ (hw _ (List.mem_of_getElem? (i := 16) rfl))) (by decide) (backOf (W := 1) (own_rm3 l Z a0 hw [] b71 hg71 n0 Zz_1) hZ (hw _ (List.mem_of_getElem? (i := 16) rfl)) (hw _ (List.mem_of_getElem? (i := 13) rfl)) (by decide) (by decide)) (g := (mkF m 75 #[.val (.long q0), .second, .val (.long q1), .second, .val (.long q2), .second, .val (.int p3), .val (.long j25_s0), .second, .val (.long v35), .second, .val (.long v46), .second, .val (.int (own_b (¬ ((p3 &&& (4 : Int32)) = (0 : Int32))))), .val (.ref b62), .unset, .unset, .unset, .unset, .unset, .unset, .unset, .unset, .unset] [(.ref b71), (.ref b71)])) rfl (by rw [hml]; rfl) (Steps.refl _) (a := b71) (argsL := []) (rest := [(.ref b71)]) (lenOf own_pd1 rfl) rfl (by show 2 * 0 + _ ≤ _; exact Nat.le_of_eq rfl) (hb hby at_75) (fun _ _ => ⟨rfl, eg71, (by decide : 2 + 0 ≤ _), (by decide : 13 + 0 ≤ _)⟩)
  dsimp only [Pt.U, Pt.locs, Pt.cells, Pt.slots] at Xg75 lg75 yg75 zg75 stg75 hQg75
  subst lg75 yg75 zg75
  obtain ⟨rfl, Ng75q, eg75⟩ := hQg75
  have Ng75 := Fr.app Ng66 Ng75q
  refine own_st (fun _ k => stg75.trans k) ?_
  refine own_st (B := Tg75.setTop (mkF m 86 #[.val (.long q0), .second, .val (.long q1), .second, .val (.long q2), .second, .val (.int p3), .val (.long j25_s0), .second, .val (.long v35), .second, .val (.long v46), .second, .val (.int (own_b (¬ ((p3 &&& (4 : Int32)) = (0 : Int32))))), .val (.ref b62), .val (.ref b71), .unset, .unset, .unset, .unset, .unset, .unset, .unset, .unset] [(.int (p3 &&& (1 : Int32))), (.ref b62)])) (fun target kt => ?_) ?_
  · show Steps p.tables e below (Tg75.setTop (mkF m 78 #[.val (.long q0), .second, .val (.long q1), .second, .val (.long q2), .second, .val (.int p3), .val (.long j25_s0), .second, .val (.long v35), .second, .val (.long v46), .second, .val (.int (own_b (¬ ((p3 &&& (4 : Int32)) = (0 : Int32))))), .val (.ref b62), .unset, .unset, .unset, .unset, .unset, .unset, .unset, .unset, .unset] [(.ref b71)])) target
    refine XS.astore Xg75.here hx rfl (hb hby at_78) rfl rfl (l' := #[.val (.long q0), .second, .val (.long q1), .second, .val (.long q2), .second, .val (.int p3), .val (.long j25_s0), .second, .val (.long v35), .second, .val (.long v46), .second, .val (.int (own_b (¬ ((p3 &&& (4 : Int32)) = (0 : Int32))))), .val (.ref b62), .val (.ref b71), .unset, .unset, .unset, .unset, .unset, .unset, .unset, .unset]) rfl ?_
    show Steps p.tables e below (Tg75.setTop (mkF m 80 #[.val (.long q0), .second, .val (.long q1), .second, .val (.long q2), .second, .val (.int p3), .val (.long j25_s0), .second, .val (.long v35), .second, .val (.long v46), .second, .val (.int (own_b (¬ ((p3 &&& (4 : Int32)) = (0 : Int32))))), .val (.ref b62), .val (.ref b71), .unset, .unset, .unset, .unset, .unset, .unset, .unset, .unset] [])) target
    refine XS.aload Xg75.here hx rfl (hb hby at_80) rfl rfl ?_
    show Steps p.tables e below (Tg75.setTop (mkF m 82 #[.val (.long q0), .second, .val (.long q1), .second, .val (.long q2), .second, .val (.int p3), .val (.long j25_s0), .second, .val (.long v35), .second, .val (.long v46), .second, .val (.int (own_b (¬ ((p3 &&& (4 : Int32)) = (0 : Int32))))), .val (.ref b62), .val (.ref b71), .unset, .unset, .unset, .unset, .unset, .unset, .unset, .unset] [(.ref b62)])) target
    refine XS.iload Xg75.here hx rfl (hb hby at_82) rfl ?_
    show Steps p.tables e below (Tg75.setTop (mkF m 84 #[.val (.long q0), .second, .val (.long q1), .second, .val (.long q2), .second, .val (.int p3), .val (.long j25_s0), .second, .val (.long v35), .second, .val (.long v46), .second, .val (.int (own_b (¬ ((p3 &&& (4 : Int32)) = (0 : Int32))))), .val (.ref b62), .val (.ref b71), .unset, .unset, .unset, .unset, .unset, .unset, .unset, .unset] [(.int p3), (.ref b62)])) target
    refine XS.iconst Xg75.here hx rfl (hb hby at_84) ?_
    show Steps p.tables e below (Tg75.setTop (mkF m 85 #[.val (.long q0), .second, .val (.long q1), .second, .val (.long q2), .second, .val (.int p3), .val (.long j25_s0), .second, .val (.long v35), .second, .val (.long v46), .second, .val (.int (own_b (¬ ((p3 &&& (4 : Int32)) = (0 : Int32))))), .val (.ref b62), .val (.ref b71), .unset, .unset, .unset, .unset, .unset, .unset, .unset, .unset] [(.int (1 : Int32)), (.int p3), (.ref b62)])) target
    refine XS.iand Xg75.here hx rfl (hb hby at_85) rfl ?_
    exact kt
  obtain ⟨_, ⟨j94_s0, rfl, rfl⟩, st_M94⟩ : own_Lead p.tables e below (Tg75.setTop (mkF m 86 #[.val (.long q0), .second, .val (.long q1), .second, .val (.long q2), .second, .val (.int p3), .val (.long j25_s0), .second, .val (.long v35), .second, .val (.long v46), .second, .val (.int (own_b (¬ ((p3 &&& (4 : Int32)) = (0 : Int32))))), .val (.ref b62), .val (.ref b71), .unset, .unset, .unset, .unset, .unset, .unset, .unset, .unset] [(.int (p3 &&& (1 : Int32))), (.ref b62)])) (fun B => ∃ (j94_s0 : Int32), B = Tg75.setTop (mkF m 94 #[.val (.long q0), .second, .val (.long q1), .second, .val (.long q2), .second, .val (.int p3), .val (.long j25_s0), .second, .val (.long v35), .second, .val (.long v46), .second, .val (.int (own_b (¬ ((p3 &&& (4 : Int32)) = (0 : Int32))))), .val (.ref b62), .val (.ref b71), .unset, .unset, .unset, .unset, .unset, .unset, .unset, .unset] [(.int j94_s0), (.ref b62)]) ∧ j94_s0 = own_b (¬ ((p3 &&& (1 : Int32)) = (0 : Int32)))) := by
    by_cases c86 : (p3 &&& (1 : Int32)) = (0 : Int32)
    · refine own_st (B := Tg75.setTop (mkF m 94 #[.val (.long q0), .second, .val (.long q1), .second, .val (.long q2), .second, .val (.int p3), .val (.long j25_s0), .second, .val (.long v35), .second, .val (.long v46), .second, .val (.int (own_b (¬ ((p3 &&& (4 : Int32)) = (0 : Int32))))), .val (.ref b62), .val (.ref b71), .unset, .unset, .unset, .unset, .unset, .unset, .unset, .unset] [(.int (0 : Int32)), (.ref b62)])) (fun target kt => ?_) ?_
      · show Steps p.tables e below (Tg75.setTop (mkF m 86 #[.val (.long q0), .second, .val (.long q1), .second, .val (.long q2), .second, .val (.int p3), .val (.long j25_s0), .second, .val (.long v35), .second, .val (.long v46), .second, .val (.int (own_b (¬ ((p3 &&& (4 : Int32)) = (0 : Int32))))), .val (.ref b62), .val (.ref b71), .unset, .unset, .unset, .unset, .unset, .unset, .unset, .unset] [(.int (p3 &&& (1 : Int32))), (.ref b62)])) target
        refine XS.ifYes Xg75.here hx rfl (pc0 := 86) (pc' := 93) rfl (hb hby at_86) rfl ((if0 _ _).trans (teq c86).1) (by decide) (by decide) ?_
        show Steps p.tables e below (Tg75.setTop (mkF m 93 #[.val (.long q0), .second, .val (.long q1), .second, .val (.long q2), .second, .val (.int p3), .val (.long j25_s0), .second, .val (.long v35), .second, .val (.long v46), .second, .val (.int (own_b (¬ ((p3 &&& (4 : Int32)) = (0 : Int32))))), .val (.ref b62), .val (.ref b71), .unset, .unset, .unset, .unset, .unset, .unset, .unset, .unset] [(.ref b62)])) target
        refine XS.iconst Xg75.here hx rfl (hb hby at_93) ?_
        exact kt
      exact ⟨_, ⟨(0 : Int32), rfl, (own_b0 (fun w => w c86)).symm⟩, fun _ k => k⟩
    · refine own_st (B := Tg75.setTop (mkF m 94 #[.val (.long q0), .second, .val (.long q1), .second, .val (.long q2), .second, .val (.int p3), .val (.long j25_s0), .second, .val (.long v35), .second, .val (.long v46), .second, .val (.int (own_b (¬ ((p3 &&& (4 : Int32)) = (0 : Int32))))), .val (.ref b62), .val (.ref b71), .unset, .unset, .unset, .unset, .unset, .unset, .unset, .unset] [(.int (1 : Int32)), (.ref b62)])) (fun target kt => ?_) ?_
      · show Steps p.tables e below (Tg75.setTop (mkF m 86 #[.val (.long q0), .second, .val (.long q1), .second, .val (.long q2), .second, .val (.int p3), .val (.long j25_s0), .second, .val (.long v35), .second, .val (.long v46), .second, .val (.int (own_b (¬ ((p3 &&& (4 : Int32)) = (0 : Int32))))), .val (.ref b62), .val (.ref b71), .unset, .unset, .unset, .unset, .unset, .unset, .unset, .unset] [(.int (p3 &&& (1 : Int32))), (.ref b62)])) target
        refine XS.ifNo Xg75.here hx rfl (hb hby at_86) rfl ((if0 _ _).trans (feq c86).1) ?_
        show Steps p.tables e below (Tg75.setTop (mkF m 89 #[.val (.long q0), .second, .val (.long q1), .second, .val (.long q2), .second, .val (.int p3), .val (.long j25_s0), .second, .val (.long v35), .second, .val (.long v46), .second, .val (.int (own_b (¬ ((p3 &&& (4 : Int32)) = (0 : Int32))))), .val (.ref b62), .val (.ref b71), .unset, .unset, .unset, .unset, .unset, .unset, .unset, .unset] [(.ref b62)])) target
        refine XS.iconst Xg75.here hx rfl (hb hby at_89) ?_
        show Steps p.tables e below (Tg75.setTop (mkF m 90 #[.val (.long q0), .second, .val (.long q1), .second, .val (.long q2), .second, .val (.int p3), .val (.long j25_s0), .second, .val (.long v35), .second, .val (.long v46), .second, .val (.int (own_b (¬ ((p3 &&& (4 : Int32)) = (0 : Int32))))), .val (.ref b62), .val (.ref b71), .unset, .unset, .unset, .unset, .unset, .unset, .unset, .unset] [(.int (1 : Int32)), (.ref b62)])) target
        refine XS.goto Xg75.here hx rfl (pc0 := 90) (pc' := 94) rfl (hb hby at_90) (by decide) (by decide) ?_
        exact kt
      exact ⟨_, ⟨(1 : Int32), rfl, (own_b1 c86).symm⟩, fun _ k => k⟩
  refine own_st st_M94 ?_
  refine own_st (B := Tg75.setTop (mkF m 98 #[.val (.long q0), .second, .val (.long q1), .second, .val (.long q2), .second, .val (.int p3), .val (.long j25_s0), .second, .val (.long v35), .second, .val (.long v46), .second, .val (.int (own_b (¬ ((p3 &&& (4 : Int32)) = (0 : Int32))))), .val (.ref b62), .val (.ref b71), .unset, .unset, .unset, .unset, .unset, .unset, .unset, .unset] [(.int (p3 &&& (2 : Int32))), (.int (own_b (¬ ((p3 &&& (1 : Int32)) = (0 : Int32))))), (.ref b62)])) (fun target kt => ?_) ?_
  · show Steps p.tables e below (Tg75.setTop (mkF m 94 #[.val (.long q0), .second, .val (.long q1), .second, .val (.long q2), .second, .val (.int p3), .val (.long j25_s0), .second, .val (.long v35), .second, .val (.long v46), .second, .val (.int (own_b (¬ ((p3 &&& (4 : Int32)) = (0 : Int32))))), .val (.ref b62), .val (.ref b71), .unset, .unset, .unset, .unset, .unset, .unset, .unset, .unset] [(.int (own_b (¬ ((p3 &&& (1 : Int32)) = (0 : Int32))))), (.ref b62)])) target
    refine XS.iload Xg75.here hx rfl (hb hby at_94) rfl ?_
    show Steps p.tables e below (Tg75.setTop (mkF m 96 #[.val (.long q0), .second, .val (.long q1), .second, .val (.long q2), .second, .val (.int p3), .val (.long j25_s0), .second, .val (.long v35), .second, .val (.long v46), .second, .val (.int (own_b (¬ ((p3 &&& (4 : Int32)) = (0 : Int32))))), .val (.ref b62), .val (.ref b71), .unset, .unset, .unset, .unset, .unset, .unset, .unset, .unset] [(.int p3), (.int (own_b (¬ ((p3 &&& (1 : Int32)) = (0 : Int32))))), (.ref b62)])) target
    refine XS.iconst Xg75.here hx rfl (hb hby at_96) ?_
    show Steps p.tables e below (Tg75.setTop (mkF m 97 #[.val (.long q0), .second, .val (.long q1), .second, .val (.long q2), .second, .val (.int p3), .val (.long j25_s0), .second, .val (.long v35), .second, .val (.long v46), .second, .val (.int (own_b (¬ ((p3 &&& (4 : Int32)) = (0 : Int32))))), .val (.ref b62), .val (.ref b71), .unset, .unset, .unset, .unset, .unset, .unset, .unset, .unset] [(.int (2 : Int32)), (.int p3), (.int (own_b (¬ ((p3 &&& (1 : Int32)) = (0 : Int32))))), (.ref b62)])) target
    refine XS.iand Xg75.here hx rfl (hb hby at_97) rfl ?_
    exact kt
  obtain ⟨_, ⟨j106_s0, rfl, rfl⟩, st_M106⟩ : own_Lead p.tables e below (Tg75.setTop (mkF m 98 #[.val (.long q0), .second, .val (.long q1), .second, .val (.long q2), .second, .val (.int p3), .val (.long j25_s0), .second, .val (.long v35), .second, .val (.long v46), .second, .val (.int (own_b (¬ ((p3 &&& (4 : Int32)) = (0 : Int32))))), .val (.ref b62), .val (.ref b71), .unset, .unset, .unset, .unset, .unset, .unset, .unset, .unset] [(.int (p3 &&& (2 : Int32))), (.int (own_b (¬ ((p3 &&& (1 : Int32)) = (0 : Int32))))), (.ref b62)])) (fun B => ∃ (j106_s0 : Int32), B = Tg75.setTop (mkF m 106 #[.val (.long q0), .second, .val (.long q1), .second, .val (.long q2), .second, .val (.int p3), .val (.long j25_s0), .second, .val (.long v35), .second, .val (.long v46), .second, .val (.int (own_b (¬ ((p3 &&& (4 : Int32)) = (0 : Int32))))), .val (.ref b62), .val (.ref b71), .unset, .unset, .unset, .unset, .unset, .unset, .unset, .unset] [(.int j106_s0), (.int (own_b (¬ ((p3 &&& (1 : Int32)) = (0 : Int32))))), (.ref b62)]) ∧ j106_s0 = own_b (¬ ((p3 &&& (2 : Int32)) = (0 : Int32)))) := by
    by_cases c98 : (p3 &&& (2 : Int32)) = (0 : Int32)
    · refine own_st (B := Tg75.setTop (mkF m 106 #[.val (.long q0), .second, .val (.long q1), .second, .val (.long q2), .second, .val (.int p3), .val (.long j25_s0), .second, .val (.long v35), .second, .val (.long v46), .second, .val (.int (own_b (¬ ((p3 &&& (4 : Int32)) = (0 : Int32))))), .val (.ref b62), .val (.ref b71), .unset, .unset, .unset, .unset, .unset, .unset, .unset, .unset] [(.int (0 : Int32)), (.int (own_b (¬ ((p3 &&& (1 : Int32)) = (0 : Int32))))), (.ref b62)])) (fun target kt => ?_) ?_
      · show Steps p.tables e below (Tg75.setTop (mkF m 98 #[.val (.long q0), .second, .val (.long q1), .second, .val (.long q2), .second, .val (.int p3), .val (.long j25_s0), .second, .val (.long v35), .second, .val (.long v46), .second, .val (.int (own_b (¬ ((p3 &&& (4 : Int32)) = (0 : Int32))))), .val (.ref b62), .val (.ref b71), .unset, .unset, .unset, .unset, .unset, .unset, .unset, .unset] [(.int (p3 &&& (2 : Int32))), (.int (own_b (¬ ((p3 &&& (1 : Int32)) = (0 : Int32))))), (.ref b62)])) target
        refine XS.ifYes Xg75.here hx rfl (pc0 := 98) (pc' := 105) rfl (hb hby at_98) rfl ((if0 _ _).trans (teq c98).1) (by decide) (by decide) ?_
        show Steps p.tables e below (Tg75.setTop (mkF m 105 #[.val (.long q0), .second, .val (.long q1), .second, .val (.long q2), .second, .val (.int p3), .val (.long j25_s0), .second, .val (.long v35), .second, .val (.long v46), .second, .val (.int (own_b (¬ ((p3 &&& (4 : Int32)) = (0 : Int32))))), .val (.ref b62), .val (.ref b71), .unset, .unset, .unset, .unset, .unset, .unset, .unset, .unset] [(.int (own_b (¬ ((p3 &&& (1 : Int32)) = (0 : Int32))))), (.ref b62)])) target
        refine XS.iconst Xg75.here hx rfl (hb hby at_105) ?_
        exact kt
      exact ⟨_, ⟨(0 : Int32), rfl, (own_b0 (fun w => w c98)).symm⟩, fun _ k => k⟩
    · refine own_st (B := Tg75.setTop (mkF m 106 #[.val (.long q0), .second, .val (.long q1), .second, .val (.long q2), .second, .val (.int p3), .val (.long j25_s0), .second, .val (.long v35), .second, .val (.long v46), .second, .val (.int (own_b (¬ ((p3 &&& (4 : Int32)) = (0 : Int32))))), .val (.ref b62), .val (.ref b71), .unset, .unset, .unset, .unset, .unset, .unset, .unset, .unset] [(.int (1 : Int32)), (.int (own_b (¬ ((p3 &&& (1 : Int32)) = (0 : Int32))))), (.ref b62)])) (fun target kt => ?_) ?_
      · show Steps p.tables e below (Tg75.setTop (mkF m 98 #[.val (.long q0), .second, .val (.long q1), .second, .val (.long q2), .second, .val (.int p3), .val (.long j25_s0), .second, .val (.long v35), .second, .val (.long v46), .second, .val (.int (own_b (¬ ((p3 &&& (4 : Int32)) = (0 : Int32))))), .val (.ref b62), .val (.ref b71), .unset, .unset, .unset, .unset, .unset, .unset, .unset, .unset] [(.int (p3 &&& (2 : Int32))), (.int (own_b (¬ ((p3 &&& (1 : Int32)) = (0 : Int32))))), (.ref b62)])) target
        refine XS.ifNo Xg75.here hx rfl (hb hby at_98) rfl ((if0 _ _).trans (feq c98).1) ?_
        show Steps p.tables e below (Tg75.setTop (mkF m 101 #[.val (.long q0), .second, .val (.long q1), .second, .val (.long q2), .second, .val (.int p3), .val (.long j25_s0), .second, .val (.long v35), .second, .val (.long v46), .second, .val (.int (own_b (¬ ((p3 &&& (4 : Int32)) = (0 : Int32))))), .val (.ref b62), .val (.ref b71), .unset, .unset, .unset, .unset, .unset, .unset, .unset, .unset] [(.int (own_b (¬ ((p3 &&& (1 : Int32)) = (0 : Int32))))), (.ref b62)])) target
        refine XS.iconst Xg75.here hx rfl (hb hby at_101) ?_
        show Steps p.tables e below (Tg75.setTop (mkF m 102 #[.val (.long q0), .second, .val (.long q1), .second, .val (.long q2), .second, .val (.int p3), .val (.long j25_s0), .second, .val (.long v35), .second, .val (.long v46), .second, .val (.int (own_b (¬ ((p3 &&& (4 : Int32)) = (0 : Int32))))), .val (.ref b62), .val (.ref b71), .unset, .unset, .unset, .unset, .unset, .unset, .unset, .unset] [(.int (1 : Int32)), (.int (own_b (¬ ((p3 &&& (1 : Int32)) = (0 : Int32))))), (.ref b62)])) target
        refine XS.goto Xg75.here hx rfl (pc0 := 102) (pc' := 106) rfl (hb hby at_102) (by decide) (by decide) ?_
        exact kt
      exact ⟨_, ⟨(1 : Int32), rfl, (own_b1 c98).symm⟩, fun _ k => k⟩
  refine own_st st_M106 ?_
  refine own_st (B := Tg75.setTop (mkF m 109 #[.val (.long q0), .second, .val (.long q1), .second, .val (.long q2), .second, .val (.int p3), .val (.long j25_s0), .second, .val (.long v35), .second, .val (.long v46), .second, .val (.int (own_b (¬ ((p3 &&& (4 : Int32)) = (0 : Int32))))), .val (.ref b62), .val (.ref b71), .unset, .unset, .unset, .unset, .unset, .unset, .unset, .unset] [(.int (1 : Int32)), (.long j25_s0), (.int (own_b (¬ ((p3 &&& (2 : Int32)) = (0 : Int32))))), (.int (own_b (¬ ((p3 &&& (1 : Int32)) = (0 : Int32))))), (.ref b62)])) (fun target kt => ?_) ?_
  · show Steps p.tables e below (Tg75.setTop (mkF m 106 #[.val (.long q0), .second, .val (.long q1), .second, .val (.long q2), .second, .val (.int p3), .val (.long j25_s0), .second, .val (.long v35), .second, .val (.long v46), .second, .val (.int (own_b (¬ ((p3 &&& (4 : Int32)) = (0 : Int32))))), .val (.ref b62), .val (.ref b71), .unset, .unset, .unset, .unset, .unset, .unset, .unset, .unset] [(.int (own_b (¬ ((p3 &&& (2 : Int32)) = (0 : Int32))))), (.int (own_b (¬ ((p3 &&& (1 : Int32)) = (0 : Int32))))), (.ref b62)])) target
    refine XS.lload Xg75.here hx rfl (hb hby at_106) rfl ?_
    show Steps p.tables e below (Tg75.setTop (mkF m 108 #[.val (.long q0), .second, .val (.long q1), .second, .val (.long q2), .second, .val (.int p3), .val (.long j25_s0), .second, .val (.long v35), .second, .val (.long v46), .second, .val (.int (own_b (¬ ((p3 &&& (4 : Int32)) = (0 : Int32))))), .val (.ref b62), .val (.ref b71), .unset, .unset, .unset, .unset, .unset, .unset, .unset, .unset] [(.long j25_s0), (.int (own_b (¬ ((p3 &&& (2 : Int32)) = (0 : Int32))))), (.int (own_b (¬ ((p3 &&& (1 : Int32)) = (0 : Int32))))), (.ref b62)])) target
    refine XS.iconst Xg75.here hx rfl (hb hby at_108) ?_
    exact kt
  obtain ⟨cqg109, kqg109, qg109a, qg109b, qg109c⟩ := isOf hZ eg75 F_7
  obtain ⟨_, _, ⟨Tg109, Lg109, kg109, ng109⟩, -, Xg109, ⟨Lcg109, hQg109, lg109, yg109, zg109⟩, stg109⟩ := Xg75.virtualBack hx (y := (⟨"com/example/evenkeel/evenkeel/FullCycles", "enter", "(ZZJI)Z"⟩ : MethodName)) (z := (⟨"com/example/evenkeel/evenkeel/FullCycles", "enter", "(ZZJI)Z"⟩ : MethodName)) hown (mvT hZ (hw _ (List.mem_of_getElem? (i := 18) rfl))) (mvT hZ (hw _ (List.mem_of_getElem? (i := 19) rfl))) (notFace_of_selects (args := #[]) (mvT hZ (hw _ (List.mem_of_getElem? (i := 21) rfl)))) (mvT hZ (hw _ (List.mem_of_getElem? (i := 21) rfl))) (mvT hZ (hw _ (List.mem_of_getElem? (i := 20) rfl))) (by decide) (backOf (W := 0) (own_rm4 l Z a0 hw [] b62 (¬ ((p3 &&& (1 : Int32)) = (0 : Int32))) (¬ ((p3 &&& (2 : Int32)) = (0 : Int32))) j25_s0 (1 : Int32) (0 : Int64) (False) (0 : Int32) (0 : Int64) (0 : Int64) (0 : Int64) (False) hg71 n0 Zz_1 F_7 F_9 (own_cast (congrArg Value.int (own_b0 (fun h => h)).symm) F_8) F_14 F_10 F_11 F_13 (own_cast (congrArg Value.int (own_b0 (fun h => h)).symm) F_12) g_b62) hZ (hw _ (List.mem_of_getElem? (i := 22) rfl)) (hw _ (List.mem_of_getElem? (i := 4) rfl)) (by decide) (by decide)) qg109a qg109c (g := (mkF m 109 #[.val (.long q0), .second, .val (.long q1), .second, .val (.long q2), .second, .val (.int p3), .val (.long j25_s0), .second, .val (.long v35), .second, .val (.long v46), .second, .val (.int (own_b (¬ ((p3 &&& (4 : Int32)) = (0 : Int32))))), .val (.ref b62), .val (.ref b71), .unset, .unset, .unset, .unset, .unset, .unset, .unset, .unset] [(.int (1 : Int32)), (.long j25_s0), (.int (own_b (¬ ((p3 &&& (2 : Int32)) = (0 : Int32))))), (.int (own_b (¬ ((p3 &&& (1 : Int32)) = (0 : Int32))))), (.ref b62)])) rfl (by rw [hml]; rfl) (Steps.refl _) (argsL := [(.int (own_b (¬ ((p3 &&& (1 : Int32)) = (0 : Int32))))), (.int (own_b (¬ ((p3 &&& (2 : Int32)) = (0 : Int32))))), (.long j25_s0), (.int (1 : Int32))]) (rest := []) (lenOf own_pd2 rfl) rfl (by show 2 * 0 + _ ≤ _; exact Nat.le_of_eq rfl) (hb hby at_109) (fun _ _ => ⟨rfl, eg75, (by decide : 2 + 0 ≤ _), (by decide : 13 + 0 ≤ _)⟩)
  dsimp only [Pt.U, Pt.locs, Pt.cells, Pt.slots] at Xg109 lg109 yg109 zg109 stg109 hQg109
  subst lg109 yg109 zg109
  obtain ⟨rfl, Ng109q, Kg109, F_17, F_18, F_19, F_20, F_21, F_22, F_23, F_24⟩ := hQg109
  have F_25 := Ag71.keep Kg109
  have F_26 := F_15.keep Kg109 (ninS (Ne.symm ne_b62_b71) nin0)
  have F_27 := F_16.keep Kg109 (ninS (Ne.symm ne_b62_b71) nin0)
  have Zz_2 : n0 ≤ Tg109.heap.size := Nat.le_trans Zz_1 Kg109.1
  obtain ⟨w109_began, hw109_began⟩ : ∃ z : Int64, z = (if (False) then (if (¬ ((p3 &&& (2 : Int32)) = (0 : Int32))) then (if (1 : Int32) = (0 : Int32) then (0 : Int64) else ((0 : Int64) + (1 : Int64))) else ((0 : Int64) + (1 : Int64))) else ((0 : Int64) + (1 : Int64))) := ⟨_, rfl⟩
  have F_28 : Fld Z Tg109.heap b62 "com/example/evenkeel/evenkeel/FullCycles" "began" "J" (.long w109_began) := by subst hw109_began; exact F_21
  obtain ⟨w109_made, hw109_made⟩ : ∃ z : Int64, z = (if (False) then (if (¬ ((p3 &&& (2 : Int32)) = (0 : Int32))) then (if (1 : Int32) = (0 : Int32) then (0 : Int64) else (0 : Int64)) else (0 : Int64)) else (0 : Int64)) := ⟨_, rfl⟩
  have F_29 : Fld Z Tg109.heap b62 "com/example/evenkeel/evenkeel/FullCycles" "made" "J" (.long w109_made) := by subst hw109_made; exact F_22
  have Ng109 := Fr.app Ng75 Ng109q
  refine own_st (fun _ k => stg109.trans k) ?_
  refine own_st (B := Tg109.setTop (mkF m 117 #[.val (.long q0), .second, .val (.long q1), .second, .val (.long q2), .second, .val (.int p3), .val (.long j25_s0), .second, .val (.long v35), .second, .val (.long v46), .second, .val (.int (own_b (¬ ((p3 &&& (4 : Int32)) = (0 : Int32))))), .val (.ref b62), .val (.ref b71), .unset, .unset, .unset, .unset, .unset, .unset, .unset, .unset] [(.long v35), (.ref b62)])) (fun target kt => ?_) ?_
  · show Steps p.tables e below (Tg109.setTop (mkF m 112 #[.val (.long q0), .second, .val (.long q1), .second, .val (.long q2), .second, .val (.int p3), .val (.long j25_s0), .second, .val (.long v35), .second, .val (.long v46), .second, .val (.int (own_b (¬ ((p3 &&& (4 : Int32)) = (0 : Int32))))), .val (.ref b62), .val (.ref b71), .unset, .unset, .unset, .unset, .unset, .unset, .unset, .unset] [(.int (own_b (¬ (False) ∨ (¬ (¬ ((p3 &&& (2 : Int32)) = (0 : Int32))) ∨ (¬ ((1 : Int32) = (0 : Int32)) ∨ (False))))))])) target
    refine XS.pop Xg109.here hx rfl (hb hby at_112) rfl rfl ?_
    show Steps p.tables e below (Tg109.setTop (mkF m 113 #[.val (.long q0), .second, .val (.long q1), .second, .val (.long q2), .second, .val (.int p3), .val (.long j25_s0), .second, .val (.long v35), .second, .val (.long v46), .second, .val (.int (own_b (¬ ((p3 &&& (4 : Int32)) = (0 : Int32))))), .val (.ref b62), .val (.ref b71), .unset, .unset, .unset, .unset, .unset, .unset, .unset, .unset] [])) target
    refine XS.aload Xg109.here hx rfl (hb hby at_113) rfl rfl ?_
    show Steps p.tables e below (Tg109.setTop (mkF m 115 #[.val (.long q0), .second, .val (.long q1), .second, .val (.long q2), .second, .val (.int p3), .val (.long j25_s0), .second, .val (.long v35), .second, .val (.long v46), .second, .val (.int (own_b (¬ ((p3 &&& (4 : Int32)) = (0 : Int32))))), .val (.ref b62), .val (.ref b71), .unset, .unset, .unset, .unset, .unset, .unset, .unset, .unset] [(.ref b62)])) target
    refine XS.lload Xg109.here hx rfl (hb hby at_115) rfl ?_
    exact kt
  obtain ⟨cqg117, kqg117, qg117a, qg117b, qg117c⟩ := isOf hZ rfl F_17
  obtain ⟨_, _, ⟨Tg117, Lg117, kg117, ng117⟩, -, Xg117, ⟨Lcg117, hQg117, lg117, yg117, zg117⟩, stg117⟩ := Xg109.virtualBack hx (y := (⟨"com/example/evenkeel/evenkeel/FullCycles", "skip", "(J)V"⟩ : MethodName)) (z := (⟨"com/example/evenkeel/evenkeel/FullCycles", "skip", "(J)V"⟩ : MethodName)) hown (mvT hZ (hw _ (List.mem_of_getElem? (i := 41) rfl))) (mvT hZ (hw _ (List.mem_of_getElem? (i := 42) rfl))) (notFace_of_selects (args := #[]) (mvT hZ (hw _ (List.mem_of_getElem? (i := 44) rfl)))) (mvT hZ (hw _ (List.mem_of_getElem? (i := 44) rfl))) (mvT hZ (hw _ (List.mem_of_getElem? (i := 43) rfl))) (by decide) (backOf (W := 0) (own_rm6 l Z a0 hw [] b62 v35 (0 : Int64) (¬ ((p3 &&& (1 : Int32)) = (0 : Int32))) (1 : Int32) w109_began w109_made j25_s0 (¬ (False) ∨ (¬ (¬ ((p3 &&& (2 : Int32)) = (0 : Int32))) ∨ (¬ ((1 : Int32) = (0 : Int32)) ∨ (False)))) Tg109.heap n0 Zz_2 F_17 F_18 F_19 F_20 F_28 F_29 F_23 F_24 g_b62) hZ (hw _ (List.mem_of_getElem? (i := 45) rfl)) (hw _ (List.mem_of_getElem? (i := 4) rfl)) (by decide) (by decide)) qg117a qg117c (g := (mkF m 117 #[.val (.long q0), .second, .val (.long q1), .second, .val (.long q2), .second, .val (.int p3), .val (.long j25_s0), .second, .val (.long v35), .second, .val (.long v46), .second, .val (.int (own_b (¬ ((p3 &&& (4 : Int32)) = (0 : Int32))))), .val (.ref b62), .val (.ref b71), .unset, .unset, .unset, .unset, .unset, .unset, .unset, .unset] [(.long v35), (.ref b62)])) rfl (by rw [hml]; rfl) (Steps.refl _) (argsL := [(.long v35)]) (rest := []) (lenOf own_pd0 rfl) rfl (by show 2 * 0 + _ ≤ _; exact Nat.le_of_eq rfl) (hb hby at_117) (fun _ _ => ⟨rfl, rfl, (by decide : 2 + 0 ≤ _), (by decide : 13 + 0 ≤ _)⟩)
  dsimp only [Pt.U, Pt.locs, Pt.cells, Pt.slots] at Xg117 lg117 yg117 zg117 stg117 hQg117
  subst lg117 yg117 zg117
  obtain ⟨rfl, Ng117q, Kg117, F_30, F_31, F_32, F_33, F_34, F_35, F_36, F_37⟩ := hQg117
  have F_38 := F_25.keep Kg117
  have F_39 := F_26.keep Kg117 (ninS (Ne.symm ne_b62_b71) nin0)
  have F_40 := F_27.keep Kg117 (ninS (Ne.symm ne_b62_b71) nin0)
  have Zz_3 : n0 ≤ Tg117.heap.size := Nat.le_trans Zz_2 Kg117.1
  obtain ⟨w117_picks, hw117_picks⟩ : ∃ z : Int64, z = ((0 : Int64) + v35) := ⟨_, rfl⟩
  have F_41 : Fld Z Tg117.heap b62 "com/example/evenkeel/evenkeel/FullCycles" "picks" "J" (.long w117_picks) := by subst hw117_picks; exact F_31
  obtain ⟨w117_began, hw117_began⟩ : ∃ z : Int64, z = (if (w109_made + v35) < j25_s0 then w109_began else ((((0 : Int64) + v35) - (((w109_made + v35)) - j25_s0)) + (1 : Int64))) := ⟨_, rfl⟩
  have F_42 : Fld Z Tg117.heap b62 "com/example/evenkeel/evenkeel/FullCycles" "began" "J" (.long w117_began) := by subst hw117_began; exact F_34
  obtain ⟨w117_made, hw117_made⟩ : ∃ z : Int64, z = (if (w109_made + v35) < j25_s0 then (w109_made + v35) else (((w109_made + v35)) - j25_s0)) := ⟨_, rfl⟩
  have F_43 : Fld Z Tg117.heap b62 "com/example/evenkeel/evenkeel/FullCycles" "made" "J" (.long w117_made) := by subst hw117_made; exact F_35
  have Ng117 := Fr.app Ng109 Ng117q
  refine own_st (fun _ k => stg117.trans k) ?_
  refine own_st (B := Tg117.setTop (mkF m 122 #[.val (.long q0), .second, .val (.long q1), .second, .val (.long q2), .second, .val (.int p3), .val (.long j25_s0), .second, .val (.long v35), .second, .val (.long v46), .second, .val (.int (own_b (¬ ((p3 &&& (4 : Int32)) = (0 : Int32))))), .val (.ref b62), .val (.ref b71), .unset, .unset, .unset, .unset, .unset, .unset, .unset, .unset] [(.int (own_b (¬ ((p3 &&& (4 : Int32)) = (0 : Int32)))))])) (fun target kt => ?_) ?_
  · show Steps p.tables e below (Tg117.setTop (mkF m 120 #[.val (.long q0), .second, .val (.long q1), .second, .val (.long q2), .second, .val (.int p3), .val (.long j25_s0), .second, .val (.long v35), .second, .val (.long v46), .second, .val (.int (own_b (¬ ((p3 &&& (4 : Int32)) = (0 : Int32))))), .val (.ref b62), .val (.ref b71), .unset, .unset, .unset, .unset, .unset, .unset, .unset, .unset] [])) target
    refine XS.iload Xg117.here hx rfl (hb hby at_120) rfl ?_
    exact kt
  obtain ⟨_, ⟨T_M130, h_M130, lc_M130, j130_f_b62_holding, rfl, X_M130, e_M130, N_M130, Z_M130, F_55, F_56, F_57, F_58, F_59, F_60, F_61, F_62, F_63, F_64, F_65, rfl⟩, st_M130⟩ : own_Lead p.tables e below (Tg117.setTop (mkF m 122 #[.val (.long q0), .second, .val (.long q1), .second, .val (.long q2), .second, .val (.int p3), .val (.long j25_s0), .second, .val (.long v35), .second, .val (.long v46), .second, .val (.int (own_b (¬ ((p3 &&& (4 : Int32)) = (0 : Int32))))), .val (.ref b62), .val (.ref b71), .unset, .unset, .unset, .unset, .unset, .unset, .unset, .unset] [(.int (own_b (¬ ((p3 &&& (4 : Int32)) = (0 : Int32)))))])) (fun B => ∃ (T_M130 : State) (h_M130 : Heap) (lc_M130 : List Loc) (j130_f_b62_holding : Int32), B = T_M130.setTop (mkF m 130 #[.val (.long q0), .second, .val (.long q1), .second, .val (.long q2), .second, .val (.int p3), .val (.long j25_s0), .second, .val (.long v35), .second, .val (.long v46), .second, .val (.int (own_b (¬ ((p3 &&& (4 : Int32)) = (0 : Int32))))), .val (.ref b62), .val (.ref b71), .unset, .unset, .unset, .unset, .unset, .unset, .unset, .unset] []) ∧ Stand p l e room_1 s m #[(.long q0), (.long q1), (.long q2), (.int p3)] below meth c T_M130 lc_M130 2 13 ∧ T_M130.heap = h_M130 ∧ Fr n0 lc_M130 ∧ n0 ≤ h_M130.size ∧ Exa Z h_M130 b62 "com/example/evenkeel/evenkeel/FullCycles" ∧ Fld Z h_M130 b62 "com/example/evenkeel/evenkeel/FullCycles" "steady" "Z" (.int (own_b (¬ ((p3 &&& (1 : Int32)) = (0 : Int32))))) ∧ Fld Z h_M130 b62 "com/example/evenkeel/evenkeel/FullCycles" "picks" "J" (.long w117_picks) ∧ Fld Z h_M130 b62 "com/example/evenkeel/evenkeel/FullCycles" "began" "J" (.long w117_began) ∧ Fld Z h_M130 b62 "com/example/evenkeel/evenkeel/FullCycles" "made" "J" (.long w117_made) ∧ Fld Z h_M130 b62 "com/example/evenkeel/evenkeel/FullCycles" "holding" "Z" (.int j130_f_b62_holding) ∧ Fld Z h_M130 b62 "com/example/evenkeel/evenkeel/FullCycles" "total" "J" (.long j25_s0) ∧ Fld Z h_M130 b62 "com/example/evenkeel/evenkeel/FullCycles" "taking" "I" (.int (1 : Int32)) ∧ Exa Z h_M130 b71 "com/example/evenkeel/evenkeel/CurrentValue" ∧ Fld Z h_M130 b71 "com/example/evenkeel/evenkeel/CurrentValue" "seen" "J" (.long (0 : Int64)) ∧ Fld Z h_M130 b71 "com/example/evenkeel/evenkeel/CurrentValue" "seenWeight" "I" (.int (0 : Int32)) ∧ j130_f_b62_holding = own_b ((¬ (¬ ((p3 &&& (4 : Int32)) = (0 : Int32))) ∧ (¬ (((w109_made + v35)) < j25_s0) ∨ (¬ (False) ∨ (¬ (¬ ((p3 &&& (2 : Int32)) = (0 : Int32))) ∨ (¬ ((1 : Int32) = (0 : Int32)) ∨ (False)))))))) := by
    by_cases c122 : ¬ ((p3 &&& (4 : Int32)) = (0 : Int32))
    · refine own_st (B := Tg117.setTop (mkF m 127 #[.val (.long q0), .second, .val (.long q1), .second, .val (.long q2), .second, .val (.int p3), .val (.long j25_s0), .second, .val (.long v35), .second, .val (.long v46), .second, .val (.int (own_b (¬ ((p3 &&& (4 : Int32)) = (0 : Int32))))), .val (.ref b62), .val (.ref b71), .unset, .unset, .unset, .unset, .unset, .unset, .unset, .unset] [(.ref b62)])) (fun target kt => ?_) ?_
      · show Steps p.tables e below (Tg117.setTop (mkF m 122 #[.val (.long q0), .second, .val (.long q1), .second, .val (.long q2), .second, .val (.int p3), .val (.long j25_s0), .second, .val (.long v35), .second, .val (.long v46), .second, .val (.int (own_b (¬ ((p3 &&& (4 : Int32)) = (0 : Int32))))), .val (.ref b62), .val (.ref b71), .unset, .unset, .unset, .unset, .unset, .unset, .unset, .unset] [(.int (own_b (¬ ((p3 &&& (4 : Int32)) = (0 : Int32)))))])) target
        refine XS.ifNo Xg117.here hx rfl (hb hby at_122) rfl ((if0 _ _).trans (feq (own_bn0 rfl c122)).1) ?_
        show Steps p.tables e below (Tg117.setTop (mkF m 125 #[.val (.long q0), .second, .val (.long q1), .second, .val (.long q2), .second, .val (.int p3), .val (.long j25_s0), .second, .val (.long v35), .second, .val (.long v46), .second, .val (.int (own_b (¬ ((p3 &&& (4 : Int32)) = (0 : Int32))))), .val (.ref b62), .val (.ref b71), .unset, .unset, .unset, .unset, .unset, .unset, .unset, .unset] [])) target
        refine XS.aload Xg117.here hx rfl (hb hby at_125) rfl rfl ?_
        exact kt
      obtain ⟨cqg127, kqg127, qg127a, qg127b, qg127c⟩ := isOf hZ rfl F_30
      obtain ⟨_, _, ⟨Tg127, Lg127, kg127, ng127⟩, -, Xg127, ⟨Lcg127, hQg127, lg127, yg127, zg127⟩, stg127⟩ := Xg117.virtualBack hx (y := (⟨"com/example/evenkeel/evenkeel/FullCycles", "giveUp", "()V"⟩ : MethodName)) (z := (⟨"com/example/evenkeel/evenkeel/FullCycles", "giveUp", "()V"⟩ : MethodName)) hown (mvT hZ (hw _ (List.mem_of_getElem? (i := 71) rfl))) (mvT hZ (hw _ (List.mem_of_getElem? (i := 72) rfl))) (notFace_of_selects (args := #[]) (mvT hZ (hw _ (List.mem_of_getElem? (i := 74) rfl)))) (mvT hZ (hw _ (List.mem_of_getElem? (i := 74) rfl))) (mvT hZ (hw _ (List.mem_of_getElem? (i := 73) rfl))) (by decide) (backOf (W := 0) (own_rm11 l Z a0 hw [] b62 w117_picks (¬ ((p3 &&& (1 : Int32)) = (0 : Int32))) (1 : Int32) w117_began w117_made j25_s0 (¬ (((w109_made + v35)) < j25_s0) ∨ (¬ (False) ∨ (¬ (¬ ((p3 &&& (2 : Int32)) = (0 : Int32))) ∨ (¬ ((1 : Int32) = (0 : Int32)) ∨ (False))))) Tg117.heap n0 Zz_3 F_30 F_41 F_32 F_33 F_42 F_43 F_36 F_37 g_b62) hZ (hw _ (List.mem_of_getElem? (i := 75) rfl)) (hw _ (List.mem_of_getElem? (i := 4) rfl)) (by decide) (by decide)) qg127a qg127c (g := (mkF m 127 #[.val (.long q0), .second, .val (.long q1), .second, .val (.long q2), .second, .val (.int p3), .val (.long j25_s0), .second, .val (.long v35), .second, .val (.long v46), .second, .val (.int (own_b (¬ ((p3 &&& (4 : Int32)) = (0 : Int32))))), .val (.ref b62), .val (.ref b71), .unset, .unset, .unset, .unset, .unset, .unset, .unset, .unset] [(.ref b62)])) rfl (by rw [hml]; rfl) (Steps.refl _) (argsL := []) (rest := []) (lenOf own_pd1 rfl) rfl (by show 2 * 0 + _ ≤ _; exact Nat.le_of_eq rfl) (hb hby at_127) (fun _ _ => ⟨rfl, rfl, (by decide : 2 + 0 ≤ _), (by decide : 13 + 0 ≤ _)⟩)
      dsimp only [Pt.U, Pt.locs, Pt.cells, Pt.slots] at Xg127 lg127 yg127 zg127 stg127 hQg127
      subst lg127 yg127 zg127
      obtain ⟨rfl, Ng127q, Kg127, F_44, F_45, F_46, F_47, F_48, F_49, F_50, F_51⟩ := hQg127
      have F_52 := F_38.keep Kg127
      have F_53 := F_39.keep Kg127 (ninS (Ne.symm ne_b62_b71) nin0)
      have F_54 := F_40.keep Kg127 (ninS (Ne.symm ne_b62_b71) nin0)
      have Zz_4 : n0 ≤ Tg127.heap.size := Nat.le_trans Zz_3 Kg127.1
      have Ng127 := Fr.app Ng117 Ng127q
      refine own_st (fun _ k => stg127.trans k) ?_
      exact ⟨_, ⟨Tg127, Tg127.heap, _, (0 : Int32), rfl, Xg127, rfl, Ng127, Zz_4, F_44, F_46, F_45, F_48, F_49, F_51, F_50, F_47, F_52, F_53, F_54, (own_b0 (fun w => w.1 c122)).symm⟩, fun _ k => k⟩
    · refine own_st (B := Tg117.setTop (mkF m 130 #[.val (.long q0), .second, .val (.long q1), .second, .val (.long q2), .second, .val (.int p3), .val (.long j25_s0), .second, .val (.long v35), .second, .val (.long v46), .second, .val (.int (own_b (¬ ((p3 &&& (4 : Int32)) = (0 : Int32))))), .val (.ref b62), .val (.ref b71), .unset, .unset, .unset, .unset, .unset, .unset, .unset, .unset] [])) (fun target kt => ?_) ?_
      · show Steps p.tables e below (Tg117.setTop (mkF m 122 #[.val (.long q0), .second, .val (.long q1), .second, .val (.long q2), .second, .val (.int p3), .val (.long j25_s0), .second, .val (.long v35), .second, .val (.long v46), .second, .val (.int (own_b (¬ ((p3 &&& (4 : Int32)) = (0 : Int32))))), .val (.ref b62), .val (.ref b71), .unset, .unset, .unset, .unset, .unset, .unset, .unset, .unset] [(.int (own_b (¬ ((p3 &&& (4 : Int32)) = (0 : Int32)))))])) target
        refine XS.ifYes Xg117.here hx rfl (pc0 := 122) (pc' := 130) rfl (hb hby at_122) rfl ((if0 _ _).trans (teq (own_b00 rfl c122)).1) (by decide) (by decide) ?_
        exact kt
      exact ⟨_, ⟨Tg117, Tg117.heap, _, (own_b (¬ (((w109_made + v35)) < j25_s0) ∨ (¬ (False) ∨ (¬ (¬ ((p3 &&& (2 : Int32)) = (0 : Int32))) ∨ (¬ ((1 : Int32) = (0 : Int32)) ∨ (False)))))), rfl, Xg117, rfl, Ng117, Zz_3, F_30, F_32, F_41, F_42, F_43, F_37, F_36, F_33, F_38, F_39, F_40, (own_bj rfl (fun q => ⟨c122, q⟩) (fun q => (fun w => q w.2)))⟩, fun _ k => k⟩
  refine own_st st_M130 ?_
  refine own_st (B := T_M130.setTop (mkF m 134 #[.val (.long q0), .second, .val (.long q1), .second, .val (.long q2), .second, .val (.int p3), .val (.long j25_s0), .second, .val (.long v35), .second, .val (.long v46), .second, .val (.int (own_b (¬ ((p3 &&& (4 : Int32)) = (0 : Int32))))), .val (.ref b62), .val (.ref b71), .unset, .unset, .unset, .unset, .unset, .unset, .unset, .unset] [(.long v46), (.ref b62)])) (fun target kt => ?_) ?_
  · show Steps p.tables e below (T_M130.setTop (mkF m 130 #[.val (.long q0), .second, .val (.long q1), .second, .val (.long q2), .second, .val (.int p3), .val (.long j25_s0), .second, .val (.long v35), .second, .val (.long v46), .second, .val (.int (own_b (¬ ((p3 &&& (4 : Int32)) = (0 : Int32))))), .val (.ref b62), .val (.ref b71), .unset, .unset, .unset, .unset, .unset, .unset, .unset, .unset] [])) target
    refine XS.aload X_M130.here hx rfl (hb hby at_130) rfl rfl ?_
    show Steps p.tables e below (T_M130.setTop (mkF m 132 #[.val (.long q0), .second, .val (.long q1), .second, .val (.long q2), .second, .val (.int p3), .val (.long j25_s0), .second, .val (.long v35), .second, .val (.long v46), .second, .val (.int (own_b (¬ ((p3 &&& (4 : Int32)) = (0 : Int32))))), .val (.ref b62), .val (.ref b71), .unset, .unset, .unset, .unset, .unset, .unset, .unset, .unset] [(.ref b62)])) target
    refine XS.lload X_M130.here hx rfl (hb hby at_132) rfl ?_
    exact kt
  obtain ⟨cqg134, kqg134, qg134a, qg134b, qg134c⟩ := isOf hZ e_M130 F_55
  obtain ⟨_, _, ⟨Tg134, Lg134, kg134, ng134⟩, -, Xg134, ⟨Lcg134, hQg134, lg134, yg134, zg134⟩, stg134⟩ := X_M130.virtualBack hx (y := (⟨"com/example/evenkeel/evenkeel/FullCycles", "skip", "(J)V"⟩ : MethodName)) (z := (⟨"com/example/evenkeel/evenkeel/FullCycles", "skip", "(J)V"⟩ : MethodName)) hown (mvT hZ (hw _ (List.mem_of_getElem? (i := 41) rfl))) (mvT hZ (hw _ (List.mem_of_getElem? (i := 42) rfl))) (notFace_of_selects (args := #[]) (mvT hZ (hw _ (List.mem_of_getElem? (i := 44) rfl)))) (mvT hZ (hw _ (List.mem_of_getElem? (i := 44) rfl))) (mvT hZ (hw _ (List.mem_of_getElem? (i := 43) rfl))) (by decide) (backOf (W := 0) (own_rm6 l Z a0 hw [] b62 v46 w117_picks (¬ ((p3 &&& (1 : Int32)) = (0 : Int32))) (1 : Int32) w117_began w117_made j25_s0 (¬ (¬ ((p3 &&& (4 : Int32)) = (0 : Int32))) ∧ (¬ (((w109_made + v35)) < j25_s0) ∨ (¬ (False) ∨ (¬ (¬ ((p3 &&& (2 : Int32)) = (0 : Int32))) ∨ (¬ ((1 : Int32) = (0 : Int32)) ∨ (False)))))) h_M130 n0 Z_M130 F_55 F_57 F_56 F_62 F_58 F_59 F_61 F_60 g_b62) hZ (hw _ (List.mem_of_getElem? (i := 45) rfl)) (hw _ (List.mem_of_getElem? (i := 4) rfl)) (by decide) (by decide)) qg134a qg134c (g := (mkF m 134 #[.val (.long q0), .second, .val (.long q1), .second, .val (.long q2), .second, .val (.int p3), .val (.long j25_s0), .second, .val (.long v35), .second, .val (.long v46), .second, .val (.int (own_b (¬ ((p3 &&& (4 : Int32)) = (0 : Int32))))), .val (.ref b62), .val (.ref b71), .unset, .unset, .unset, .unset, .unset, .unset, .unset, .unset] [(.long v46), (.ref b62)])) rfl (by rw [hml]; rfl) (Steps.refl _) (argsL := [(.long v46)]) (rest := []) (lenOf own_pd0 rfl) rfl (by show 2 * 0 + _ ≤ _; exact Nat.le_of_eq rfl) (hb hby at_134) (fun _ _ => ⟨rfl, e_M130, (by decide : 2 + 0 ≤ _), (by decide : 13 + 0 ≤ _)⟩)
  dsimp only [Pt.U, Pt.locs, Pt.cells, Pt.slots] at Xg134 lg134 yg134 zg134 stg134 hQg134
  subst lg134 yg134 zg134
  obtain ⟨rfl, Ng134q, Kg134, F_66, F_67, F_68, F_69, F_70, F_71, F_72, F_73⟩ := hQg134
  have F_74 := F_63.keep Kg134
  have F_75 := F_64.keep Kg134 (ninS (Ne.symm ne_b62_b71) nin0)
  have F_76 := F_65.keep Kg134 (ninS (Ne.symm ne_b62_b71) nin0)
  have Zz_5 : n0 ≤ Tg134.heap.size := Nat.le_trans Z_M130 Kg134.1
  obtain ⟨w134_picks, hw134_picks⟩ : ∃ z : Int64, z = (w117_picks + v46) := ⟨_, rfl⟩
  have F_77 : Fld Z Tg134.heap b62 "com/example/evenkeel/evenkeel/FullCycles" "picks" "J" (.long w134_picks) := by subst hw134_picks; exact F_67
  obtain ⟨w134_began, hw134_began⟩ : ∃ z : Int64, z = (if (w117_made + v46) < j25_s0 then w117_began else (((w117_picks + v46) - (((w117_made + v46)) - j25_s0)) + (1 : Int64))) := ⟨_, rfl⟩
  have F_78 : Fld Z Tg134.heap b62 "com/example/evenkeel/evenkeel/FullCycles" "began" "J" (.long w134_began) := by subst hw134_began; exact F_70
  obtain ⟨w134_made, hw134_made⟩ : ∃ z : Int64, z = (if (w117_made + v46) < j25_s0 then (w117_made + v46) else (((w117_made + v46)) - j25_s0)) := ⟨_, rfl⟩
  have F_79 : Fld Z Tg134.heap b62 "com/example/evenkeel/evenkeel/FullCycles" "made" "J" (.long w134_made) := by subst hw134_made; exact F_71
  have Ng134 := Fr.app N_M130 Ng134q
  refine own_st (fun _ k => stg134.trans k) ?_
  obtain ⟨v142, hv142⟩ : ∃ z : Int64, z = (v35 + v46) := ⟨_, rfl⟩
  refine own_st (B := Tg134.setTop (mkF m 149 #[.val (.long q0), .second, .val (.long q1), .second, .val (.long q2), .second, .val (.int p3), .val (.long j25_s0), .second, .val (.long v35), .second, .val (.long v46), .second, .val (.int (own_b (¬ ((p3 &&& (4 : Int32)) = (0 : Int32))))), .val (.ref b62), .val (.ref b71), .val (.long v142), .second, .unset, .unset, .unset, .unset, .unset, .unset] [(.int (lcmpW v142 j25_s0))])) (fun target kt => ?_) ?_
  · show Steps p.tables e below (Tg134.setTop (mkF m 137 #[.val (.long q0), .second, .val (.long q1), .second, .val (.long q2), .second, .val (.int p3), .val (.long j25_s0), .second, .val (.long v35), .second, .val (.long v46), .second, .val (.int (own_b (¬ ((p3 &&& (4 : Int32)) = (0 : Int32))))), .val (.ref b62), .val (.ref b71), .unset, .unset, .unset, .unset, .unset, .unset, .unset, .unset] [])) target
    refine XS.lload Xg134.here hx rfl (hb hby at_137) rfl ?_
    show Steps p.tables e below (Tg134.setTop (mkF m 139 #[.val (.long q0), .second, .val (.long q1), .second, .val (.long q2), .second, .val (.int p3), .val (.long j25_s0), .second, .val (.long v35), .second, .val (.long v46), .second, .val (.int (own_b (¬ ((p3 &&& (4 : Int32)) = (0 : Int32))))), .val (.ref b62), .val (.ref b71), .unset, .unset, .unset, .unset, .unset, .unset, .unset, .unset] [(.long v35)])) target
    refine XS.lload Xg134.here hx rfl (hb hby at_139) rfl ?_
    show Steps p.tables e below (Tg134.setTop (mkF m 141 #[.val (.long q0), .second, .val (.long q1), .second, .val (.long q2), .second, .val (.int p3), .val (.long j25_s0), .second, .val (.long v35), .second, .val (.long v46), .second, .val (.int (own_b (¬ ((p3 &&& (4 : Int32)) = (0 : Int32))))), .val (.ref b62), .val (.ref b71), .unset, .unset, .unset, .unset, .unset, .unset, .unset, .unset] [(.long v46), (.long v35)])) target
    refine XS.ladd Xg134.here hx rfl (hb hby at_141) rfl ?_
    show Steps p.tables e below (Tg134.setTop (mkF m 142 #[.val (.long q0), .second, .val (.long q1), .second, .val (.long q2), .second, .val (.int p3), .val (.long j25_s0), .second, .val (.long v35), .second, .val (.long v46), .second, .val (.int (own_b (¬ ((p3 &&& (4 : Int32)) = (0 : Int32))))), .val (.ref b62), .val (.ref b71), .unset, .unset, .unset, .unset, .unset, .unset, .unset, .unset] [(.long (v35 + v46))])) target
    refine XS.lstore Xg134.here hx rfl (hb hby at_142) rfl (l' := #[.val (.long q0), .second, .val (.long q1), .second, .val (.long q2), .second, .val (.int p3), .val (.long j25_s0), .second, .val (.long v35), .second, .val (.long v46), .second, .val (.int (own_b (¬ ((p3 &&& (4 : Int32)) = (0 : Int32))))), .val (.ref b62), .val (.ref b71), .val (.long v142), .second, .unset, .unset, .unset, .unset, .unset, .unset]) (by subst hv142; rfl) ?_
    show Steps p.tables e below (Tg134.setTop (mkF m 144 #[.val (.long q0), .second, .val (.long q1), .second, .val (.long q2), .second, .val (.int p3), .val (.long j25_s0), .second, .val (.long v35), .second, .val (.long v46), .second, .val (.int (own_b (¬ ((p3 &&& (4 : Int32)) = (0 : Int32))))), .val (.ref b62), .val (.ref b71), .val (.long v142), .second, .unset, .unset, .unset, .unset, .unset, .unset] [])) target
    refine XS.lload Xg134.here hx rfl (hb hby at_144) rfl ?_
    show Steps p.tables e below (Tg134.setTop (mkF m 146 #[.val (.long q0), .second, .val (.long q1), .second, .val (.long q2), .second, .val (.int p3), .val (.long j25_s0), .second, .val (.long v35), .second, .val (.long v46), .second, .val (.int (own_b (¬ ((p3 &&& (4 : Int32)) = (0 : Int32))))), .val (.ref b62), .val (.ref b71), .val (.long v142), .second, .unset, .unset, .unset, .unset, .unset, .unset] [(.long v142)])) target
    refine XS.lload Xg134.here hx rfl (hb hby at_146) rfl ?_
    show Steps p.tables e below (Tg134.setTop (mkF m 148 #[.val (.long q0), .second, .val (.long q1), .second, .val (.long q2), .second, .val (.int p3), .val (.long j25_s0), .second, .val (.long v35), .second, .val (.long v46), .second, .val (.int (own_b (¬ ((p3 &&& (4 : Int32)) = (0 : Int32))))), .val (.ref b62), .val (.ref b71), .val (.long v142), .second, .unset, .unset, .unset, .unset, .unset, .unset] [(.long j25_s0), (.long v142)])) target
    refine XS.lcmp Xg134.here hx rfl (hb hby at_148) rfl ?_
    exact kt
  obtain ⟨_, ⟨j157_s0, rfl, rfl⟩, st_M157⟩ : own_Lead p.tables e below (Tg134.setTop (mkF m 149 #[.val (.long q0), .second, .val (.long q1), .second, .val (.long q2), .second, .val (.int p3), .val (.long j25_s0), .second, .val (.long v35), .second, .val (.long v46), .second, .val (.int (own_b (¬ ((p3 &&& (4 : Int32)) = (0 : Int32))))), .val (.ref b62), .val (.ref b71), .val (.long v142), .second, .unset, .unset, .unset, .unset, .unset, .unset] [(.int (lcmpW v142 j25_s0))])) (fun B => ∃ (j157_s0 : Int32), B = Tg134.setTop (mkF m 157 #[.val (.long q0), .second, .val (.long q1), .second, .val (.long q2), .second, .val (.int p3), .val (.long j25_s0), .second, .val (.long v35), .second, .val (.long v46), .second, .val (.int (own_b (¬ ((p3 &&& (4 : Int32)) = (0 : Int32))))), .val (.ref b62), .val (.ref b71), .val (.long v142), .second, .unset, .unset, .unset, .unset, .unset, .unset] [(.int j157_s0)]) ∧ j157_s0 = own_b (¬ (v142 < j25_s0))) := by
    by_cases c149 : v142 < j25_s0
    · refine own_st (B := Tg134.setTop (mkF m 157 #[.val (.long q0), .second, .val (.long q1), .second, .val (.long q2), .second, .val (.int p3), .val (.long j25_s0), .second, .val (.long v35), .second, .val (.long v46), .second, .val (.int (own_b (¬ ((p3 &&& (4 : Int32)) = (0 : Int32))))), .val (.ref b62), .val (.ref b71), .val (.long v142), .second, .unset, .unset, .unset, .unset, .unset, .unset] [(.int (0 : Int32))])) (fun target kt => ?_) ?_
      · show Steps p.tables e below (Tg134.setTop (mkF m 149 #[.val (.long q0), .second, .val (.long q1), .second, .val (.long q2), .second, .val (.int p3), .val (.long j25_s0), .second, .val (.long v35), .second, .val (.long v46), .second, .val (.int (own_b (¬ ((p3 &&& (4 : Int32)) = (0 : Int32))))), .val (.ref b62), .val (.ref b71), .val (.long v142), .second, .unset, .unset, .unset, .unset, .unset, .unset] [(.int (lcmpW v142 j25_s0))])) target
        refine XS.ifYes Xg134.here hx rfl (pc0 := 149) (pc' := 156) rfl (hb hby at_149) rfl ((if0 _ _).trans (tlt ((lw_lt v142 j25_s0).mpr c149)).1) (by decide) (by decide) ?_
        show Steps p.tables e below (Tg134.setTop (mkF m 156 #[.val (.long q0), .second, .val (.long q1), .second, .val (.long q2), .second, .val (.int p3), .val (.long j25_s0), .second, .val (.long v35), .second, .val (.long v46), .second, .val (.int (own_b (¬ ((p3 &&& (4 : Int32)) = (0 : Int32))))), .val (.ref b62), .val (.ref b71), .val (.long v142), .second, .unset, .unset, .unset, .unset, .unset, .unset] [])) target
        refine XS.iconst Xg134.here hx rfl (hb hby at_156) ?_
        exact kt
      exact ⟨_, ⟨(0 : Int32), rfl, (own_b0 (fun w => w c149)).symm⟩, fun _ k => k⟩
    · refine own_st (B := Tg134.setTop (mkF m 157 #[.val (.long q0), .second, .val (.long q1), .second, .val (.long q2), .second, .val (.int p3), .val (.long j25_s0), .second, .val (.long v35), .second, .val (.long v46), .second, .val (.int (own_b (¬ ((p3 &&& (4 : Int32)) = (0 : Int32))))), .val (.ref b62), .val (.ref b71), .val (.long v142), .second, .unset, .unset, .unset, .unset, .unset, .unset] [(.int (1 : Int32))])) (fun target kt => ?_) ?_
      · show Steps p.tables e below (Tg134.setTop (mkF m 149 #[.val (.long q0), .second, .val (.long q1), .second, .val (.long q2), .second, .val (.int p3), .val (.long j25_s0), .second, .val (.long v35), .second, .val (.long v46), .second, .val (.int (own_b (¬ ((p3 &&& (4 : Int32)) = (0 : Int32))))), .val (.ref b62), .val (.ref b71), .val (.long v142), .second, .unset, .unset, .unset, .unset, .unset, .unset] [(.int (lcmpW v142 j25_s0))])) target
        refine XS.ifNo Xg134.here hx rfl (hb hby at_149) rfl ((if0 _ _).trans (flt (fun q => c149 ((lw_lt v142 j25_s0).mp q))).1) ?_
        show Steps p.tables e below (Tg134.setTop (mkF m 152 #[.val (.long q0), .second, .val (.long q1), .second, .val (.long q2), .second, .val (.int p3), .val (.long j25_s0), .second, .val (.long v35), .second, .val (.long v46), .second, .val (.int (own_b (¬ ((p3 &&& (4 : Int32)) = (0 : Int32))))), .val (.ref b62), .val (.ref b71), .val (.long v142), .second, .unset, .unset, .unset, .unset, .unset, .unset] [])) target
        refine XS.iconst Xg134.here hx rfl (hb hby at_152) ?_
        show Steps p.tables e below (Tg134.setTop (mkF m 153 #[.val (.long q0), .second, .val (.long q1), .second, .val (.long q2), .second, .val (.int p3), .val (.long j25_s0), .second, .val (.long v35), .second, .val (.long v46), .second, .val (.int (own_b (¬ ((p3 &&& (4 : Int32)) = (0 : Int32))))), .val (.ref b62), .val (.ref b71), .val (.long v142), .second, .unset, .unset, .unset, .unset, .unset, .unset] [(.int (1 : Int32))])) target
        refine XS.goto Xg134.here hx rfl (pc0 := 153) (pc' := 157) rfl (hb hby at_153) (by decide) (by decide) ?_
        exact kt
      exact ⟨_, ⟨(1 : Int32), rfl, (own_b1 c149).symm⟩, fun _ k => k⟩
  refine own_st st_M157 ?_
  refine own_st (B := Tg134.setTop (mkF m 161 #[.val (.long q0), .second, .val (.long q1), .second, .val (.long q2), .second, .val (.int p3), .val (.long j25_s0), .second, .val (.long v35), .second, .val (.long v46), .second, .val (.int (own_b (¬ ((p3 &&& (4 : Int32)) = (0 : Int32))))), .val (.ref b62), .val (.ref b71), .val (.long v142), .second, .val (.int (own_b (¬ (v142 < j25_s0)))), .unset, .unset, .unset, .unset, .unset] [(.int (own_b (¬ (v142 < j25_s0))))])) (fun target kt => ?_) ?_
  · show Steps p.tables e below (Tg134.setTop (mkF m 157 #[.val (.long q0), .second, .val (.long q1), .second, .val (.long q2), .second, .val (.int p3), .val (.long j25_s0), .second, .val (.long v35), .second, .val (.long v46), .second, .val (.int (own_b (¬ ((p3 &&& (4 : Int32)) = (0 : Int32))))), .val (.ref b62), .val (.ref b71), .val (.long v142), .second, .unset, .unset, .unset, .unset, .unset, .unset] [(.int (own_b (¬ (v142 < j25_s0))))])) target
    refine XS.istore Xg134.here hx rfl (hb hby at_157) rfl (l' := #[.val (.long q0), .second, .val (.long q1), .second, .val (.long q2), .second, .val (.int p3), .val (.long j25_s0), .second, .val (.long v35), .second, .val (.long v46), .second, .val (.int (own_b (¬ ((p3 &&& (4 : Int32)) = (0 : Int32))))), .val (.ref b62), .val (.ref b71), .val (.long v142), .second, .val (.int (own_b (¬ (v142 < j25_s0)))), .unset, .unset, .unset, .unset, .unset]) rfl ?_
    show Steps p.tables e below (Tg134.setTop (mkF m 159 #[.val (.long q0), .second, .val (.long q1), .second, .val (.long q2), .second, .val (.int p3), .val (.long j25_s0), .second, .val (.long v35), .second, .val (.long v46), .second, .val (.int (own_b (¬ ((p3 &&& (4 : Int32)) = (0 : Int32))))), .val (.ref b62), .val (.ref b71), .val (.long v142), .second, .val (.int (own_b (¬ (v142 < j25_s0)))), .unset, .unset, .unset, .unset, .unset] [])) target
    refine XS.iload Xg134.here hx rfl (hb hby at_159) rfl ?_
    exact kt
  obtain ⟨_, ⟨j172_s0, rfl, hj172_s0⟩, st_M172⟩ : own_Lead p.tables e below (Tg134.setTop (mkF m 161 #[.val (.long q0), .second, .val (.long q1), .second, .val (.long q2), .second, .val (.int p3), .val (.long j25_s0), .second, .val (.long v35), .second, .val (.long v46), .second, .val (.int (own_b (¬ ((p3 &&& (4 : Int32)) = (0 : Int32))))), .val (.ref b62), .val (.ref b71), .val (.long v142), .second, .val (.int (own_b (¬ (v142 < j25_s0)))), .unset, .unset, .unset, .unset, .unset] [(.int (own_b (¬ (v142 < j25_s0))))])) (fun B => ∃ (j172_s0 : Int64), B = Tg134.setTop (mkF m 172 #[.val (.long q0), .second, .val (.long q1), .second, .val (.long q2), .second, .val (.int p3), .val (.long j25_s0), .second, .val (.long v35), .second, .val (.long v46), .second, .val (.int (own_b (¬ ((p3 &&& (4 : Int32)) = (0 : Int32))))), .val (.ref b62), .val (.ref b71), .val (.long v142), .second, .val (.int (own_b (¬ (v142 < j25_s0)))), .unset, .unset, .unset, .unset, .unset] [(.long j172_s0)]) ∧ j172_s0 = (if ¬ (v142 < j25_s0) then (j25_s0 + (1 : Int64)) else (1 : Int64))) := by
    by_cases c161 : ¬ (v142 < j25_s0)
    · refine own_st (B := Tg134.setTop (mkF m 172 #[.val (.long q0), .second, .val (.long q1), .second, .val (.long q2), .second, .val (.int p3), .val (.long j25_s0), .second, .val (.long v35), .second, .val (.long v46), .second, .val (.int (own_b (¬ ((p3 &&& (4 : Int32)) = (0 : Int32))))), .val (.ref b62), .val (.ref b71), .val (.long v142), .second, .val (.int (own_b (¬ (v142 < j25_s0)))), .unset, .unset, .unset, .unset, .unset] [(.long (j25_s0 + (1 : Int64)))])) (fun target kt => ?_) ?_
      · show Steps p.tables e below (Tg134.setTop (mkF m 161 #[.val (.long q0), .second, .val (.long q1), .second, .val (.long q2), .second, .val (.int p3), .val (.long j25_s0), .second, .val (.long v35), .second, .val (.long v46), .second, .val (.int (own_b (¬ ((p3 &&& (4 : Int32)) = (0 : Int32))))), .val (.ref b62), .val (.ref b71), .val (.long v142), .second, .val (.int (own_b (¬ (v142 < j25_s0)))), .unset, .unset, .unset, .unset, .unset] [(.int (own_b (¬ (v142 < j25_s0))))])) target
        refine XS.ifNo Xg134.here hx rfl (hb hby at_161) rfl ((if0 _ _).trans (feq (own_bn0 rfl c161)).1) ?_
        show Steps p.tables e below (Tg134.setTop (mkF m 164 #[.val (.long q0), .second, .val (.long q1), .second, .val (.long q2), .second, .val (.int p3), .val (.long j25_s0), .second, .val (.long v35), .second, .val (.long v46), .second, .val (.int (own_b (¬ ((p3 &&& (4 : Int32)) = (0 : Int32))))), .val (.ref b62), .val (.ref b71), .val (.long v142), .second, .val (.int (own_b (¬ (v142 < j25_s0)))), .unset, .unset, .unset, .unset, .unset] [])) target
        refine XS.lload Xg134.here hx rfl (hb hby at_164) rfl ?_
        show Steps p.tables e below (Tg134.setTop (mkF m 166 #[.val (.long q0), .second, .val (.long q1), .second, .val (.long q2), .second, .val (.int p3), .val (.long j25_s0), .second, .val (.long v35), .second, .val (.long v46), .second, .val (.int (own_b (¬ ((p3 &&& (4 : Int32)) = (0 : Int32))))), .val (.ref b62), .val (.ref b71), .val (.long v142), .second, .val (.int (own_b (¬ (v142 < j25_s0)))), .unset, .unset, .unset, .unset, .unset] [(.long j25_s0)])) target
        refine XS.lconst Xg134.here hx rfl (hb hby at_166) ?_
        show Steps p.tables e below (Tg134.setTop (mkF m 167 #[.val (.long q0), .second, .val (.long q1), .second, .val (.long q2), .second, .val (.int p3), .val (.long j25_s0), .second, .val (.long v35), .second, .val (.long v46), .second, .val (.int (own_b (¬ ((p3 &&& (4 : Int32)) = (0 : Int32))))), .val (.ref b62), .val (.ref b71), .val (.long v142), .second, .val (.int (own_b (¬ (v142 < j25_s0)))), .unset, .unset, .unset, .unset, .unset] [(.long (1 : Int64)), (.long j25_s0)])) target
        refine XS.ladd Xg134.here hx rfl (hb hby at_167) rfl ?_
        show Steps p.tables e below (Tg134.setTop (mkF m 168 #[.val (.long q0), .second, .val (.long q1), .second, .val (.long q2), .second, .val (.int p3), .val (.long j25_s0), .second, .val (.long v35), .second, .val (.long v46), .second, .val (.int (own_b (¬ ((p3 &&& (4 : Int32)) = (0 : Int32))))), .val (.ref b62), .val (.ref b71), .val (.long v142), .second, .val (.int (own_b (¬ (v142 < j25_s0)))), .unset, .unset, .unset, .unset, .unset] [(.long (j25_s0 + (1 : Int64)))])) target
        refine XS.goto Xg134.here hx rfl (pc0 := 168) (pc' := 172) rfl (hb hby at_168) (by decide) (by decide) ?_
        exact kt
      exact ⟨_, ⟨(j25_s0 + (1 : Int64)), rfl, (if_pos c161).symm⟩, fun _ k => k⟩
    · refine own_st (B := Tg134.setTop (mkF m 172 #[.val (.long q0), .second, .val (.long q1), .second, .val (.long q2), .second, .val (.int p3), .val (.long j25_s0), .second, .val (.long v35), .second, .val (.long v46), .second, .val (.int (own_b (¬ ((p3 &&& (4 : Int32)) = (0 : Int32))))), .val (.ref b62), .val (.ref b71), .val (.long v142), .second, .val (.int (own_b (¬ (v142 < j25_s0)))), .unset, .unset, .unset, .unset, .unset] [(.long (1 : Int64))])) (fun target kt => ?_) ?_
      · show Steps p.tables e below (Tg134.setTop (mkF m 161 #[.val (.long q0), .second, .val (.long q1), .second, .val (.long q2), .second, .val (.int p3), .val (.long j25_s0), .second, .val (.long v35), .second, .val (.long v46), .second, .val (.int (own_b (¬ ((p3 &&& (4 : Int32)) = (0 : Int32))))), .val (.ref b62), .val (.ref b71), .val (.long v142), .second, .val (.int (own_b (¬ (v142 < j25_s0)))), .unset, .unset, .unset, .unset, .unset] [(.int (own_b (¬ (v142 < j25_s0))))])) target
        refine XS.ifYes Xg134.here hx rfl (pc0 := 161) (pc' := 171) rfl (hb hby at_161) rfl ((if0 _ _).trans (teq (own_b00 rfl c161)).1) (by decide) (by decide) ?_
        show Steps p.tables e below (Tg134.setTop (mkF m 171 #[.val (.long q0), .second, .val (.long q1), .second, .val (.long q2), .second, .val (.int p3), .val (.long j25_s0), .second, .val (.long v35), .second, .val (.long v46), .second, .val (.int (own_b (¬ ((p3 &&& (4 : Int32)) = (0 : Int32))))), .val (.ref b62), .val (.ref b71), .val (.long v142), .second, .val (.int (own_b (¬ (v142 < j25_s0)))), .unset, .unset, .unset, .unset, .unset] [])) target
        refine XS.lconst Xg134.here hx rfl (hb hby at_171) ?_
        exact kt
      exact ⟨_, ⟨(1 : Int64), rfl, (if_neg c161).symm⟩, fun _ k => k⟩
  refine own_st st_M172 ?_
  refine own_st (B := Tg134.setTop (mkF m 176 #[.val (.long q0), .second, .val (.long q1), .second, .val (.long q2), .second, .val (.int p3), .val (.long j25_s0), .second, .val (.long v35), .second, .val (.long v46), .second, .val (.int (own_b (¬ ((p3 &&& (4 : Int32)) = (0 : Int32))))), .val (.ref b62), .val (.ref b71), .val (.long v142), .second, .val (.int (own_b (¬ (v142 < j25_s0)))), .val (.long j172_s0), .second, .unset, .unset, .unset] [(.int (own_b (¬ (v142 < j25_s0))))])) (fun target kt => ?_) ?_
  · show Steps p.tables e below (Tg134.setTop (mkF m 172 #[.val (.long q0), .second, .val (.long q1), .second, .val (.long q2), .second, .val (.int p3), .val (.long j25_s0), .second, .val (.long v35), .second, .val (.long v46), .second, .val (.int (own_b (¬ ((p3 &&& (4 : Int32)) = (0 : Int32))))), .val (.ref b62), .val (.ref b71), .val (.long v142), .second, .val (.int (own_b (¬ (v142 < j25_s0)))), .unset, .unset, .unset, .unset, .unset] [(.long j172_s0)])) target
    refine XS.lstore Xg134.here hx rfl (hb hby at_172) rfl (l' := #[.val (.long q0), .second, .val (.long q1), .second, .val (.long q2), .second, .val (.int p3), .val (.long j25_s0), .second, .val (.long v35), .second, .val (.long v46), .second, .val (.int (own_b (¬ ((p3 &&& (4 : Int32)) = (0 : Int32))))), .val (.ref b62), .val (.ref b71), .val (.long v142), .second, .val (.int (own_b (¬ (v142 < j25_s0)))), .val (.long j172_s0), .second, .unset, .unset, .unset]) rfl ?_
    show Steps p.tables e below (Tg134.setTop (mkF m 174 #[.val (.long q0), .second, .val (.long q1), .second, .val (.long q2), .second, .val (.int p3), .val (.long j25_s0), .second, .val (.long v35), .second, .val (.long v46), .second, .val (.int (own_b (¬ ((p3 &&& (4 : Int32)) = (0 : Int32))))), .val (.ref b62), .val (.ref b71), .val (.long v142), .second, .val (.int (own_b (¬ (v142 < j25_s0)))), .val (.long j172_s0), .second, .unset, .unset, .unset] [])) target
    refine XS.iload Xg134.here hx rfl (hb hby at_174) rfl ?_
    exact kt
  obtain ⟨_, ⟨j195_s0, rfl, hj195_s0⟩, st_M195⟩ : own_Lead p.tables e below (Tg134.setTop (mkF m 176 #[.val (.long q0), .second, .val (.long q1), .second, .val (.long q2), .second, .val (.int p3), .val (.long j25_s0), .second, .val (.long v35), .second, .val (.long v46), .second, .val (.int (own_b (¬ ((p3 &&& (4 : Int32)) = (0 : Int32))))), .val (.ref b62), .val (.ref b71), .val (.long v142), .second, .val (.int (own_b (¬ (v142 < j25_s0)))), .val (.long j172_s0), .second, .unset, .unset, .unset] [(.int (own_b (¬ (v142 < j25_s0))))])) (fun B => ∃ (j195_s0 : Int64), B = Tg134.setTop (mkF m 195 #[.val (.long q0), .second, .val (.long q1), .second, .val (.long q2), .second, .val (.int p3), .val (.long j25_s0), .second, .val (.long v35), .second, .val (.long v46), .second, .val (.int (own_b (¬ ((p3 &&& (4 : Int32)) = (0 : Int32))))), .val (.ref b62), .val (.ref b71), .val (.long v142), .second, .val (.int (own_b (¬ (v142 < j25_s0)))), .val (.long j172_s0), .second, .unset, .unset, .unset] [(.long j195_s0)]) ∧ j195_s0 = (if ¬ (v142 < j25_s0) then (j25_s0 - (v142 - j25_s0)) else (j25_s0 - v142))) := by
    by_cases c176 : ¬ (v142 < j25_s0)
    · refine own_st (B := Tg134.setTop (mkF m 195 #[.val (.long q0), .second, .val (.long q1), .second, .val (.long q2), .second, .val (.int p3), .val (.long j25_s0), .second, .val (.long v35), .second, .val (.long v46), .second, .val (.int (own_b (¬ ((p3 &&& (4 : Int32)) = (0 : Int32))))), .val (.ref b62), .val (.ref b71), .val (.long v142), .second, .val (.int (own_b (¬ (v142 < j25_s0)))), .val (.long j172_s0), .second, .unset, .unset, .unset] [(.long (j25_s0 - (v142 - j25_s0)))])) (fun target kt => ?_) ?_
      · show Steps p.tables e below (Tg134.setTop (mkF m 176 #[.val (.long q0), .second, .val (.long q1), .second, .val (.long q2), .second, .val (.int p3), .val (.long j25_s0), .second, .val (.long v35), .second, .val (.long v46), .second, .val (.int (own_b (¬ ((p3 &&& (4 : Int32)) = (0 : Int32))))), .val (.ref b62), .val (.ref b71), .val (.long v142), .second, .val (.int (own_b (¬ (v142 < j25_s0)))), .val (.long j172_s0), .second, .unset, .unset, .unset] [(.int (own_b (¬ (v142 < j25_s0))))])) target
        refine XS.ifNo Xg134.here hx rfl (hb hby at_176) rfl ((if0 _ _).trans (feq (own_bn0 rfl c176)).1) ?_
        show Steps p.tables e below (Tg134.setTop (mkF m 179 #[.val (.long q0), .second, .val (.long q1), .second, .val (.long q2), .second, .val (.int p3), .val (.long j25_s0), .second, .val (.long v35), .second, .val (.long v46), .second, .val (.int (own_b (¬ ((p3 &&& (4 : Int32)) = (0 : Int32))))), .val (.ref b62), .val (.ref b71), .val (.long v142), .second, .val (.int (own_b (¬ (v142 < j25_s0)))), .val (.long j172_s0), .second, .unset, .unset, .unset] [])) target
        refine XS.lload Xg134.here hx rfl (hb hby at_179) rfl ?_
        show Steps p.tables e below (Tg134.setTop (mkF m 181 #[.val (.long q0), .second, .val (.long q1), .second, .val (.long q2), .second, .val (.int p3), .val (.long j25_s0), .second, .val (.long v35), .second, .val (.long v46), .second, .val (.int (own_b (¬ ((p3 &&& (4 : Int32)) = (0 : Int32))))), .val (.ref b62), .val (.ref b71), .val (.long v142), .second, .val (.int (own_b (¬ (v142 < j25_s0)))), .val (.long j172_s0), .second, .unset, .unset, .unset] [(.long j25_s0)])) target
        refine XS.lload Xg134.here hx rfl (hb hby at_181) rfl ?_
        show Steps p.tables e below (Tg134.setTop (mkF m 183 #[.val (.long q0), .second, .val (.long q1), .second, .val (.long q2), .second, .val (.int p3), .val (.long j25_s0), .second, .val (.long v35), .second, .val (.long v46), .second, .val (.int (own_b (¬ ((p3 &&& (4 : Int32)) = (0 : Int32))))), .val (.ref b62), .val (.ref b71), .val (.long v142), .second, .val (.int (own_b (¬ (v142 < j25_s0)))), .val (.long j172_s0), .second, .unset, .unset, .unset] [(.long v142), (.long j25_s0)])) target
        refine XS.lload Xg134.here hx rfl (hb hby at_183) rfl ?_
        show Steps p.tables e below (Tg134.setTop (mkF m 185 #[.val (.long q0), .second, .val (.long q1), .second, .val (.long q2), .second, .val (.int p3), .val (.long j25_s0), .second, .val (.long v35), .second, .val (.long v46), .second, .val (.int (own_b (¬ ((p3 &&& (4 : Int32)) = (0 : Int32))))), .val (.ref b62), .val (.ref b71), .val (.long v142), .second, .val (.int (own_b (¬ (v142 < j25_s0)))), .val (.long j172_s0), .second, .unset, .unset, .unset] [(.long j25_s0), (.long v142), (.long j25_s0)])) target
        refine XS.lsub Xg134.here hx rfl (hb hby at_185) rfl ?_
        show Steps p.tables e below (Tg134.setTop (mkF m 186 #[.val (.long q0), .second, .val (.long q1), .second, .val (.long q2), .second, .val (.int p3), .val (.long j25_s0), .second, .val (.long v35), .second, .val (.long v46), .second, .val (.int (own_b (¬ ((p3 &&& (4 : Int32)) = (0 : Int32))))), .val (.ref b62), .val (.ref b71), .val (.long v142), .second, .val (.int (own_b (¬ (v142 < j25_s0)))), .val (.long j172_s0), .second, .unset, .unset, .unset] [(.long (v142 - j25_s0)), (.long j25_s0)])) target
        refine XS.lsub Xg134.here hx rfl (hb hby at_186) rfl ?_
        show Steps p.tables e below (Tg134.setTop (mkF m 187 #[.val (.long q0), .second, .val (.long q1), .second, .val (.long q2), .second, .val (.int p3), .val (.long j25_s0), .second, .val (.long v35), .second, .val (.long v46), .second, .val (.int (own_b (¬ ((p3 &&& (4 : Int32)) = (0 : Int32))))), .val (.ref b62), .val (.ref b71), .val (.long v142), .second, .val (.int (own_b (¬ (v142 < j25_s0)))), .val (.long j172_s0), .second, .unset, .unset, .unset] [(.long (j25_s0 - (v142 - j25_s0)))])) target
        refine XS.goto Xg134.here hx rfl (pc0 := 187) (pc' := 195) rfl (hb hby at_187) (by decide) (by decide) ?_
        exact kt
      exact ⟨_, ⟨(j25_s0 - (v142 - j25_s0)), rfl, (if_pos c176).symm⟩, fun _ k => k⟩
    · refine own_st (B := Tg134.setTop (mkF m 195 #[.val (.long q0), .second, .val (.long q1), .second, .val (.long q2), .second, .val (.int p3), .val (.long j25_s0), .second, .val (.long v35), .second, .val (.long v46), .second, .val (.int (own_b (¬ ((p3 &&& (4 : Int32)) = (0 : Int32))))), .val (.ref b62), .val (.ref b71), .val (.long v142), .second, .val (.int (own_b (¬ (v142 < j25_s0)))), .val (.long j172_s0), .second, .unset, .unset, .unset] [(.long (j25_s0 - v142))])) (fun target kt => ?_) ?_
      · show Steps p.tables e below (Tg134.setTop (mkF m 176 #[.val (.long q0), .second, .val (.long q1), .second, .val (.long q2), .second, .val (.int p3), .val (.long j25_s0), .second, .val (.long v35), .second, .val (.long v46), .second, .val (.int (own_b (¬ ((p3 &&& (4 : Int32)) = (0 : Int32))))), .val (.ref b62), .val (.ref b71), .val (.long v142), .second, .val (.int (own_b (¬ (v142 < j25_s0)))), .val (.long j172_s0), .second, .unset, .unset, .unset] [(.int (own_b (¬ (v142 < j25_s0))))])) target
        refine XS.ifYes Xg134.here hx rfl (pc0 := 176) (pc' := 190) rfl (hb hby at_176) rfl ((if0 _ _).trans (teq (own_b00 rfl c176)).1) (by decide) (by decide) ?_
        show Steps p.tables e below (Tg134.setTop (mkF m 190 #[.val (.long q0), .second, .val (.long q1), .second, .val (.long q2), .second, .val (.int p3), .val (.long j25_s0), .second, .val (.long v35), .second, .val (.long v46), .second, .val (.int (own_b (¬ ((p3 &&& (4 : Int32)) = (0 : Int32))))), .val (.ref b62), .val (.ref b71), .val (.long v142), .second, .val (.int (own_b (¬ (v142 < j25_s0)))), .val (.long j172_s0), .second, .unset, .unset, .unset] [])) target
        refine XS.lload Xg134.here hx rfl (hb hby at_190) rfl ?_
        show Steps p.tables e below (Tg134.setTop (mkF m 192 #[.val (.long q0), .second, .val (.long q1), .second, .val (.long q2), .second, .val (.int p3), .val (.long j25_s0), .second, .val (.long v35), .second, .val (.long v46), .second, .val (.int (own_b (¬ ((p3 &&& (4 : Int32)) = (0 : Int32))))), .val (.ref b62), .val (.ref b71), .val (.long v142), .second, .val (.int (own_b (¬ (v142 < j25_s0)))), .val (.long j172_s0), .second, .unset, .unset, .unset] [(.long j25_s0)])) target
        refine XS.lload Xg134.here hx rfl (hb hby at_192) rfl ?_
        show Steps p.tables e below (Tg134.setTop (mkF m 194 #[.val (.long q0), .second, .val (.long q1), .second, .val (.long q2), .second, .val (.int p3), .val (.long j25_s0), .second, .val (.long v35), .second, .val (.long v46), .second, .val (.int (own_b (¬ ((p3 &&& (4 : Int32)) = (0 : Int32))))), .val (.ref b62), .val (.ref b71), .val (.long v142), .second, .val (.int (own_b (¬ (v142 < j25_s0)))), .val (.long j172_s0), .second, .unset, .unset, .unset] [(.long v142), (.long j25_s0)])) target
        refine XS.lsub Xg134.here hx rfl (hb hby at_194) rfl ?_
        exact kt
      exact ⟨_, ⟨(j25_s0 - v142), rfl, (if_neg c176).symm⟩, fun _ k => k⟩
  refine own_st st_M195 ?_
  refine own_st (B := Tg134.setTop (mkF m 199 #[.val (.long q0), .second, .val (.long q1), .second, .val (.long q2), .second, .val (.int p3), .val (.long j25_s0), .second, .val (.long v35), .second, .val (.long v46), .second, .val (.int (own_b (¬ ((p3 &&& (4 : Int32)) = (0 : Int32))))), .val (.ref b62), .val (.ref b71), .val (.long v142), .second, .val (.int (own_b (¬ (v142 < j25_s0)))), .val (.long j172_s0), .second, .val (.long j195_s0), .second, .unset] [(.int (own_b (¬ (v142 < j25_s0))))])) (fun target kt => ?_) ?_
  · show Steps p.tables e below (Tg134.setTop (mkF m 195 #[.val (.long q0), .second, .val (.long q1), .second, .val (.long q2), .second, .val (.int p3), .val (.long j25_s0), .second, .val (.long v35), .second, .val (.long v46), .second, .val (.int (own_b (¬ ((p3 &&& (4 : Int32)) = (0 : Int32))))), .val (.ref b62), .val (.ref b71), .val (.long v142), .second, .val (.int (own_b (¬ (v142 < j25_s0)))), .val (.long j172_s0), .second, .unset, .unset, .unset] [(.long j195_s0)])) target
    refine XS.lstore Xg134.here hx rfl (hb hby at_195) rfl (l' := #[.val (.long q0), .second, .val (.long q1), .second, .val (.long q2), .second, .val (.int p3), .val (.long j25_s0), .second, .val (.long v35), .second, .val (.long v46), .second, .val (.int (own_b (¬ ((p3 &&& (4 : Int32)) = (0 : Int32))))), .val (.ref b62), .val (.ref b71), .val (.long v142), .second, .val (.int (own_b (¬ (v142 < j25_s0)))), .val (.long j172_s0), .second, .val (.long j195_s0), .second, .unset]) rfl ?_
    show Steps p.tables e below (Tg134.setTop (mkF m 197 #[.val (.long q0), .second, .val (.long q1), .second, .val (.long q2), .second, .val (.int p3), .val (.long j25_s0), .second, .val (.long v35), .second, .val (.long v46), .second, .val (.int (own_b (¬ ((p3 &&& (4 : Int32)) = (0 : Int32))))), .val (.ref b62), .val (.ref b71), .val (.long v142), .second, .val (.int (own_b (¬ (v142 < j25_s0)))), .val (.long j172_s0), .second, .val (.long j195_s0), .second, .unset] [])) target
    refine XS.iload Xg134.here hx rfl (hb hby at_197) rfl ?_
    exact kt
  obtain ⟨_, ⟨j212_s0, rfl, rfl⟩, st_M212⟩ : own_Lead p.tables e below (Tg134.setTop (mkF m 199 #[.val (.long q0), .second, .val (.long q1), .second, .val (.long q2), .second, .val (.int p3), .val (.long j25_s0), .second, .val (.long v35), .second, .val (.long v46), .second, .val (.int (own_b (¬ ((p3 &&& (4 : Int32)) = (0 : Int32))))), .val (.ref b62), .val (.ref b71), .val (.long v142), .second, .val (.int (own_b (¬ (v142 < j25_s0)))), .val (.long j172_s0), .second, .val (.long j195_s0), .second, .unset] [(.int (own_b (¬ (v142 < j25_s0))))])) (fun B => ∃ (j212_s0 : Int32), B = Tg134.setTop (mkF m 212 #[.val (.long q0), .second, .val (.long q1), .second, .val (.long q2), .second, .val (.int p3), .val (.long j25_s0), .second, .val (.long v35), .second, .val (.long v46), .second, .val (.int (own_b (¬ ((p3 &&& (4 : Int32)) = (0 : Int32))))), .val (.ref b62), .val (.ref b71), .val (.long v142), .second, .val (.int (own_b (¬ (v142 < j25_s0)))), .val (.long j172_s0), .second, .val (.long j195_s0), .second, .unset] [(.int j212_s0)]) ∧ j212_s0 = own_b (((¬ (v142 < j25_s0)) ∨ (¬ (¬ ((p3 &&& (4 : Int32)) = (0 : Int32))))))) := by
    by_cases c199 : ¬ (v142 < j25_s0)
    · refine own_st (B := Tg134.setTop (mkF m 212 #[.val (.long q0), .second, .val (.long q1), .second, .val (.long q2), .second, .val (.int p3), .val (.long j25_s0), .second, .val (.long v35), .second, .val (.long v46), .second, .val (.int (own_b (¬ ((p3 &&& (4 : Int32)) = (0 : Int32))))), .val (.ref b62), .val (.ref b71), .val (.long v142), .second, .val (.int (own_b (¬ (v142 < j25_s0)))), .val (.long j172_s0), .second, .val (.long j195_s0), .second, .unset] [(.int (1 : Int32))])) (fun target kt => ?_) ?_
      · show Steps p.tables e below (Tg134.setTop (mkF m 199 #[.val (.long q0), .second, .val (.long q1), .second, .val (.long q2), .second, .val (.int p3), .val (.long j25_s0), .second, .val (.long v35), .second, .val (.long v46), .second, .val (.int (own_b (¬ ((p3 &&& (4 : Int32)) = (0 : Int32))))), .val (.ref b62), .val (.ref b71), .val (.long v142), .second, .val (.int (own_b (¬ (v142 < j25_s0)))), .val (.long j172_s0), .second, .val (.long j195_s0), .second, .unset] [(.int (own_b (¬ (v142 < j25_s0))))])) target
        refine XS.ifYes Xg134.here hx rfl (pc0 := 199) (pc' := 207) rfl (hb hby at_199) rfl ((if0 _ _).trans (feq (own_bn0 rfl c199)).2) (by decide) (by decide) ?_
        show Steps p.tables e below (Tg134.setTop (mkF m 207 #[.val (.long q0), .second, .val (.long q1), .second, .val (.long q2), .second, .val (.int p3), .val (.long j25_s0), .second, .val (.long v35), .second, .val (.long v46), .second, .val (.int (own_b (¬ ((p3 &&& (4 : Int32)) = (0 : Int32))))), .val (.ref b62), .val (.ref b71), .val (.long v142), .second, .val (.int (own_b (¬ (v142 < j25_s0)))), .val (.long j172_s0), .second, .val (.long j195_s0), .second, .unset] [])) target
        refine XS.iconst Xg134.here hx rfl (hb hby at_207) ?_
        show Steps p.tables e below (Tg134.setTop (mkF m 208 #[.val (.long q0), .second, .val (.long q1), .second, .val (.long q2), .second, .val (.int p3), .val (.long j25_s0), .second, .val (.long v35), .second, .val (.long v46), .second, .val (.int (own_b (¬ ((p3 &&& (4 : Int32)) = (0 : Int32))))), .val (.ref b62), .val (.ref b71), .val (.long v142), .second, .val (.int (own_b (¬ (v142 < j25_s0)))), .val (.long j172_s0), .second, .val (.long j195_s0), .second, .unset] [(.int (1 : Int32))])) target
        refine XS.goto Xg134.here hx rfl (pc0 := 208) (pc' := 212) rfl (hb hby at_208) (by decide) (by decide) ?_
        exact kt
      exact ⟨_, ⟨(1 : Int32), rfl, (own_b1 (Or.inl c199)).symm⟩, fun _ k => k⟩
    · refine own_st (B := Tg134.setTop (mkF m 204 #[.val (.long q0), .second, .val (.long q1), .second, .val (.long q2), .second, .val (.int p3), .val (.long j25_s0), .second, .val (.long v35), .second, .val (.long v46), .second, .val (.int (own_b (¬ ((p3 &&& (4 : Int32)) = (0 : Int32))))), .val (.ref b62), .val (.ref b71), .val (.long v142), .second, .val (.int (own_b (¬ (v142 < j25_s0)))), .val (.long j172_s0), .second, .val (.long j195_s0), .second, .unset] [(.int (own_b (¬ ((p3 &&& (4 : Int32)) = (0 : Int32)))))])) (fun target kt => ?_) ?_
      · show Steps p.tables e below (Tg134.setTop (mkF m 199 #[.val (.long q0), .second, .val (.long q1), .second, .val (.long q2), .second, .val (.int p3), .val (.long j25_s0), .second, .val (.long v35), .second, .val (.long v46), .second, .val (.int (own_b (¬ ((p3 &&& (4 : Int32)) = (0 : Int32))))), .val (.ref b62), .val (.ref b71), .val (.long v142), .second, .val (.int (own_b (¬ (v142 < j25_s0)))), .val (.long j172_s0), .second, .val (.long j195_s0), .second, .unset] [(.int (own_b (¬ (v142 < j25_s0))))])) target
        refine XS.ifNo Xg134.here hx rfl (hb hby at_199) rfl ((if0 _ _).trans (teq (own_b00 rfl c199)).2) ?_
        show Steps p.tables e below (Tg134.setTop (mkF m 202 #[.val (.long q0), .second, .val (.long q1), .second, .val (.long q2), .second, .val (.int p3), .val (.long j25_s0), .second, .val (.long v35), .second, .val (.long v46), .second, .val (.int (own_b (¬ ((p3 &&& (4 : Int32)) = (0 : Int32))))), .val (.ref b62), .val (.ref b71), .val (.long v142), .second, .val (.int (own_b (¬ (v142 < j25_s0)))), .val (.long j172_s0), .second, .val (.long j195_s0), .second, .unset] [])) target
        refine XS.iload Xg134.here hx rfl (hb hby at_202) rfl ?_
        exact kt
      by_cases c204 : ¬ ((p3 &&& (4 : Int32)) = (0 : Int32))
      · refine own_st (B := Tg134.setTop (mkF m 212 #[.val (.long q0), .second, .val (.long q1), .second, .val (.long q2), .second, .val (.int p3), .val (.long j25_s0), .second, .val (.long v35), .second, .val (.long v46), .second, .val (.int (own_b (¬ ((p3 &&& (4 : Int32)) = (0 : Int32))))), .val (.ref b62), .val (.ref b71), .val (.long v142), .second, .val (.int (own_b (¬ (v142 < j25_s0)))), .val (.long j172_s0), .second, .val (.long j195_s0), .second, .unset] [(.int (0 : Int32))])) (fun target kt => ?_) ?_
        · show Steps p.tables e below (Tg134.setTop (mkF m 204 #[.val (.long q0), .second, .val (.long q1), .second, .val (.long q2), .second, .val (.int p3), .val (.long j25_s0), .second, .val (.long v35), .second, .val (.long v46), .second, .val (.int (own_b (¬ ((p3 &&& (4 : Int32)) = (0 : Int32))))), .val (.ref b62), .val (.ref b71), .val (.long v142), .second, .val (.int (own_b (¬ (v142 < j25_s0)))), .val (.long j172_s0), .second, .val (.long j195_s0), .second, .unset] [(.int (own_b (¬ ((p3 &&& (4 : Int32)) = (0 : Int32)))))])) target
          refine XS.ifYes Xg134.here hx rfl (pc0 := 204) (pc' := 211) rfl (hb hby at_204) rfl ((if0 _ _).trans (feq (own_bn0 rfl c204)).2) (by decide) (by decide) ?_
          show Steps p.tables e below (Tg134.setTop (mkF m 211 #[.val (.long q0), .second, .val (.long q1), .second, .val (.long q2), .second, .val (.int p3), .val (.long j25_s0), .second, .val (.long v35), .second, .val (.long v46), .second, .val (.int (own_b (¬ ((p3 &&& (4 : Int32)) = (0 : Int32))))), .val (.ref b62), .val (.ref b71), .val (.long v142), .second, .val (.int (own_b (¬ (v142 < j25_s0)))), .val (.long j172_s0), .second, .val (.long j195_s0), .second, .unset] [])) target
          refine XS.iconst Xg134.here hx rfl (hb hby at_211) ?_
          exact kt
        exact ⟨_, ⟨(0 : Int32), rfl, (own_b0 (fun w => w.elim c199 (fun w => w c204))).symm⟩, fun _ k => k⟩
      · refine own_st (B := Tg134.setTop (mkF m 212 #[.val (.long q0), .second, .val (.long q1), .second, .val (.long q2), .second, .val (.int p3), .val (.long j25_s0), .second, .val (.long v35), .second, .val (.long v46), .second, .val (.int (own_b (¬ ((p3 &&& (4 : Int32)) = (0 : Int32))))), .val (.ref b62), .val (.ref b71), .val (.long v142), .second, .val (.int (own_b (¬ (v142 < j25_s0)))), .val (.long j172_s0), .second, .val (.long j195_s0), .second, .unset] [(.int (1 : Int32))])) (fun target kt => ?_) ?_
        · show Steps p.tables e below (Tg134.setTop (mkF m 204 #[.val (.long q0), .second, .val (.long q1), .second, .val (.long q2), .second, .val (.int p3), .val (.long j25_s0), .second, .val (.long v35), .second, .val (.long v46), .second, .val (.int (own_b (¬ ((p3 &&& (4 : Int32)) = (0 : Int32))))), .val (.ref b62), .val (.ref b71), .val (.long v142), .second, .val (.int (own_b (¬ (v142 < j25_s0)))), .val (.long j172_s0), .second, .val (.long j195_s0), .second, .unset] [(.int (own_b (¬ ((p3 &&& (4 : Int32)) = (0 : Int32)))))])) target
          refine XS.ifNo Xg134.here hx rfl (hb hby at_204) rfl ((if0 _ _).trans (teq (own_b00 rfl c204)).2) ?_
          show Steps p.tables e below (Tg134.setTop (mkF m 207 #[.val (.long q0), .second, .val (.long q1), .second, .val (.long q2), .second, .val (.int p3), .val (.long j25_s0), .second, .val (.long v35), .second, .val (.long v46), .second, .val (.int (own_b (¬ ((p3 &&& (4 : Int32)) = (0 : Int32))))), .val (.ref b62), .val (.ref b71), .val (.long v142), .second, .val (.int (own_b (¬ (v142 < j25_s0)))), .val (.long j172_s0), .second, .val (.long j195_s0), .second, .unset] [])) target
          refine XS.iconst Xg134.here hx rfl (hb hby at_207) ?_
          show Steps p.tables e below (Tg134.setTop (mkF m 208 #[.val (.long q0), .second, .val (.long q1), .second, .val (.long q2), .second, .val (.int p3), .val (.long j25_s0), .second, .val (.long v35), .second, .val (.long v46), .second, .val (.int (own_b (¬ ((p3 &&& (4 : Int32)) = (0 : Int32))))), .val (.ref b62), .val (.ref b71), .val (.long v142), .second, .val (.int (own_b (¬ (v142 < j25_s0)))), .val (.long j172_s0), .second, .val (.long j195_s0), .second, .unset] [(.int (1 : Int32))])) target
          refine XS.goto Xg134.here hx rfl (pc0 := 208) (pc' := 212) rfl (hb hby at_208) (by decide) (by decide) ?_
          exact kt
        exact ⟨_, ⟨(1 : Int32), rfl, (own_b1 (Or.inr c204)).symm⟩, fun _ k => k⟩
  refine own_st st_M212 ?_
  refine own_st (B := Tg134.setTop (mkF m 219 #[.val (.long q0), .second, .val (.long q1), .second, .val (.long q2), .second, .val (.int p3), .val (.long j25_s0), .second, .val (.long v35), .second, .val (.long v46), .second, .val (.int (own_b (¬ ((p3 &&& (4 : Int32)) = (0 : Int32))))), .val (.ref b62), .val (.ref b71), .val (.long v142), .second, .val (.int (own_b (¬ (v142 < j25_s0)))), .val (.long j172_s0), .second, .val (.long j195_s0), .second, .val (.int (own_b ((¬ (v142 < j25_s0)) ∨ (¬ (¬ ((p3 &&& (4 : Int32)) = (0 : Int32)))))))] [(.int (1 : Int32)), (.ref b71), (.ref b62)])) (fun target kt => ?_) ?_
  · show Steps p.tables e below (Tg134.setTop (mkF m 212 #[.val (.long q0), .second, .val (.long q1), .second, .val (.long q2), .second, .val (.int p3), .val (.long j25_s0), .second, .val (.long v35), .second, .val (.long v46), .second, .val (.int (own_b (¬ ((p3 &&& (4 : Int32)) = (0 : Int32))))), .val (.ref b62), .val (.ref b71), .val (.long v142), .second, .val (.int (own_b (¬ (v142 < j25_s0)))), .val (.long j172_s0), .second, .val (.long j195_s0), .second, .unset] [(.int (own_b ((¬ (v142 < j25_s0)) ∨ (¬ (¬ ((p3 &&& (4 : Int32)) = (0 : Int32)))))))])) target
    refine XS.istore Xg134.here hx rfl (hb hby at_212) rfl (l' := #[.val (.long q0), .second, .val (.long q1), .second, .val (.long q2), .second, .val (.int p3), .val (.long j25_s0), .second, .val (.long v35), .second, .val (.long v46), .second, .val (.int (own_b (¬ ((p3 &&& (4 : Int32)) = (0 : Int32))))), .val (.ref b62), .val (.ref b71), .val (.long v142), .second, .val (.int (own_b (¬ (v142 < j25_s0)))), .val (.long j172_s0), .second, .val (.long j195_s0), .second, .val (.int (own_b ((¬ (v142 < j25_s0)) ∨ (¬ (¬ ((p3 &&& (4 : Int32)) = (0 : Int32)))))))]) rfl ?_
    show Steps p.tables e below (Tg134.setTop (mkF m 214 #[.val (.long q0), .second, .val (.long q1), .second, .val (.long q2), .second, .val (.int p3), .val (.long j25_s0), .second, .val (.long v35), .second, .val (.long v46), .second, .val (.int (own_b (¬ ((p3 &&& (4 : Int32)) = (0 : Int32))))), .val (.ref b62), .val (.ref b71), .val (.long v142), .second, .val (.int (own_b (¬ (v142 < j25_s0)))), .val (.long j172_s0), .second, .val (.long j195_s0), .second, .val (.int (own_b ((¬ (v142 < j25_s0)) ∨ (¬ (¬ ((p3 &&& (4 : Int32)) = (0 : Int32)))))))] [])) target
    refine XS.aload Xg134.here hx rfl (hb hby at_214) rfl rfl ?_
    show Steps p.tables e below (Tg134.setTop (mkF m 216 #[.val (.long q0), .second, .val (.long q1), .second, .val (.long q2), .second, .val (.int p3), .val (.long j25_s0), .second, .val (.long v35), .second, .val (.long v46), .second, .val (.int (own_b (¬ ((p3 &&& (4 : Int32)) = (0 : Int32))))), .val (.ref b62), .val (.ref b71), .val (.long v142), .second, .val (.int (own_b (¬ (v142 < j25_s0)))), .val (.long j172_s0), .second, .val (.long j195_s0), .second, .val (.int (own_b ((¬ (v142 < j25_s0)) ∨ (¬ (¬ ((p3 &&& (4 : Int32)) = (0 : Int32)))))))] [(.ref b62)])) target
    refine XS.aload Xg134.here hx rfl (hb hby at_216) rfl rfl ?_
    show Steps p.tables e below (Tg134.setTop (mkF m 218 #[.val (.long q0), .second, .val (.long q1), .second, .val (.long q2), .second, .val (.int p3), .val (.long j25_s0), .second, .val (.long v35), .second, .val (.long v46), .second, .val (.int (own_b (¬ ((p3 &&& (4 : Int32)) = (0 : Int32))))), .val (.ref b62), .val (.ref b71), .val (.long v142), .second, .val (.int (own_b (¬ (v142 < j25_s0)))), .val (.long j172_s0), .second, .val (.long j195_s0), .second, .val (.int (own_b ((¬ (v142 < j25_s0)) ∨ (¬ (¬ ((p3 &&& (4 : Int32)) = (0 : Int32)))))))] [(.ref b71), (.ref b62)])) target
    refine XS.iconst Xg134.here hx rfl (hb hby at_218) ?_
    exact kt
  obtain ⟨cqg219, kqg219, qg219a, qg219b, qg219c⟩ := isOf hZ rfl F_66
  obtain ⟨_, _, ⟨Tg219, Lg219, kg219, ng219⟩, -, Xg219, ⟨Lcg219, hQg219, lg219, yg219, zg219⟩, stg219⟩ := Xg134.virtualBack hx (y := (⟨"com/example/evenkeel/evenkeel/FullCycles", "tookPart", "(Lcom/example/evenkeel/evenkeel/CurrentValue;I)V"⟩ : MethodName)) (z := (⟨"com/example/evenkeel/evenkeel/FullCycles", "tookPart", "(Lcom/example/evenkeel/evenkeel/CurrentValue;I)V"⟩ : MethodName)) hown (mvT hZ (hw _ (List.mem_of_getElem? (i := 46) rfl))) (mvT hZ (hw _ (List.mem_of_getElem? (i := 47) rfl))) (notFace_of_selects (args := #[]) (mvT hZ (hw _ (List.mem_of_getElem? (i := 49) rfl)))) (mvT hZ (hw _ (List.mem_of_getElem? (i := 49) rfl))) (mvT hZ (hw _ (List.mem_of_getElem? (i := 48) rfl))) (by decide) (backOf (W := 0) (own_rm7 l Z a0 hw [] b62 b71 (1 : Int32) w134_picks (0 : Int64) (0 : Int32) Tg134.heap n0 Zz_5 F_77 F_74 F_75 F_76 g_b71 ne_b62_b71) hZ (hw _ (List.mem_of_getElem? (i := 50) rfl)) (hw _ (List.mem_of_getElem? (i := 4) rfl)) (by decide) (by decide)) qg219a qg219c (g := (mkF m 219 #[.val (.long q0), .second, .val (.long q1), .second, .val (.long q2), .second, .val (.int p3), .val (.long j25_s0), .second, .val (.long v35), .second, .val (.long v46), .second, .val (.int (own_b (¬ ((p3 &&& (4 : Int32)) = (0 : Int32))))), .val (.ref b62), .val (.ref b71), .val (.long v142), .second, .val (.int (own_b (¬ (v142 < j25_s0)))), .val (.long j172_s0), .second, .val (.long j195_s0), .second, .val (.int (own_b ((¬ (v142 < j25_s0)) ∨ (¬ (¬ ((p3 &&& (4 : Int32)) = (0 : Int32)))))))] [(.int (1 : Int32)), (.ref b71), (.ref b62)])) rfl (by rw [hml]; rfl) (Steps.refl _) (argsL := [(.ref b71), (.int (1 : Int32))]) (rest := []) (lenOf own_pd3 rfl) rfl (by show 2 * 0 + _ ≤ _; exact Nat.le_of_eq rfl) (hb hby at_219) (fun _ _ => ⟨rfl, rfl, (by decide : 2 + 0 ≤ _), (by decide : 13 + 0 ≤ _)⟩)
  dsimp only [Pt.U, Pt.locs, Pt.cells, Pt.slots] at Xg219 lg219 yg219 zg219 stg219 hQg219
  subst lg219 yg219 zg219
  obtain ⟨rfl, Ng219q, Kg219, F_80, F_81, F_82⟩ := hQg219
  have F_83 := F_66.keep Kg219
  have F_84 := F_68.keep Kg219 (ninS ne_b62_b71 nin0)
  have F_85 := F_77.keep Kg219 (ninS ne_b62_b71 nin0)
  have F_86 := F_78.keep Kg219 (ninS ne_b62_b71 nin0)
  have F_87 := F_79.keep Kg219 (ninS ne_b62_b71 nin0)
  have F_88 := F_73.keep Kg219 (ninS ne_b62_b71 nin0)
  have F_89 := F_72.keep Kg219 (ninS ne_b62_b71 nin0)
  have F_90 := F_69.keep Kg219 (ninS ne_b62_b71 nin0)
  have Zz_6 : n0 ≤ Tg219.heap.size := Nat.le_trans Zz_5 Kg219.1
  have Ng219 := Fr.app Ng134 Ng219q
  refine own_st (fun _ k => stg219.trans k) ?_
  have hlt : v35 < j25_s0 := by rw [hv35]; exact own_lt q1 j25_s0 hT
  have e1 : w109_made = 0 := by rw [hw109_made, if_neg not_false]
  have b0 : w109_began = 1 := by rw [hw109_began, if_neg not_false]; decide
  have e2 : w117_made = v35 := by rw [hw117_made, e1, Int64.zero_add, if_pos hlt]
  have p1 : w117_picks = v35 := by rw [hw117_picks, Int64.zero_add]
  have b1 : w117_began = 1 := by rw [hw117_began, e1, Int64.zero_add, if_pos hlt, b0]
  refine own_st (B := Tg219.setTop (mkF m 224 #[.val (.long q0), .second, .val (.long q1), .second, .val (.long q2), .second, .val (.int p3), .val (.long j25_s0), .second, .val (.long v35), .second, .val (.long v46), .second, .val (.int (own_b (¬ ((p3 &&& (4 : Int32)) = (0 : Int32))))), .val (.ref b62), .val (.ref b71), .val (.long v142), .second, .val (.int (own_b (¬ (v142 < j25_s0)))), .val (.long j172_s0), .second, .val (.long j195_s0), .second, .val (.int (own_b ((¬ (v142 < j25_s0)) ∨ (¬ (¬ ((p3 &&& (4 : Int32)) = (0 : Int32)))))))] [(.ref b62)])) (fun target kt => ?_) ?_
  · show Steps p.tables e below (Tg219.setTop (mkF m 222 #[.val (.long q0), .second, .val (.long q1), .second, .val (.long q2), .second, .val (.int p3), .val (.long j25_s0), .second, .val (.long v35), .second, .val (.long v46), .second, .val (.int (own_b (¬ ((p3 &&& (4 : Int32)) = (0 : Int32))))), .val (.ref b62), .val (.ref b71), .val (.long v142), .second, .val (.int (own_b (¬ (v142 < j25_s0)))), .val (.long j172_s0), .second, .val (.long j195_s0), .second, .val (.int (own_b ((¬ (v142 < j25_s0)) ∨ (¬ (¬ ((p3 &&& (4 : Int32)) = (0 : Int32)))))))] [])) target
    refine XS.aload Xg219.here hx rfl (hb hby at_222) rfl rfl ?_
    exact kt
  obtain ⟨cqg224, kqg224, qg224a, qg224b, qg224c⟩ := isOf hZ rfl F_83
  obtain ⟨_, _, ⟨Tg224, Lg224, kg224, ng224⟩, -, Xg224, ⟨Lcg224, hQg224, lg224, yg224, zg224⟩, stg224⟩ := Xg219.virtualBack hx (y := (⟨"com/example/evenkeel/evenkeel/FullCycles", "cycle", "()J"⟩ : MethodName)) (z := (⟨"com/example/evenkeel/evenkeel/FullCycles", "cycle", "()J"⟩ : MethodName)) hown (mvT hZ (hw _ (List.mem_of_getElem? (i := 55) rfl))) (mvT hZ (hw _ (List.mem_of_getElem? (i := 56) rfl))) (notFace_of_selects (args := #[]) (mvT hZ (hw _ (List.mem_of_getElem? (i := 58) rfl)))) (mvT hZ (hw _ (List.mem_of_getElem? (i := 58) rfl))) (mvT hZ (hw _ (List.mem_of_getElem? (i := 57) rfl))) (by decide) (backOf (W := 0) (own_rm8 l Z a0 hw [] b62 w134_began Tg219.heap n0 Zz_6 F_86) hZ (hw _ (List.mem_of_getElem? (i := 59) rfl)) (hw _ (List.mem_of_getElem? (i := 4) rfl)) (by decide) (by decide)) qg224a qg224c (g := (mkF m 224 #[.val (.long q0), .second, .val (.long q1), .second, .val (.long q2), .second, .val (.int p3), .val (.long j25_s0), .second, .val (.long v35), .second, .val (.long v46), .second, .val (.int (own_b (¬ ((p3 &&& (4 : Int32)) = (0 : Int32))))), .val (.ref b62), .val (.ref b71), .val (.long v142), .second, .val (.int (own_b (¬ (v142 < j25_s0)))), .val (.long j172_s0), .second, .val (.long j195_s0), .second, .val (.int (own_b ((¬ (v142 < j25_s0)) ∨ (¬ (¬ ((p3 &&& (4 : Int32)) = (0 : Int32)))))))] [(.ref b62)])) rfl (by rw [hml]; rfl) (Steps.refl _) (argsL := []) (rest := []) (lenOf own_pd4 rfl) rfl (by show 2 * 0 + _ ≤ _; exact Nat.le_of_eq rfl) (hb hby at_224) (fun _ _ => ⟨rfl, rfl, (by decide : 2 + 0 ≤ _), (by decide : 13 + 0 ≤ _)⟩)
  dsimp only [Pt.U, Pt.locs, Pt.cells, Pt.slots] at Xg224 lg224 yg224 zg224 stg224 hQg224
  subst lg224 yg224 zg224
  obtain ⟨rfl, Ng224q, eg224⟩ := hQg224
  have Ng224 := Fr.app Ng219 Ng224q
  refine own_st (fun _ k => stg224.trans k) ?_
  refine own_st (B := Tg224.setTop (mkF m 230 #[.val (.long q0), .second, .val (.long q1), .second, .val (.long q2), .second, .val (.int p3), .val (.long j25_s0), .second, .val (.long v35), .second, .val (.long v46), .second, .val (.int (own_b (¬ ((p3 &&& (4 : Int32)) = (0 : Int32))))), .val (.ref b62), .val (.ref b71), .val (.long v142), .second, .val (.int (own_b (¬ (v142 < j25_s0)))), .val (.long j172_s0), .second, .val (.long j195_s0), .second, .val (.int (own_b ((¬ (v142 < j25_s0)) ∨ (¬ (¬ ((p3 &&& (4 : Int32)) = (0 : Int32)))))))] [(.int (lcmpW w134_began j172_s0))])) (fun target kt => ?_) ?_
  · show Steps p.tables e below (Tg224.setTop (mkF m 227 #[.val (.long q0), .second, .val (.long q1), .second, .val (.long q2), .second, .val (.int p3), .val (.long j25_s0), .second, .val (.long v35), .second, .val (.long v46), .second, .val (.int (own_b (¬ ((p3 &&& (4 : Int32)) = (0 : Int32))))), .val (.ref b62), .val (.ref b71), .val (.long v142), .second, .val (.int (own_b (¬ (v142 < j25_s0)))), .val (.long j172_s0), .second, .val (.long j195_s0), .second, .val (.int (own_b ((¬ (v142 < j25_s0)) ∨ (¬ (¬ ((p3 &&& (4 : Int32)) = (0 : Int32)))))))] [(.long w134_began)])) target
    refine XS.lload Xg224.here hx rfl (hb hby at_227) rfl ?_
    show Steps p.tables e below (Tg224.setTop (mkF m 229 #[.val (.long q0), .second, .val (.long q1), .second, .val (.long q2), .second, .val (.int p3), .val (.long j25_s0), .second, .val (.long v35), .second, .val (.long v46), .second, .val (.int (own_b (¬ ((p3 &&& (4 : Int32)) = (0 : Int32))))), .val (.ref b62), .val (.ref b71), .val (.long v142), .second, .val (.int (own_b (¬ (v142 < j25_s0)))), .val (.long j172_s0), .second, .val (.long j195_s0), .second, .val (.int (own_b ((¬ (v142 < j25_s0)) ∨ (¬ (¬ ((p3 &&& (4 : Int32)) = (0 : Int32)))))))] [(.long j172_s0), (.long w134_began)])) target
    refine XS.lcmp Xg224.here hx rfl (hb hby at_229) rfl ?_
    exact kt
  have c230 : w134_began = j172_s0 := by
    rw [hw134_began, e2, p1, b1, hj172_s0, ← hv142]
    by_cases hh : v142 < j25_s0
    · rw [if_pos hh, if_neg (fun h => h hh)]
    · rw [if_neg hh, if_pos hh]; exact own_y1 _ _
  refine own_st (B := Tg224.setTop (mkF m 235 #[.val (.long q0), .second, .val (.long q1), .second, .val (.long q2), .second, .val (.int p3), .val (.long j25_s0), .second, .val (.long v35), .second, .val (.long v46), .second, .val (.int (own_b (¬ ((p3 &&& (4 : Int32)) = (0 : Int32))))), .val (.ref b62), .val (.ref b71), .val (.long v142), .second, .val (.int (own_b (¬ (v142 < j25_s0)))), .val (.long j172_s0), .second, .val (.long j195_s0), .second, .val (.int (own_b ((¬ (v142 < j25_s0)) ∨ (¬ (¬ ((p3 &&& (4 : Int32)) = (0 : Int32)))))))] [(.ref b62)])) (fun target kt => ?_) ?_
  · show Steps p.tables e below (Tg224.setTop (mkF m 230 #[.val (.long q0), .second, .val (.long q1), .second, .val (.long q2), .second, .val (.int p3), .val (.long j25_s0), .second, .val (.long v35), .second, .val (.long v46), .second, .val (.int (own_b (¬ ((p3 &&& (4 : Int32)) = (0 : Int32))))), .val (.ref b62), .val (.ref b71), .val (.long v142), .second, .val (.int (own_b (¬ (v142 < j25_s0)))), .val (.long j172_s0), .second, .val (.long j195_s0), .second, .val (.int (own_b ((¬ (v142 < j25_s0)) ∨ (¬ (¬ ((p3 &&& (4 : Int32)) = (0 : Int32)))))))] [(.int (lcmpW w134_began j172_s0))])) target
    refine XS.ifNo Xg224.here hx rfl (hb hby at_230) rfl ((if0 _ _).trans (teq ((lw_eq w134_began j172_s0).mpr c230)).2) ?_
    show Steps p.tables e below (Tg224.setTop (mkF m 233 #[.val (.long q0), .second, .val (.long q1), .second, .val (.long q2), .second, .val (.int p3), .val (.long j25_s0), .second, .val (.long v35), .second, .val (.long v46), .second, .val (.int (own_b (¬ ((p3 &&& (4 : Int32)) = (0 : Int32))))), .val (.ref b62), .val (.ref b71), .val (.long v142), .second, .val (.int (own_b (¬ (v142 < j25_s0)))), .val (.long j172_s0), .second, .val (.long j195_s0), .second, .val (.int (own_b ((¬ (v142 < j25_s0)) ∨ (¬ (¬ ((p3 &&& (4 : Int32)) = (0 : Int32)))))))] [])) target
    refine XS.aload Xg224.here hx rfl (hb hby at_233) rfl rfl ?_
    exact kt
  obtain ⟨cqg235, kqg235, qg235a, qg235b, qg235c⟩ := isOf hZ eg224 F_83
  obtain ⟨_, _, ⟨Tg235, Lg235, kg235, ng235⟩, -, Xg235, ⟨Lcg235, hQg235, lg235, yg235, zg235⟩, stg235⟩ := Xg224.virtualBack hx (y := (⟨"com/example/evenkeel/evenkeel/FullCycles", "left", "()J"⟩ : MethodName)) (z := (⟨"com/example/evenkeel/evenkeel/FullCycles", "left", "()J"⟩ : MethodName)) hown (mvT hZ (hw _ (List.mem_of_getElem? (i := 60) rfl))) (mvT hZ (hw _ (List.mem_of_getElem? (i := 61) rfl))) (notFace_of_selects (args := #[]) (mvT hZ (hw _ (List.mem_of_getElem? (i := 63) rfl)))) (mvT hZ (hw _ (List.mem_of_getElem? (i := 63) rfl))) (mvT hZ (hw _ (List.mem_of_getElem? (i := 62) rfl))) (by decide) (backOf (W := 0) (own_rm9 l Z a0 hw [] b62 j25_s0 w134_made Tg219.heap n0 Zz_6 F_89 F_87) hZ (hw _ (List.mem_of_getElem? (i := 64) rfl)) (hw _ (List.mem_of_getElem? (i := 4) rfl)) (by decide) (by decide)) qg235a qg235c (g := (mkF m 235 #[.val (.long q0), .second, .val (.long q1), .second, .val (.long q2), .second, .val (.int p3), .val (.long j25_s0), .second, .val (.long v35), .second, .val (.long v46), .second, .val (.int (own_b (¬ ((p3 &&& (4 : Int32)) = (0 : Int32))))), .val (.ref b62), .val (.ref b71), .val (.long v142), .second, .val (.int (own_b (¬ (v142 < j25_s0)))), .val (.long j172_s0), .second, .val (.long j195_s0), .second, .val (.int (own_b ((¬ (v142 < j25_s0)) ∨ (¬ (¬ ((p3 &&& (4 : Int32)) = (0 : Int32)))))))] [(.ref b62)])) rfl (by rw [hml]; rfl) (Steps.refl _) (argsL := []) (rest := []) (lenOf own_pd4 rfl) rfl (by show 2 * 0 + _ ≤ _; exact Nat.le_of_eq rfl) (hb hby at_235) (fun _ _ => ⟨rfl, eg224, (by decide : 2 + 0 ≤ _), (by decide : 13 + 0 ≤ _)⟩)
  dsimp only [Pt.U, Pt.locs, Pt.cells, Pt.slots] at Xg235 lg235 yg235 zg235 stg235 hQg235
  subst lg235 yg235 zg235
  obtain ⟨rfl, Ng235q, eg235⟩ := hQg235
  have Ng235 := Fr.app Ng224 Ng235q
  refine own_st (fun _ k => stg235.trans k) ?_
  refine own_st (B := Tg235.setTop (mkF m 241 #[.val (.long q0), .second, .val (.long q1), .second, .val (.long q2), .second, .val (.int p3), .val (.long j25_s0), .second, .val (.long v35), .second, .val (.long v46), .second, .val (.int (own_b (¬ ((p3 &&& (4 : Int32)) = (0 : Int32))))), .val (.ref b62), .val (.ref b71), .val (.long v142), .second, .val (.int (own_b (¬ (v142 < j25_s0)))), .val (.long j172_s0), .second, .val (.long j195_s0), .second, .val (.int (own_b ((¬ (v142 < j25_s0)) ∨ (¬ (¬ ((p3 &&& (4 : Int32)) = (0 : Int32)))))))] [(.int (lcmpW (j25_s0 - w134_made) j195_s0))])) (fun target kt => ?_) ?_
  · show Steps p.tables e below (Tg235.setTop (mkF m 238 #[.val (.long q0), .second, .val (.long q1), .second, .val (.long q2), .second, .val (.int p3), .val (.long j25_s0), .second, .val (.long v35), .second, .val (.long v46), .second, .val (.int (own_b (¬ ((p3 &&& (4 : Int32)) = (0 : Int32))))), .val (.ref b62), .val (.ref b71), .val (.long v142), .second, .val (.int (own_b (¬ (v142 < j25_s0)))), .val (.long j172_s0), .second, .val (.long j195_s0), .second, .val (.int (own_b ((¬ (v142 < j25_s0)) ∨ (¬ (¬ ((p3 &&& (4 : Int32)) = (0 : Int32)))))))] [(.long (j25_s0 - w134_made))])) target
    refine XS.lload Xg235.here hx rfl (hb hby at_238) rfl ?_
    show Steps p.tables e below (Tg235.setTop (mkF m 240 #[.val (.long q0), .second, .val (.long q1), .second, .val (.long q2), .second, .val (.int p3), .val (.long j25_s0), .second, .val (.long v35), .second, .val (.long v46), .second, .val (.int (own_b (¬ ((p3 &&& (4 : Int32)) = (0 : Int32))))), .val (.ref b62), .val (.ref b71), .val (.long v142), .second, .val (.int (own_b (¬ (v142 < j25_s0)))), .val (.long j172_s0), .second, .val (.long j195_s0), .second, .val (.int (own_b ((¬ (v142 < j25_s0)) ∨ (¬ (¬ ((p3 &&& (4 : Int32)) = (0 : Int32)))))))] [(.long j195_s0), (.long (j25_s0 - w134_made))])) target
    refine XS.lcmp Xg235.here hx rfl (hb hby at_240) rfl ?_
    exact kt
  have c241 : (j25_s0 - w134_made) = j195_s0 := by
    rw [hw134_made, e2, hj195_s0, ← hv142]
    by_cases hh : v142 < j25_s0
    · rw [if_pos hh, if_neg (fun h => h hh)]
    · rw [if_neg hh, if_pos hh]
  refine own_st (B := Tg235.setTop (mkF m 246 #[.val (.long q0), .second, .val (.long q1), .second, .val (.long q2), .second, .val (.int p3), .val (.long j25_s0), .second, .val (.long v35), .second, .val (.long v46), .second, .val (.int (own_b (¬ ((p3 &&& (4 : Int32)) = (0 : Int32))))), .val (.ref b62), .val (.ref b71), .val (.long v142), .second, .val (.int (own_b (¬ (v142 < j25_s0)))), .val (.long j172_s0), .second, .val (.long j195_s0), .second, .val (.int (own_b ((¬ (v142 < j25_s0)) ∨ (¬ (¬ ((p3 &&& (4 : Int32)) = (0 : Int32)))))))] [(.ref b62)])) (fun target kt => ?_) ?_
  · show Steps p.tables e below (Tg235.setTop (mkF m 241 #[.val (.long q0), .second, .val (.long q1), .second, .val (.long q2), .second, .val (.int p3), .val (.long j25_s0), .second, .val (.long v35), .second, .val (.long v46), .second, .val (.int (own_b (¬ ((p3 &&& (4 : Int32)) = (0 : Int32))))), .val (.ref b62), .val (.ref b71), .val (.long v142), .second, .val (.int (own_b (¬ (v142 < j25_s0)))), .val (.long j172_s0), .second, .val (.long j195_s0), .second, .val (.int (own_b ((¬ (v142 < j25_s0)) ∨ (¬ (¬ ((p3 &&& (4 : Int32)) = (0 : Int32)))))))] [(.int (lcmpW (j25_s0 - w134_made) j195_s0))])) target
    refine XS.ifNo Xg235.here hx rfl (hb hby at_241) rfl ((if0 _ _).trans (teq ((lw_eq (j25_s0 - w134_made) j195_s0).mpr c241)).2) ?_
    show Steps p.tables e below (Tg235.setTop (mkF m 244 #[.val (.long q0), .second, .val (.long q1), .second, .val (.long q2), .second, .val (.int p3), .val (.long j25_s0), .second, .val (.long v35), .second, .val (.long v46), .second, .val (.int (own_b (¬ ((p3 &&& (4 : Int32)) = (0 : Int32))))), .val (.ref b62), .val (.ref b71), .val (.long v142), .second, .val (.int (own_b (¬ (v142 < j25_s0)))), .val (.long j172_s0), .second, .val (.long j195_s0), .second, .val (.int (own_b ((¬ (v142 < j25_s0)) ∨ (¬ (¬ ((p3 &&& (4 : Int32)) = (0 : Int32)))))))] [])) target
    refine XS.aload Xg235.here hx rfl (hb hby at_244) rfl rfl ?_
    exact kt
  obtain ⟨cqg246, kqg246, qg246a, qg246b, qg246c⟩ := isOf hZ eg235 F_83
  obtain ⟨_, _, ⟨Tg246, Lg246, kg246, ng246⟩, -, Xg246, ⟨Lcg246, hQg246, lg246, yg246, zg246⟩, stg246⟩ := Xg235.virtualBack hx (y := (⟨"com/example/evenkeel/evenkeel/FullCycles", "holds", "()Z"⟩ : MethodName)) (z := (⟨"com/example/evenkeel/evenkeel/FullCycles", "holds", "()Z"⟩ : MethodName)) hown (mvT hZ (hw _ (List.mem_of_getElem? (i := 65) rfl))) (mvT hZ (hw _ (List.mem_of_getElem? (i := 66) rfl))) (notFace_of_selects (args := #[]) (mvT hZ (hw _ (List.mem_of_getElem? (i := 68) rfl)))) (mvT hZ (hw _ (List.mem_of_getElem? (i := 68) rfl))) (mvT hZ (hw _ (List.mem_of_getElem? (i := 67) rfl))) (by decide) (backOf (W := 0) (own_rm10 l Z a0 hw [] b62 (¬ (((w117_made + v46)) < j25_s0) ∨ (¬ (¬ ((p3 &&& (4 : Int32)) = (0 : Int32))) ∧ (¬ (((w109_made + v35)) < j25_s0) ∨ (¬ (False) ∨ (¬ (¬ ((p3 &&& (2 : Int32)) = (0 : Int32))) ∨ (¬ ((1 : Int32) = (0 : Int32)) ∨ (False))))))) Tg219.heap n0 Zz_6 F_88) hZ (hw _ (List.mem_of_getElem? (i := 69) rfl)) (hw _ (List.mem_of_getElem? (i := 4) rfl)) (by decide) (by decide)) qg246a qg246c (g := (mkF m 246 #[.val (.long q0), .second, .val (.long q1), .second, .val (.long q2), .second, .val (.int p3), .val (.long j25_s0), .second, .val (.long v35), .second, .val (.long v46), .second, .val (.int (own_b (¬ ((p3 &&& (4 : Int32)) = (0 : Int32))))), .val (.ref b62), .val (.ref b71), .val (.long v142), .second, .val (.int (own_b (¬ (v142 < j25_s0)))), .val (.long j172_s0), .second, .val (.long j195_s0), .second, .val (.int (own_b ((¬ (v142 < j25_s0)) ∨ (¬ (¬ ((p3 &&& (4 : Int32)) = (0 : Int32)))))))] [(.ref b62)])) rfl (by rw [hml]; rfl) (Steps.refl _) (argsL := []) (rest := []) (lenOf own_pd5 rfl) rfl (by show 2 * 0 + _ ≤ _; exact Nat.le_of_eq rfl) (hb hby at_246) (fun _ _ => ⟨rfl, eg235, (by decide : 2 + 0 ≤ _), (by decide : 13 + 0 ≤ _)⟩)
  dsimp only [Pt.U, Pt.locs, Pt.cells, Pt.slots] at Xg246 lg246 yg246 zg246 stg246 hQg246
  subst lg246 yg246 zg246
  obtain ⟨rfl, Ng246q, eg246⟩ := hQg246
  have Ng246 := Fr.app Ng235 Ng246q
  refine own_st (fun _ k => stg246.trans k) ?_
  refine own_st (B := Tg246.setTop (mkF m 251 #[.val (.long q0), .second, .val (.long q1), .second, .val (.long q2), .second, .val (.int p3), .val (.long j25_s0), .second, .val (.long v35), .second, .val (.long v46), .second, .val (.int (own_b (¬ ((p3 &&& (4 : Int32)) = (0 : Int32))))), .val (.ref b62), .val (.ref b71), .val (.long v142), .second, .val (.int (own_b (¬ (v142 < j25_s0)))), .val (.long j172_s0), .second, .val (.long j195_s0), .second, .val (.int (own_b ((¬ (v142 < j25_s0)) ∨ (¬ (¬ ((p3 &&& (4 : Int32)) = (0 : Int32)))))))] [(.int (own_b ((¬ (v142 < j25_s0)) ∨ (¬ (¬ ((p3 &&& (4 : Int32)) = (0 : Int32))))))), (.int (own_b (¬ (((w117_made + v46)) < j25_s0) ∨ (¬ (¬ ((p3 &&& (4 : Int32)) = (0 : Int32))) ∧ (¬ (((w109_made + v35)) < j25_s0) ∨ (¬ (False) ∨ (¬ (¬ ((p3 &&& (2 : Int32)) = (0 : Int32))) ∨ (¬ ((1 : Int32) = (0 : Int32)) ∨ (False)))))))))])) (fun target kt => ?_) ?_
  · show Steps p.tables e below (Tg246.setTop (mkF m 249 #[.val (.long q0), .second, .val (.long q1), .second, .val (.long q2), .second, .val (.int p3), .val (.long j25_s0), .second, .val (.long v35), .second, .val (.long v46), .second, .val (.int (own_b (¬ ((p3 &&& (4 : Int32)) = (0 : Int32))))), .val (.ref b62), .val (.ref b71), .val (.long v142), .second, .val (.int (own_b (¬ (v142 < j25_s0)))), .val (.long j172_s0), .second, .val (.long j195_s0), .second, .val (.int (own_b ((¬ (v142 < j25_s0)) ∨ (¬ (¬ ((p3 &&& (4 : Int32)) = (0 : Int32)))))))] [(.int (own_b (¬ (((w117_made + v46)) < j25_s0) ∨ (¬ (¬ ((p3 &&& (4 : Int32)) = (0 : Int32))) ∧ (¬ (((w109_made + v35)) < j25_s0) ∨ (¬ (False) ∨ (¬ (¬ ((p3 &&& (2 : Int32)) = (0 : Int32))) ∨ (¬ ((1 : Int32) = (0 : Int32)) ∨ (False)))))))))])) target
    refine XS.iload Xg246.here hx rfl (hb hby at_249) rfl ?_
    exact kt
  have c251 : (¬ (((w117_made + v46)) < j25_s0) ∨ (¬ (¬ ((p3 &&& (4 : Int32)) = (0 : Int32))) ∧ (¬ (((w109_made + v35)) < j25_s0) ∨ (¬ (False) ∨ (¬ (¬ ((p3 &&& (2 : Int32)) = (0 : Int32))) ∨ (¬ ((1 : Int32) = (0 : Int32)) ∨ (False))))))) ↔ ((¬ (v142 < j25_s0)) ∨ (¬ (¬ ((p3 &&& (4 : Int32)) = (0 : Int32))))) := by
    rw [e2, ← hv142]
    by_cases hh : v142 < j25_s0 <;> simp [hh]
  refine own_st (B := Tg246.setTop (mkF m 256 #[.val (.long q0), .second, .val (.long q1), .second, .val (.long q2), .second, .val (.int p3), .val (.long j25_s0), .second, .val (.long v35), .second, .val (.long v46), .second, .val (.int (own_b (¬ ((p3 &&& (4 : Int32)) = (0 : Int32))))), .val (.ref b62), .val (.ref b71), .val (.long v142), .second, .val (.int (own_b (¬ (v142 < j25_s0)))), .val (.long j172_s0), .second, .val (.long j195_s0), .second, .val (.int (own_b ((¬ (v142 < j25_s0)) ∨ (¬ (¬ ((p3 &&& (4 : Int32)) = (0 : Int32)))))))] [(.ref b71)])) (fun target kt => ?_) ?_
  · show Steps p.tables e below (Tg246.setTop (mkF m 251 #[.val (.long q0), .second, .val (.long q1), .second, .val (.long q2), .second, .val (.int p3), .val (.long j25_s0), .second, .val (.long v35), .second, .val (.long v46), .second, .val (.int (own_b (¬ ((p3 &&& (4 : Int32)) = (0 : Int32))))), .val (.ref b62), .val (.ref b71), .val (.long v142), .second, .val (.int (own_b (¬ (v142 < j25_s0)))), .val (.long j172_s0), .second, .val (.long j195_s0), .second, .val (.int (own_b ((¬ (v142 < j25_s0)) ∨ (¬ (¬ ((p3 &&& (4 : Int32)) = (0 : Int32)))))))] [(.int (own_b ((¬ (v142 < j25_s0)) ∨ (¬ (¬ ((p3 &&& (4 : Int32)) = (0 : Int32))))))), (.int (own_b (¬ (((w117_made + v46)) < j25_s0) ∨ (¬ (¬ ((p3 &&& (4 : Int32)) = (0 : Int32))) ∧ (¬ (((w109_made + v35)) < j25_s0) ∨ (¬ (False) ∨ (¬ (¬ ((p3 &&& (2 : Int32)) = (0 : Int32))) ∨ (¬ ((1 : Int32) = (0 : Int32)) ∨ (False)))))))))])) target
    refine XS.icmpNo Xg246.here hx rfl (hb hby at_251) rfl (teq (own_bb rfl rfl c251)).2 ?_
    show Steps p.tables e below (Tg246.setTop (mkF m 254 #[.val (.long q0), .second, .val (.long q1), .second, .val (.long q2), .second, .val (.int p3), .val (.long j25_s0), .second, .val (.long v35), .second, .val (.long v46), .second, .val (.int (own_b (¬ ((p3 &&& (4 : Int32)) = (0 : Int32))))), .val (.ref b62), .val (.ref b71), .val (.long v142), .second, .val (.int (own_b (¬ (v142 < j25_s0)))), .val (.long j172_s0), .second, .val (.long j195_s0), .second, .val (.int (own_b ((¬ (v142 < j25_s0)) ∨ (¬ (¬ ((p3 &&& (4 : Int32)) = (0 : Int32)))))))] [])) target
    refine XS.aload Xg246.here hx rfl (hb hby at_254) rfl rfl ?_
    exact kt
  obtain ⟨Tg256, Xg256, eg256, stg256⟩ := getF Xg246 hx hZ hown (host := "") (Or.inl (hw _ (List.mem_of_getElem? (i := 70) rfl))) Via.refl eg246 F_81 (g := (mkF m 256 #[.val (.long q0), .second, .val (.long q1), .second, .val (.long q2), .second, .val (.int p3), .val (.long j25_s0), .second, .val (.long v35), .second, .val (.long v46), .second, .val (.int (own_b (¬ ((p3 &&& (4 : Int32)) = (0 : Int32))))), .val (.ref b62), .val (.ref b71), .val (.long v142), .second, .val (.int (own_b (¬ (v142 < j25_s0)))), .val (.long j172_s0), .second, .val (.long j195_s0), .second, .val (.int (own_b ((¬ (v142 < j25_s0)) ∨ (¬ (¬ ((p3 &&& (4 : Int32)) = (0 : Int32)))))))] [(.ref b71)])) rfl rfl (hb hby at_256)
  refine own_st stg256 ?_
  refine own_st (B := Tg256.setTop (mkF m 262 #[.val (.long q0), .second, .val (.long q1), .second, .val (.long q2), .second, .val (.int p3), .val (.long j25_s0), .second, .val (.long v35), .second, .val (.long v46), .second, .val (.int (own_b (¬ ((p3 &&& (4 : Int32)) = (0 : Int32))))), .val (.ref b62), .val (.ref b71), .val (.long v142), .second, .val (.int (own_b (¬ (v142 < j25_s0)))), .val (.long j172_s0), .second, .val (.long j195_s0), .second, .val (.int (own_b ((¬ (v142 < j25_s0)) ∨ (¬ (¬ ((p3 &&& (4 : Int32)) = (0 : Int32)))))))] [(.int (lcmpW w134_picks v142))])) (fun target kt => ?_) ?_
  · show Steps p.tables e below (Tg256.setTop (mkF m 259 #[.val (.long q0), .second, .val (.long q1), .second, .val (.long q2), .second, .val (.int p3), .val (.long j25_s0), .second, .val (.long v35), .second, .val (.long v46), .second, .val (.int (own_b (¬ ((p3 &&& (4 : Int32)) = (0 : Int32))))), .val (.ref b62), .val (.ref b71), .val (.long v142), .second, .val (.int (own_b (¬ (v142 < j25_s0)))), .val (.long j172_s0), .second, .val (.long j195_s0), .second, .val (.int (own_b ((¬ (v142 < j25_s0)) ∨ (¬ (¬ ((p3 &&& (4 : Int32)) = (0 : Int32)))))))] [(.long w134_picks)])) target
    refine XS.lload Xg256.here hx rfl (hb hby at_259) rfl ?_
    show Steps p.tables e below (Tg256.setTop (mkF m 261 #[.val (.long q0), .second, .val (.long q1), .second, .val (.long q2), .second, .val (.int p3), .val (.long j25_s0), .second, .val (.long v35), .second, .val (.long v46), .second, .val (.int (own_b (¬ ((p3 &&& (4 : Int32)) = (0 : Int32))))), .val (.ref b62), .val (.ref b71), .val (.long v142), .second, .val (.int (own_b (¬ (v142 < j25_s0)))), .val (.long j172_s0), .second, .val (.long j195_s0), .second, .val (.int (own_b ((¬ (v142 < j25_s0)) ∨ (¬ (¬ ((p3 &&& (4 : Int32)) = (0 : Int32)))))))] [(.long v142), (.long w134_picks)])) target
    refine XS.lcmp Xg256.here hx rfl (hb hby at_261) rfl ?_
    exact kt
  have c262 : w134_picks = v142 := by
    rw [hw134_picks, p1, hv142]
  refine own_st (B := Tg256.setTop (mkF m 270 #[.val (.long q0), .second, .val (.long q1), .second, .val (.long q2), .second, .val (.int p3), .val (.long j25_s0), .second, .val (.long v35), .second, .val (.long v46), .second, .val (.int (own_b (¬ ((p3 &&& (4 : Int32)) = (0 : Int32))))), .val (.ref b62), .val (.ref b71), .val (.long v142), .second, .val (.int (own_b (¬ (v142 < j25_s0)))), .val (.long j172_s0), .second, .val (.long j195_s0), .second, .val (.int (own_b ((¬ (v142 < j25_s0)) ∨ (¬ (¬ ((p3 &&& (4 : Int32)) = (0 : Int32)))))))] [(.int (1 : Int32))])) (fun target kt => ?_) ?_
  · show Steps p.tables e below (Tg256.setTop (mkF m 262 #[.val (.long q0), .second, .val (.long q1), .second, .val (.long q2), .second, .val (.int p3), .val (.long j25_s0), .second, .val (.long v35), .second, .val (.long v46), .second, .val (.int (own_b (¬ ((p3 &&& (4 : Int32)) = (0 : Int32))))), .val (.ref b62), .val (.ref b71), .val (.long v142), .second, .val (.int (own_b (¬ (v142 < j25_s0)))), .val (.long j172_s0), .second, .val (.long j195_s0), .second, .val (.int (own_b ((¬ (v142 < j25_s0)) ∨ (¬ (¬ ((p3 &&& (4 : Int32)) = (0 : Int32)))))))] [(.int (lcmpW w134_picks v142))])) target
    refine XS.ifNo Xg256.here hx rfl (hb hby at_262) rfl ((if0 _ _).trans (teq ((lw_eq w134_picks v142).mpr c262)).2) ?_
    show Steps p.tables e below (Tg256.setTop (mkF m 265 #[.val (.long q0), .second, .val (.long q1), .second, .val (.long q2), .second, .val (.int p3), .val (.long j25_s0), .second, .val (.long v35), .second, .val (.long v46), .second, .val (.int (own_b (¬ ((p3 &&& (4 : Int32)) = (0 : Int32))))), .val (.ref b62), .val (.ref b71), .val (.long v142), .second, .val (.int (own_b (¬ (v142 < j25_s0)))), .val (.long j172_s0), .second, .val (.long j195_s0), .second, .val (.int (own_b ((¬ (v142 < j25_s0)) ∨ (¬ (¬ ((p3 &&& (4 : Int32)) = (0 : Int32)))))))] [])) target
    refine XS.iconst Xg256.here hx rfl (hb hby at_265) ?_
    show Steps p.tables e below (Tg256.setTop (mkF m 266 #[.val (.long q0), .second, .val (.long q1), .second, .val (.long q2), .second, .val (.int p3), .val (.long j25_s0), .second, .val (.long v35), .second, .val (.long v46), .second, .val (.int (own_b (¬ ((p3 &&& (4 : Int32)) = (0 : Int32))))), .val (.ref b62), .val (.ref b71), .val (.long v142), .second, .val (.int (own_b (¬ (v142 < j25_s0)))), .val (.long j172_s0), .second, .val (.long j195_s0), .second, .val (.int (own_b ((¬ (v142 < j25_s0)) ∨ (¬ (¬ ((p3 &&& (4 : Int32)) = (0 : Int32)))))))] [(.int (1 : Int32))])) target
    refine XS.goto Xg256.here hx rfl (pc0 := 266) (pc' := 270) rfl (hb hby at_266) (by decide) (by decide) ?_
    exact kt
  obtain ⟨fs, hr, hrun, hended, hW, hsame⟩ := Xg256.leave (v := some (.int (1 : Int32))) (fun h => by rw [Bd.returns] at h; cases h)
  have hend : Steps p.tables e below (Tg256.setTop (mkF m 270 #[.val (.long q0), .second, .val (.long q1), .second, .val (.long q2), .second, .val (.int p3), .val (.long j25_s0), .second, .val (.long v35), .second, .val (.long v46), .second, .val (.int (own_b (¬ ((p3 &&& (4 : Int32)) = (0 : Int32))))), .val (.ref b62), .val (.ref b71), .val (.long v142), .second, .val (.int (own_b (¬ (v142 < j25_s0)))), .val (.long j172_s0), .second, .val (.long j195_s0), .second, .val (.int (own_b ((¬ (v142 < j25_s0)) ∨ (¬ (¬ ((p3 &&& (4 : Int32)) = (0 : Int32)))))))] [(.int (1 : Int32))])) (Tg256.setFrames fs) := by
    exact retN Xg256 hx (t := .boolean) Bd.returns (by simp) (hb hby at_270) hr
  refine own_fin hend ⟨_, hrun, hended, _, _, rfl, ?_, ⟨_, rfl⟩, hW, hsame.mono (by decide) (by decide)⟩
  show own_Q0 Z q0 q1 q2 p3 h0 n0 _ Tg256.heap _
  rw [eg256]
  exact ⟨rfl, Ng246⟩
set_option maxRecDepth 65536 in
set_option maxHeartbeats 40000000 in
theorem own_comes_1 {Post : Tables → Env → Array Value → State → Outcome → State → Prop} (hpost : ∀ tb e args s v u, (limb_1_1.after args s (.returned v) u = true ∧ limb_1_2.after args s (.returned v) u = true ∧ True) → FrameEnd s (.returned v) u (Jvm.fieldLocs frame_1_writes args s ++ Jvm.arrayLocs frame_1_arrays args s ++ Jvm.staticLocs frame_1_statics s) 16 128 → Post tb e args s (.returned v) u) :
    ArmFor flags0 classFile x code maxLocals ret World_1 tables_1 room_1 Calls_1 rest_1 Pre_1 Post := by
  intro l hfl _ _ p e ha hc hk s m args below hf hA hF happ hP
  obtain ⟨hcalls, hrest, hpre⟩ := hP
  obtain ⟨-, -, -, hnamed, -, -, -, hat⟩ := (Spec.applies_iff hf).mp happ
  obtain ⟨hg, hn⟩ := and_e (Cond.before_iff.mp (show (Jvm.Cond.and given_1 narrow_1).before args s = true from hpre))
  obtain ⟨g1, g2⟩ := and_e hg
  obtain ⟨g3, g4⟩ := and_e g2
  obtain ⟨g5, g6⟩ := and_e g4
  obtain ⟨g7, g8⟩ := and_e g6
  obtain ⟨w0, w1, w2, w3, rfl⟩ : ∃ w0 w1 w2 w3 : Value, args = #[w0, w1, w2, w3] := by
    have hs : args.size = 4 := by simpa [Cond.value, given_1] using g1
    obtain ⟨L⟩ := args
    match L, hs with
    | [w0, w1, w2, w3], _ => exact ⟨w0, w1, w2, w3, rfl⟩
  have hw := fun d (hd : d ∈ tables_1) => atoms_spec (ws := Jvm.Cond.code x code maxLocals ret :: tables_1) hat d (List.mem_cons_of_mem _ hd)
  obtain ⟨i0, ei0⟩ := isL_v g3
  obtain rfl : w0 = (.long i0) := Option.some.inj ei0
  obtain ⟨i1, ei1⟩ := isL_v g5
  obtain rfl : w1 = (.long i1) := Option.some.inj ei1
  obtain ⟨i2, ei2⟩ := isL_v g7
  obtain rfl : w2 = (.long i2) := Option.some.inj ei2
  obtain ⟨i3, ei3⟩ := is_v g8
  obtain rfl : w3 = (.int i3) := Option.some.inj ei3
  obtain ⟨n, o, h1, h2, h3, _, L, rfl, ⟨rfl, N⟩, hq⟩ := own_rm0 l s _ hw tables_1 i0 i1 i2 i3 s.heap s.heap.size (Nat.le_refl _) p e ha hc hk s m _ below hf ((Spec.applies_iff_loose hf).mp happ).1 ⟨rfl, State.Warmed39.refl s, rfl⟩ trivial
  refine ⟨n, _, h1, h2, h3, hpost _ _ _ _ _ _ ⟨Cond.after_iff.mpr rfl, Cond.after_iff.mpr (eq_i res_at (Term.int_eval (1)) rfl), trivial⟩ ⟨hq.1, hq.2.1, (hq.2.2.sift fun y hy => Or.inr (N y hy)).mono (by decide) (by decide)⟩⟩
theorem main_1_1 : Claimed_1_1 := own_comes_1 fun _ _ _ _ _ _ h hF => ⟨h.1, hF⟩
theorem main_1_2 : Claimed_1_2 := own_comes_1 fun _ _ _ _ _ _ h hF => ⟨h.2.1, hF⟩
end Jvm.Pilot.@@N@@
namespace Jvm.Pilot.@@N@@
open Jvm Jvm.ClassFile Sem Op Lib Jvm.Free Jvm.Stand Jvm.Pilot.@@N@@.Jvm.D
/-! MADE BY PROGRAM (witnessworld.py) out of the Statement's table words and the real class files: 10 classes; the members and pool entries that the words name. The judged class is class 1, her method 1. -/
namespace start1
open Jvm.ClassFile
def u (s : String) : CpInfo := .utf8 (stringToUtf16 s)
/-- a pool by its gaps: so many unusable entries, then the entry; so many at the end -/
def gap : Nat → List CpInfo → List CpInfo
  | 0, r => r
  | n + 1, r => .unusable :: gap n r
def poolList (es : List (Nat × CpInfo)) (last : Nat) : List CpInfo := es.foldr (fun e r => gap e.1 (e.2 :: r)) (gap last [])
def pool (es : List (Nat × CpInfo)) (last : Nat) : Array CpInfo := ⟨poolList es last⟩
def fileOf (pool : Array CpInfo) (this : Nat) (attrs : Array Attribute := #[]) (ms : Array MethodInfo := #[]) (fl : Nat := 33) (sup : Nat := 0) (ifs : Array Nat := #[]) (fds : Array FieldInfo := #[]) : ClassFile where
  minorVersion := 0
  majorVersion := 65
  constantPool := pool
  accessFlags := fl
  thisClass := this
  superClass := sup
  interfaces := ifs
  fields := fds
  methods := ms
  attributes := attrs
def plain (name : String) (sup : Option ClassId) : Class where
  name := name
  kind := .ordinary
  loader := none
  accessFlags := 33
  super := sup
  interfaces := #[]
  cf := none
  fields := #[]
  methods := #[]
  instanceTypes := #[]
  staticTypes := #[]
  resolved := #[]
  callSites := []
  init := .initialized
  statics := none
  mirror := none

def pool0 : Array CpInfo := pool [(5, u "<init>"), (0, u "()V"), (1, .class_ 10), (1, u "java/lang/Object")] 113

def k0c0 : Code := { maxStack := 0, maxLocals := 1, code := object_method_1_code, exceptionTable := #[], attributes := #[] }
def k0m0 : Method := { name := "<init>", desc := "()V", sig := { parameters := [], returnType := none }, accessFlags := 1, code := some k0c0 }
/-- java/lang/Object -/
def k0 : Class := { plain "java/lang/Object" none with
  accessFlags := 33
  interfaces := #[]
  cf := some (fileOf pool0 8 #[] #[{ accessFlags := 1, nameIndex := 5, descriptorIndex := 6, attributes := #[] }] 33 0 #[] #[])
  fields := #[]
  methods := #[k0m0]
  instanceTypes := #[]
  staticTypes := #[]
  resolved := Array.replicate 124 none
  statics := none }

def pool1 : Array CpInfo := pool [(2, .class_ 4), (0, .nameAndType 5 6), (0, u "java/lang/Object"), (0, u "<init>"), (0, u "()V"), (0, .long 7), (1, .long 4611686018427387903), (3, .long 9223372036854775807), (1, .class_ 16), (0, u "com/example/evenkeel/evenkeel/FullCycles"), (0, .methodref 15 3), (0, .class_ 19), (0, u "com/example/evenkeel/evenkeel/CurrentValue"), (0, .methodref 18 3), (0, .methodref 15 22), (0, .nameAndType 23 24), (0, u "enter"), (0, u "(ZZJI)Z"), (0, .methodref 15 26), (0, .nameAndType 27 28), (0, u "skip"), (0, u "(J)V"), (0, .methodref 15 30), (0, .nameAndType 31 6), (0, u "giveUp"), (0, .methodref 15 33), (0, .nameAndType 34 35), (0, u "tookPart"), (0, u "(Lcom/example/evenkeel/evenkeel/CurrentValue;I)V"), (0, .methodref 15 37), (0, .nameAndType 38 39), (0, u "cycle"), (0, u "()J"), (0, .methodref 15 41), (0, .nameAndType 42 39), (0, u "left"), (0, .methodref 15 44), (0, .nameAndType 45 46), (0, u "holds"), (0, u "()Z"), (0, .fieldref 18 48), (0, .nameAndType 49 50), (0, u "seen"), (0, u "J"), (0, .class_ 52), (0, u "com/example/evenkeel/evenkeel/FullCyclesSkipPinLaw"), (2, u "law"), (0, u "(JJJI)Z")] 3

def k1m0 : Method := { name := "<init>", desc := "()V", sig := { parameters := [], returnType := none }, accessFlags := 1, code := none }
def k1c1 : Code := { maxStack := 6, maxLocals := 24, code := code, exceptionTable := #[], attributes := #[] }
def k1m1 : Method := { name := "law", desc := "(JJJI)Z", sig := { parameters := [.long, .long, .long, .int], returnType := some .boolean }, accessFlags := 9, code := some k1c1 }
/-- com/example/evenkeel/evenkeel/FullCyclesSkipPinLaw -/
def k1 : Class := { plain "com/example/evenkeel/evenkeel/FullCyclesSkipPinLaw" (some 0) with
  accessFlags := 49
  interfaces := #[]
  cf := some (fileOf pool1 51 #[] #[{ accessFlags := 1, nameIndex := 5, descriptorIndex := 6, attributes := #[] }, { accessFlags := 9, nameIndex := 55, descriptorIndex := 56, attributes := #[] }] 49 2 #[] #[])
  fields := #[]
  methods := #[k1m0, k1m1]
  instanceTypes := #[]
  staticTypes := #[]
  resolved := Array.replicate 60 none
  statics := none }

def pool2 : Array CpInfo := pool [(1, .methodref 2 3), (0, .class_ 4), (0, .nameAndType 5 6), (0, u "java/lang/Object"), (0, u "<init>"), (0, u "()V"), (0, .fieldref 8 9), (0, .class_ 10), (0, .nameAndType 11 12), (0, u "com/example/evenkeel/evenkeel/CurrentValue"), (0, u "seen"), (0, u "J"), (0, .fieldref 14 15), (0, .class_ 16), (0, .nameAndType 17 12), (0, u "com/example/evenkeel/evenkeel/FullCycles"), (0, u "picks"), (0, .fieldref 8 19), (0, .nameAndType 20 21), (0, u "seenWeight"), (0, u "I"), (0, .fieldref 14 23), (0, .nameAndType 24 25), (0, u "steady"), (0, u "Z"), (0, .fieldref 14 27), (0, .nameAndType 28 21), (0, u "taking"), (0, .methodref 14 30), (0, .nameAndType 31 32), (0, u "begin"), (0, u "(J)V"), (0, .fieldref 14 34), (0, .nameAndType 35 12), (0, u "total"), (0, .fieldref 14 37), (0, .nameAndType 38 25), (0, u "holding"), (0, .fieldref 14 40), (0, .nameAndType 41 12), (0, u "began"), (0, .fieldref 14 43), (0, .nameAndType 44 12), (0, u "made"), (5, u "tookPart"), (0, u "(Lcom/example/evenkeel/evenkeel/CurrentValue;I)V"), (0, u "enter"), (0, u "(ZZJI)Z"), (0, u "holds"), (0, u "()Z"), (4, u "cycle"), (0, u "()J"), (0, u "left"), (0, u "skip"), (0, u "giveUp")] 3

def k2c0 : Code := { maxStack := 1, maxLocals := 1, code := prog_34_method_1_code, exceptionTable := #[], attributes := #[] }
def k2m0 : Method := { name := "<init>", desc := "()V", sig := { parameters := [], returnType := none }, accessFlags := 0, code := some k2c0 }
def k2c1 : Code := { maxStack := 3, maxLocals := 3, code := prog_34_method_3_code, exceptionTable := #[], attributes := #[] }
def k2m1 : Method := { name := "tookPart", desc := "(Lcom/example/evenkeel/evenkeel/CurrentValue;I)V", sig := { parameters := [(.object "com/example/evenkeel/evenkeel/CurrentValue"), .int], returnType := none }, accessFlags := 0, code := some k2c1 }
def k2c2 : Code := { maxStack := 5, maxLocals := 6, code := prog_34_method_4_code, exceptionTable := #[], attributes := #[] }
def k2m2 : Method := { name := "enter", desc := "(ZZJI)Z", sig := { parameters := [.boolean, .boolean, .long, .int], returnType := some .boolean }, accessFlags := 0, code := some k2c2 }
def k2c3 : Code := { maxStack := 1, maxLocals := 1, code := prog_34_method_5_code, exceptionTable := #[], attributes := #[] }
def k2m3 : Method := { name := "holds", desc := "()Z", sig := { parameters := [], returnType := some .boolean }, accessFlags := 0, code := some k2c3 }
def k2c4 : Code := { maxStack := 2, maxLocals := 1, code := prog_34_method_8_code, exceptionTable := #[], attributes := #[] }
def k2m4 : Method := { name := "cycle", desc := "()J", sig := { parameters := [], returnType := some .long }, accessFlags := 0, code := some k2c4 }
def k2c5 : Code := { maxStack := 4, maxLocals := 1, code := prog_34_method_9_code, exceptionTable := #[], attributes := #[] }
def k2m5 : Method := { name := "left", desc := "()J", sig := { parameters := [], returnType := some .long }, accessFlags := 0, code := some k2c5 }
def k2c6 : Code := { maxStack := 5, maxLocals := 3, code := prog_34_method_10_code, exceptionTable := #[], attributes := #[] }
def k2m6 : Method := { name := "skip", desc := "(J)V", sig := { parameters := [.long], returnType := none }, accessFlags := 0, code := some k2c6 }
def k2c7 : Code := { maxStack := 2, maxLocals := 1, code := prog_34_method_11_code, exceptionTable := #[], attributes := #[] }
def k2m7 : Method := { name := "giveUp", desc := "()V", sig := { parameters := [], returnType := none }, accessFlags := 0, code := some k2c7 }
def k2c8 : Code := { maxStack := 3, maxLocals := 3, code := prog_34_method_13_code, exceptionTable := #[], attributes := #[] }
def k2m8 : Method := { name := "begin", desc := "(J)V", sig := { parameters := [.long], returnType := none }, accessFlags := 2, code := some k2c8 }
/-- com/example/evenkeel/evenkeel/FullCycles -/
def k2 : Class := { plain "com/example/evenkeel/evenkeel/FullCycles" (some 0) with
  accessFlags := 48
  interfaces := #[]
  cf := some (fileOf pool2 14 #[] #[{ accessFlags := 0, nameIndex := 5, descriptorIndex := 6, attributes := #[] }, { accessFlags := 0, nameIndex := 50, descriptorIndex := 51, attributes := #[] }, { accessFlags := 0, nameIndex := 52, descriptorIndex := 53, attributes := #[] }, { accessFlags := 0, nameIndex := 54, descriptorIndex := 55, attributes := #[] }, { accessFlags := 0, nameIndex := 60, descriptorIndex := 61, attributes := #[] }, { accessFlags := 0, nameIndex := 62, descriptorIndex := 61, attributes := #[] }, { accessFlags := 0, nameIndex := 63, descriptorIndex := 32, attributes := #[] }, { accessFlags := 0, nameIndex := 64, descriptorIndex := 6, attributes := #[] }, { accessFlags := 2, nameIndex := 31, descriptorIndex := 32, attributes := #[] }] 48 2 #[] #[{ accessFlags := 2, nameIndex := 17, descriptorIndex := 12, attributes := #[] }, { accessFlags := 2, nameIndex := 24, descriptorIndex := 25, attributes := #[] }, { accessFlags := 2, nameIndex := 35, descriptorIndex := 12, attributes := #[] }, { accessFlags := 2, nameIndex := 28, descriptorIndex := 21, attributes := #[] }, { accessFlags := 2, nameIndex := 41, descriptorIndex := 12, attributes := #[] }, { accessFlags := 2, nameIndex := 44, descriptorIndex := 12, attributes := #[] }, { accessFlags := 2, nameIndex := 38, descriptorIndex := 25, attributes := #[] }])
  fields := #[{ name := "picks", type := .long, accessFlags := 2, slot := 0, constantValue := 0 }, { name := "steady", type := .boolean, accessFlags := 2, slot := 1, constantValue := 0 }, { name := "total", type := .long, accessFlags := 2, slot := 2, constantValue := 0 }, { name := "taking", type := .int, accessFlags := 2, slot := 3, constantValue := 0 }, { name := "began", type := .long, accessFlags := 2, slot := 4, constantValue := 0 }, { name := "made", type := .long, accessFlags := 2, slot := 5, constantValue := 0 }, { name := "holding", type := .boolean, accessFlags := 2, slot := 6, constantValue := 0 }]
  methods := #[k2m0, k2m1, k2m2, k2m3, k2m4, k2m5, k2m6, k2m7, k2m8]
  instanceTypes := #[.long, .boolean, .long, .int, .long, .long, .boolean]
  staticTypes := #[]
  resolved := Array.replicate 68 none
  statics := none }

def pool3 : Array CpInfo := pool [(1, .methodref 2 3), (0, .class_ 4), (0, .nameAndType 5 6), (0, u "java/lang/Object"), (0, u "<init>"), (0, u "()V"), (0, .class_ 8), (0, u "com/example/evenkeel/evenkeel/CurrentValue"), (20, .class_ 30), (0, u "com/example/evenkeel/evenkeel/CurrentValue$ByMethod"), (11, u "UNITS_PER_CALL"), (0, u "J"), (1, u "value"), (0, u "ordered"), (0, u "Z"), (0, u "seen"), (0, u "seenWeight"), (0, u "I"), (0, u "cycle"), (0, u "taken")] 17

def k3c0 : Code := { maxStack := 1, maxLocals := 1, code := prog_13_method_1_code, exceptionTable := #[], attributes := #[] }
def k3m0 : Method := { name := "<init>", desc := "()V", sig := { parameters := [], returnType := none }, accessFlags := 0, code := some k3c0 }
/-- com/example/evenkeel/evenkeel/CurrentValue -/
def k3 : Class := { plain "com/example/evenkeel/evenkeel/CurrentValue" (some 0) with
  accessFlags := 48
  interfaces := #[]
  cf := some (fileOf pool3 7 #[.nestMembers #[29]] #[{ accessFlags := 0, nameIndex := 5, descriptorIndex := 6, attributes := #[] }] 48 2 #[] #[{ accessFlags := 24, nameIndex := 42, descriptorIndex := 43, attributes := #[] }, { accessFlags := 0, nameIndex := 45, descriptorIndex := 43, attributes := #[] }, { accessFlags := 0, nameIndex := 46, descriptorIndex := 47, attributes := #[] }, { accessFlags := 0, nameIndex := 48, descriptorIndex := 43, attributes := #[] }, { accessFlags := 0, nameIndex := 49, descriptorIndex := 50, attributes := #[] }, { accessFlags := 0, nameIndex := 51, descriptorIndex := 43, attributes := #[] }, { accessFlags := 0, nameIndex := 52, descriptorIndex := 50, attributes := #[] }])
  fields := #[{ name := "UNITS_PER_CALL", type := .long, accessFlags := 24, slot := 0, constantValue := 0 }, { name := "value", type := .long, accessFlags := 0, slot := 0, constantValue := 0 }, { name := "ordered", type := .boolean, accessFlags := 0, slot := 1, constantValue := 0 }, { name := "seen", type := .long, accessFlags := 0, slot := 2, constantValue := 0 }, { name := "seenWeight", type := .int, accessFlags := 0, slot := 3, constantValue := 0 }, { name := "cycle", type := .long, accessFlags := 0, slot := 4, constantValue := 0 }, { name := "taken", type := .int, accessFlags := 0, slot := 5, constantValue := 0 }]
  methods := #[k3m0]
  instanceTypes := #[.long, .boolean, .long, .int, .long, .int]
  staticTypes := #[.long]
  resolved := Array.replicate 70 none
  statics := none }

def pool4 : Array CpInfo := pool [(1, u "java/lang/Cloneable"), (0, .class_ 1), (0, u "java/lang/Object"), (0, .class_ 3)] 3

/-- java/lang/Cloneable -/
def k4 : Class := { plain "java/lang/Cloneable" (some 0) with
  accessFlags := 1537
  interfaces := #[]
  cf := some (fileOf pool4 2 #[] #[] 1537 4 #[] #[])
  fields := #[]
  methods := #[]
  instanceTypes := #[]
  staticTypes := #[]
  resolved := Array.replicate 8 none
  statics := none }

def pool5 : Array CpInfo := pool [(1, u "java/io/Serializable"), (0, .class_ 1), (0, u "java/lang/Object"), (0, .class_ 3)] 3

/-- java/io/Serializable -/
def k5 : Class := { plain "java/io/Serializable" (some 0) with
  accessFlags := 1537
  interfaces := #[]
  cf := some (fileOf pool5 2 #[] #[] 1537 4 #[] #[])
  fields := #[]
  methods := #[]
  instanceTypes := #[]
  staticTypes := #[]
  resolved := Array.replicate 8 none
  statics := none }

/-- the primitive byte -/
def k6 : Class := { plain "byte" none with kind := .primitive 'B', accessFlags := 0x411 }
/-- [B -/
def k7 : Class := { plain "[B" (some 0) with kind := .array 6 .byte, interfaces := #[4, 5], accessFlags := 1041 }

/-- the primitive int -/
def k8 : Class := { plain "int" none with kind := .primitive 'I', accessFlags := 0x411 }
/-- [I -/
def k9 : Class := { plain "[I" (some 0) with kind := .array 8 .int, interfaces := #[4, 5], accessFlags := 1041 }

def heap : Heap := #[]
def classes : Array Class := #[k0, k1, k2, k3, k4, k5, k6, k7, k8, k9]
def interned : List (Array UInt16 × Addr) := []
def slotsUsed : Nat := 0
def theMethod : MethodId := ⟨1, 1⟩
def args0 : Array Value := #[.long 3, .long 4, .long 5, .int 6]
def aboutOver (below : List Frame) : State where
  vm := { classes := classes, interned := interned.toArray }
  heap := heap
  slotsUsed := slotsUsed
  threads := #[{ frames := .invoking theMethod args0 :: below }]
def below0 : List Frame := [.native { method := ⟨0, 0⟩, args := #[] }]
def about1 : State := aboutOver below0
def p0 : Program := .bare "" "" ""
def e0 : Env := launch0.env 0 0 0
theorem w_frames : about1.frames = Frame.invoking theMethod args0 :: below0 := rfl
set_option maxRecDepth 65536 in
theorem w_args : argsFit about1.vm theMethod args0 = true := by decide +kernel
set_option maxRecDepth 65536 in
theorem w_heap : heapFits about1 = true := by decide +kernel
set_option maxRecDepth 65536 in
theorem w_runnable : about1.curStatus? = some .runnable := by decide +kernel
set_option maxRecDepth 65536 in
theorem w_alone : about1.alone = true := by decide +kernel
set_option maxRecDepth 65536 in
theorem w_named : about1.methodNamed? x = some theMethod := by decide +kernel
set_option maxRecDepth 65536 in
theorem w_hears : about1.hears theMethod below0 = true := by decide +kernel
set_option maxRecDepth 65536 in
theorem w_ripe : about1.ripe theMethod args0 below0 = true := by decide +kernel
theorem w_running : about1.status = .running := rfl
set_option maxRecDepth 65536 in
theorem w_room : about1.hasRoom e0.platform room_1 = true :=
  launch0.hasRoom_least _ room_1 (by decide +kernel) (by decide +kernel) (by decide +kernel) (by decide +kernel) (by decide +kernel) (by decide +kernel)
theorem allAtoms_all (ts : List Jvm.Cond) (a : Array Jvm.Value) (st : Jvm.State) : (allAtoms ts).before a st = ts.all (fun c => c.before a st) := by
  induction ts with
  | nil => rfl
  | cons c t ih =>
    show (Jvm.Cond.and c (allAtoms t)).before a st = _
    rw [Jvm.Cond.before_and, ih, List.all_cons]
def words1 : List Jvm.Cond := Jvm.Cond.code x code maxLocals ret :: tables_1
/-- a 'code' word, met by the world's own term for the bytes: nothing is compared byte by byte -/
theorem code_word {y : MethodName} {bytes : ByteArray} {mx : Nat} {rt : Option FieldType} {a : Array Value} {s : State} {m : MethodId} {meth : Method} {c : Code} (h1 : s.methodNamed? y = some m) (h2 : s.vm.method? m = some meth) (h3 : meth.code = some c) (h4 : c.code = bytes)
    (h5 : (c.maxLocals == mx && c.exceptionTable.isEmpty && decide (c.maxStack ≤ mostOperands) && decide (meth.sig.returnType = rt) && !meth.locks && decide (parseMethodDescriptor y.desc = some meth.sig)) = true) : (Jvm.Cond.code y bytes mx rt).before a s = true := by
  simp only [Bool.and_eq_true, beq_iff_eq, Bool.not_eq_true', decide_eq_true_eq] at h5
  obtain ⟨⟨⟨⟨⟨g1, g2⟩, g3⟩, g4⟩, g5⟩, g6⟩ := h5
  simp [Cond.before, Cond.holds, Cond.value, h1, h2, h3, h4, g1, g2, g3, g4, g5, g6]
def isCode : Jvm.Cond → Bool
  | .code _ _ _ _ => true
  | _ => false
theorem all_split {L : List Jvm.Cond} {P : Jvm.Cond → Bool} (h1 : L.all (fun c => isCode c || P c) = true) (h2 : ∀ c ∈ L.filter isCode, P c = true) : L.all P = true := by
  refine List.all_eq_true.mpr fun c hc => ?_
  have h := List.all_eq_true.mp h1 c hc
  rcases Bool.eq_false_or_eq_true (isCode c) with hi | hi
  · exact h2 c (List.mem_filter.mpr ⟨hc, hi⟩)
  · simpa [hi] using h
set_option maxRecDepth 65536 in
theorem w_c0 : (Jvm.Cond.code x code maxLocals ret).before args0 about1 = true := code_word (m := ⟨1, 1⟩) (meth := k1m1) (c := k1c1) (by decide +kernel) rfl rfl rfl (by decide +kernel)
set_option maxRecDepth 65536 in
theorem w_c1 : (Jvm.Cond.code ({ cls := "com/example/evenkeel/evenkeel/FullCycles", name := "<init>", desc := "()V" } : Jvm.MethodName) prog_34_method_1_code (1 : Nat) (Option.none : Option Jvm.ClassFile.FieldType)).before args0 about1 = true := code_word (m := ⟨2, 0⟩) (meth := k2m0) (c := k2c0) (by decide +kernel) rfl rfl rfl (by decide +kernel)
set_option maxRecDepth 65536 in
theorem w_c2 : (Jvm.Cond.code ({ cls := "java/lang/Object", name := "<init>", desc := "()V" } : Jvm.MethodName) object_method_1_code (1 : Nat) (Option.none : Option Jvm.ClassFile.FieldType)).before args0 about1 = true := code_word (m := ⟨0, 0⟩) (meth := k0m0) (c := k0c0) (by decide +kernel) rfl rfl rfl (by decide +kernel)
set_option maxRecDepth 65536 in
theorem w_c3 : (Jvm.Cond.code ({ cls := "com/example/evenkeel/evenkeel/CurrentValue", name := "<init>", desc := "()V" } : Jvm.MethodName) prog_13_method_1_code (1 : Nat) (Option.none : Option Jvm.ClassFile.FieldType)).before args0 about1 = true := code_word (m := ⟨3, 0⟩) (meth := k3m0) (c := k3c0) (by decide +kernel) rfl rfl rfl (by decide +kernel)
set_option maxRecDepth 65536 in
theorem w_c4 : (Jvm.Cond.code ({ cls := "com/example/evenkeel/evenkeel/FullCycles", name := "enter", desc := "(ZZJI)Z" } : Jvm.MethodName) prog_34_method_4_code (6 : Nat) (Option.some Jvm.ClassFile.FieldType.boolean)).before args0 about1 = true := code_word (m := ⟨2, 2⟩) (meth := k2m2) (c := k2c2) (by decide +kernel) rfl rfl rfl (by decide +kernel)
set_option maxRecDepth 65536 in
theorem w_c5 : (Jvm.Cond.code ({ cls := "com/example/evenkeel/evenkeel/FullCycles", name := "begin", desc := "(J)V" } : Jvm.MethodName) prog_34_method_13_code (3 : Nat) (Option.none : Option Jvm.ClassFile.FieldType)).before args0 about1 = true := code_word (m := ⟨2, 8⟩) (meth := k2m8) (c := k2c8) (by decide +kernel) rfl rfl rfl (by decide +kernel)
set_option maxRecDepth 65536 in
theorem w_c6 : (Jvm.Cond.code ({ cls := "com/example/evenkeel/evenkeel/FullCycles", name := "skip", desc := "(J)V" } : Jvm.MethodName) prog_34_method_10_code (3 : Nat) (Option.none : Option Jvm.ClassFile.FieldType)).before args0 about1 = true := code_word (m := ⟨2, 6⟩) (meth := k2m6) (c := k2c6) (by decide +kernel) rfl rfl rfl (by decide +kernel)
set_option maxRecDepth 65536 in
theorem w_c7 : (Jvm.Cond.code ({ cls := "com/example/evenkeel/evenkeel/FullCycles", name := "tookPart", desc := "(Lcom/example/evenkeel/evenkeel/CurrentValue;I)V" } : Jvm.MethodName) prog_34_method_3_code (3 : Nat) (Option.none : Option Jvm.ClassFile.FieldType)).before args0 about1 = true := code_word (m := ⟨2, 1⟩) (meth := k2m1) (c := k2c1) (by decide +kernel) rfl rfl rfl (by decide +kernel)
set_option maxRecDepth 65536 in
theorem w_c8 : (Jvm.Cond.code ({ cls := "com/example/evenkeel/evenkeel/FullCycles", name := "cycle", desc := "()J" } : Jvm.MethodName) prog_34_method_8_code (1 : Nat) (Option.some Jvm.ClassFile.FieldType.long)).before args0 about1 = true := code_word (m := ⟨2, 4⟩) (meth := k2m4) (c := k2c4) (by decide +kernel) rfl rfl rfl (by decide +kernel)
set_option maxRecDepth 65536 in
theorem w_c9 : (Jvm.Cond.code ({ cls := "com/example/evenkeel/evenkeel/FullCycles", name := "left", desc := "()J" } : Jvm.MethodName) prog_34_method_9_code (1 : Nat) (Option.some Jvm.ClassFile.FieldType.long)).before args0 about1 = true := code_word (m := ⟨2, 5⟩) (meth := k2m5) (c := k2c5) (by decide +kernel) rfl rfl rfl (by decide +kernel)
set_option maxRecDepth 65536 in
theorem w_c10 : (Jvm.Cond.code ({ cls := "com/example/evenkeel/evenkeel/FullCycles", name := "holds", desc := "()Z" } : Jvm.MethodName) prog_34_method_5_code (1 : Nat) (Option.some Jvm.ClassFile.FieldType.boolean)).before args0 about1 = true := code_word (m := ⟨2, 3⟩) (meth := k2m3) (c := k2c3) (by decide +kernel) rfl rfl rfl (by decide +kernel)
set_option maxRecDepth 65536 in
theorem w_c11 : (Jvm.Cond.code ({ cls := "com/example/evenkeel/evenkeel/FullCycles", name := "giveUp", desc := "()V" } : Jvm.MethodName) prog_34_method_11_code (1 : Nat) (Option.none : Option Jvm.ClassFile.FieldType)).before args0 about1 = true := code_word (m := ⟨2, 7⟩) (meth := k2m7) (c := k2c7) (by decide +kernel) rfl rfl rfl (by decide +kernel)
def codes1 : List Jvm.Cond := [Jvm.Cond.code x code maxLocals ret, Jvm.Cond.code ({ cls := "com/example/evenkeel/evenkeel/FullCycles", name := "<init>", desc := "()V" } : Jvm.MethodName) prog_34_method_1_code (1 : Nat) (Option.none : Option Jvm.ClassFile.FieldType), Jvm.Cond.code ({ cls := "java/lang/Object", name := "<init>", desc := "()V" } : Jvm.MethodName) object_method_1_code (1 : Nat) (Option.none : Option Jvm.ClassFile.FieldType), Jvm.Cond.code ({ cls := "com/example/evenkeel/evenkeel/CurrentValue", name := "<init>", desc := "()V" } : Jvm.MethodName) prog_13_method_1_code (1 : Nat) (Option.none : Option Jvm.ClassFile.FieldType), Jvm.Cond.code ({ cls := "com/example/evenkeel/evenkeel/FullCycles", name := "enter", desc := "(ZZJI)Z" } : Jvm.MethodName) prog_34_method_4_code (6 : Nat) (Option.some Jvm.ClassFile.FieldType.boolean), Jvm.Cond.code ({ cls := "com/example/evenkeel/evenkeel/FullCycles", name := "begin", desc := "(J)V" } : Jvm.MethodName) prog_34_method_13_code (3 : Nat) (Option.none : Option Jvm.ClassFile.FieldType), Jvm.Cond.code ({ cls := "com/example/evenkeel/evenkeel/FullCycles", name := "skip", desc := "(J)V" } : Jvm.MethodName) prog_34_method_10_code (3 : Nat) (Option.none : Option Jvm.ClassFile.FieldType), Jvm.Cond.code ({ cls := "com/example/evenkeel/evenkeel/FullCycles", name := "tookPart", desc := "(Lcom/example/evenkeel/evenkeel/CurrentValue;I)V" } : Jvm.MethodName) prog_34_method_3_code (3 : Nat) (Option.none : Option Jvm.ClassFile.FieldType), Jvm.Cond.code ({ cls := "com/example/evenkeel/evenkeel/FullCycles", name := "cycle", desc := "()J" } : Jvm.MethodName) prog_34_method_8_code (1 : Nat) (Option.some Jvm.ClassFile.FieldType.long), Jvm.Cond.code ({ cls := "com/example/evenkeel/evenkeel/FullCycles", name := "left", desc := "()J" } : Jvm.MethodName) prog_34_method_9_code (1 : Nat) (Option.some Jvm.ClassFile.FieldType.long), Jvm.Cond.code ({ cls := "com/example/evenkeel/evenkeel/FullCycles", name := "holds", desc := "()Z" } : Jvm.MethodName) prog_34_method_5_code (1 : Nat) (Option.some Jvm.ClassFile.FieldType.boolean), Jvm.Cond.code ({ cls := "com/example/evenkeel/evenkeel/FullCycles", name := "giveUp", desc := "()V" } : Jvm.MethodName) prog_34_method_11_code (1 : Nat) (Option.none : Option Jvm.ClassFile.FieldType)]
set_option maxRecDepth 65536 in
theorem codes_eq : words1.filter isCode = codes1 := rfl
theorem w_codes : ∀ c ∈ words1.filter isCode, c.before args0 about1 = true := by
  rw [codes_eq]
  intro c hc
  simp only [codes1, List.mem_cons, List.not_mem_nil, or_false] at hc
  rcases hc with rfl | rfl | rfl | rfl | rfl | rfl | rfl | rfl | rfl | rfl | rfl | rfl
  · exact w_c0
  · exact w_c1
  · exact w_c2
  · exact w_c3
  · exact w_c4
  · exact w_c5
  · exact w_c6
  · exact w_c7
  · exact w_c8
  · exact w_c9
  · exact w_c10
  · exact w_c11
set_option maxRecDepth 65536 in
theorem w_t1 : (words1.take 24).all (fun c => isCode c || c.before args0 about1) = true := by decide +kernel
set_option maxRecDepth 65536 in
theorem w_t2 : ((words1.drop 24).take 24).all (fun c => isCode c || c.before args0 about1) = true := by decide +kernel
set_option maxRecDepth 65536 in
theorem w_t3 : (((words1.drop 24).drop 24).take 24).all (fun c => isCode c || c.before args0 about1) = true := by decide +kernel
set_option maxRecDepth 65536 in
theorem w_t4 : (((words1.drop 24).drop 24).drop 24).all (fun c => isCode c || c.before args0 about1) = true := by decide +kernel
theorem w_tables : (allAtoms (Jvm.Cond.code x code maxLocals ret :: tables_1)).before args0 about1 = true := by
  rw [allAtoms_all]
  show words1.all (fun c => c.before args0 about1) = true
  refine all_split ?_ w_codes
  rw [← List.take_append_drop 24 words1, List.all_append, w_t1, ← List.take_append_drop 24 (words1.drop 24), List.all_append, w_t2, ← List.take_append_drop 24 ((words1.drop 24).drop 24), List.all_append, w_t3, w_t4]
  rfl
set_option maxRecDepth 65536 in
theorem w_case : (Jvm.Cond.and given_1 narrow_1).before args0 about1 = true := by decide +kernel
theorem w_applies : (headSpec (Jvm.Cond.code x code maxLocals ret :: tables_1) room_1).applies x e0.platform about1 = true :=
  (Spec.applies_iff w_frames).mpr ⟨w_running, w_runnable, w_alone, w_named, w_hears, w_ripe, w_room, w_tables⟩
theorem atStart : AtStart classFile x code maxLocals ret World_1 tables_1 room_1 Calls_1 rest_1 Pre_1 launch0 p0 e0 about1 theMethod args0 below0 :=
  ⟨lists_1, trivial, launch0.admits_env _ _ _, launch0.least_env, fairChoices_fair.cas, fairChoices_fair.clock, w_frames, w_args, w_heap, w_applies, trivial, trivial, w_case⟩
end start1
theorem witness_1 : WitnessClaimed_1 := ⟨start1.p0, start1.e0, start1.about1, start1.theMethod, start1.args0, start1.below0, start1.atStart⟩
end Jvm.Pilot.@@N@@
