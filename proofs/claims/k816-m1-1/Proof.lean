import JvmDerived
import JvmDerived.Pilot.@@N@@Statement
import JvmDerived.Pilot.@@N@@Code
set_option linter.unusedVariables false
set_option linter.unusedSimpArgs false
namespace Jvm.RoadKit
open Sem ClassFile Op Lib Jvm.Stand Jvm.Free Jvm.LawKit
section New
variable {p : Program} {l : Launch} {e : Env} {R : Room} {s : State} {m : MethodId} {args : Array Value} {below : List Frame} {meth : Method} {c : Code} {T : State} {locs : List Loc} {cells slots : Nat}
theorem retI (X : Stand p l e R s m args below meth c T locs cells slots) (hx : p.tables.exec = Jvm.exec) {pc : Nat} {Ls : Array Slot} {z : Int32} {rest : List Value} (hret : meth.sig.returnType = some .int) (hd : decode c.code pc = .ok (.ireturn, 1)) {fs : List Frame}
    (hl : ∀ (f : JFrame) (acts : List Action), f.method = m → f.locked = none → f.entered = [] → (doReturn e (T.setTop f) acts (some (.int z))).1 = T.setFrames fs) : Steps p.tables e below (T.setTop (mkF m pc Ls (.int z :: rest))) (T.setFrames fs) := by
  have hm' : T.vm.method? m = some meth := X.method'
  have hn : narrow .int (.int z) = .int z := rfl
  show Steps p.tables e below (T.setTop { method := m, pc := pc, locals := Ls, stack := _ :: rest, locked := none }) _
  jvm_step X.here [X.here.top, hx, hd, hm', hret, hn]
  first | (intro acts; rw [hl _ acts rfl rfl rfl]) | rw [hl _ _ rfl rfl rfl]
  exact Steps.refl _
theorem own_retJ (X : Stand p l e R s m args below meth c T locs cells slots) (hx : p.tables.exec = Jvm.exec) {pc : Nat} {Ls : Array Slot} {z : Int64} {rest : List Value} (hret : meth.sig.returnType = some .long) (hd : decode c.code pc = .ok (.lreturn, 1)) {fs : List Frame}
    (hl : ∀ (f : JFrame) (acts : List Action), f.method = m → f.locked = none → f.entered = [] → (doReturn e (T.setTop f) acts (some (.long z))).1 = T.setFrames fs) : Steps p.tables e below (T.setTop (mkF m pc Ls (.long z :: rest))) (T.setFrames fs) := by
  have hm' : T.vm.method? m = some meth := X.method'
  have hn : narrow .long (.long z) = .long z := rfl
  show Steps p.tables e below (T.setTop { method := m, pc := pc, locals := Ls, stack := _ :: rest, locked := none }) _
  jvm_step X.here [X.here.top, hx, hd, hm', hret, hn]
  first | (intro acts; rw [hl _ acts rfl rfl rfl]) | rw [hl _ _ rfl rfl rfl]
  exact Steps.refl _
theorem own_lremM {g : JFrame} {target : State} (X : Stand p l e R s m args below meth c T locs cells slots) (hx : p.tables.exec = Jvm.exec) (hg : g.method = m) {x y : Int64} {rest : List Value} (hd : decode c.code g.pc = .ok (.lrem, 1)) (hs : g.stack = .long y :: .long x :: rest) (hy : y ≠ 0)
    (hr : Steps p.tables e below (T.setTop { g with pc := g.pc + 1, stack := .long (x % y) :: rest }) target) : Steps p.tables e below (T.setTop g) target :=
  XS.lrem X.here hx hg hd hs hy (by rw [lrem_mod]; exact hr)
end New
/-- from the state A the run comes to a state that P describes -/
def own_Lead (tb : Tables) (e : Env) (below : List Frame) (A : State) (P : State → Prop) : Prop := ∃ B, P B ∧ ∀ t, Steps tb e below B t → Steps tb e below A t
theorem own_st {tb : Tables} {e : Env} {below : List Frame} {A B : State} {P : State → Prop} (st : ∀ t, Steps tb e below B t → Steps tb e below A t) (h : own_Lead tb e below B P) : own_Lead tb e below A P := by
  obtain ⟨C, hp, hs⟩ := h
  exact ⟨C, hp, fun t k => st t (hs t k)⟩
theorem own_fin {tb : Tables} {e : Env} {below : List Frame} {A B : State} {P : State → Prop} (st : Steps tb e below A B) (h : P B) : own_Lead tb e below A P := ⟨B, h, fun t k => st.trans k⟩
theorem own_run {tb : Tables} {e : Env} {below : List Frame} {A : State} {K : State → Outcome → Prop} (h : own_Lead tb e below A (fun B => ∃ o, K B o)) : ∃ s₂ o, Steps tb e below A s₂ ∧ K s₂ o := by
  obtain ⟨B, ⟨o, hk⟩, st⟩ := h
  exact ⟨B, o, st B (Steps.refl _), hk⟩
/-- a boolean as an int -/
def own_b (P : Prop) [Decidable P] : Int32 := if P then 1 else 0
theorem own_b1 {P : Prop} [Decidable P] (h : P) : own_b P = 1 := if_pos h
theorem own_b0 {P : Prop} [Decidable P] (h : ¬ P) : own_b P = 0 := if_neg h
theorem own_bi {P Q : Prop} [Decidable P] [Decidable Q] (h : P ↔ Q) : own_b P = own_b Q := by
  by_cases hp : P
  · rw [own_b1 hp, own_b1 (h.mp hp)]
  · rw [own_b0 hp, own_b0 (fun q => hp (h.mpr q))]
theorem own_bj {P Q : Prop} [Decidable P] [Decidable Q] {x : Int32} (hx : x = own_b Q) (h1 : Q → P) (h2 : ¬ Q → ¬ P) : x = own_b P := by
  rw [hx]
  by_cases hq : Q
  · rw [own_b1 hq, own_b1 (h1 hq)]
  · rw [own_b0 hq, own_b0 (h2 hq)]
theorem own_bn0 {P : Prop} [Decidable P] {x : Int32} (hx : x = own_b P) (h : P) : ¬ x = 0 := by rw [hx, own_b1 h]; decide
theorem own_b00 {P : Prop} [Decidable P] {x : Int32} (hx : x = own_b P) (h : ¬ P) : x = 0 := by rw [hx, own_b0 h]
theorem own_bb {P Q : Prop} [Decidable P] [Decidable Q] {x y : Int32} (hx : x = own_b P) (hy : y = own_b Q) (h : P ↔ Q) : x = y := by rw [hx, hy, own_bi h]
theorem own_bnar {P : Prop} [Decidable P] : nar .boolean (own_b P) = own_b P := by
  by_cases hp : P
  · rw [own_b1 hp]; decide
  · rw [own_b0 hp]; decide
theorem own_bor {P Q : Prop} [Decidable P] [Decidable Q] : (own_b P ||| own_b Q) = own_b (P ∨ Q) := by
  by_cases hp : P <;> by_cases hq : Q
  · rw [own_b1 hp, own_b1 hq, own_b1 (Or.inl hp)]; decide
  · rw [own_b1 hp, own_b0 hq, own_b1 (Or.inl hp)]; decide
  · rw [own_b0 hp, own_b1 hq, own_b1 (Or.inr hq)]; decide
  · rw [own_b0 hp, own_b0 hq, own_b0 (fun w => w.elim hp hq)]; decide
theorem own_nar {P : Prop} [Decidable P] {x : Int32} (hx : x = own_b P) : nar .boolean x = own_b P := by rw [hx]; exact own_bnar
theorem own_bnarw {P : Prop} [Decidable P] {x : Int32} (hx : x = own_b P) : narrow .boolean (.int x) = .int x := by
  show Value.int (nar .boolean x) = _
  rw [own_nar hx, hx]
theorem own_bfits {x : Int32} (h : narrow .boolean (.int x) = .int x) : fits .boolean (.int x) = true := by
  have := fits_nar_bool x
  have e : nar .boolean x = x := Value.int.inj h
  rwa [e] at this
theorem own_cast {Z : State} {h : Heap} {a : Addr} {C n d : String} {v w : Value} (e : v = w) (F : Fld Z h a C n d v) : Fld Z h a C n d w := e ▸ F
theorem own_selPriv {Z : State} {a0 : Array Value} {y z : MethodName} {C : String} (hp : (Cond.privateMethod y).before a0 Z = true) (hi : (Cond.instanceMethod y).before a0 Z = true) (hs : (Cond.selects C z z).before a0 Z = true) (hc : z.cls = y.cls)
    (hy : y.cls ≠ "java/lang/invoke/MethodHandle" ∧ y.cls ≠ "java/lang/invoke/VarHandle") : (Cond.selects y.cls y y).before a0 Z = true := by
  obtain ⟨mk, methM, hnamed, hmethM, hstM, habM⟩ := Cond.instanceMethod_spec hi
  obtain ⟨c2, r2, m2, q1, q2, q3, q4, kP, hkP, hkPi⟩ := Cond.selects_spec hs
  have e1 := findClass_of_methodNamed hnamed
  have e2 := findClass_of_methodNamed q3
  rw [hc, e1] at e2
  have e3 : mk.cls = m2.cls := Option.some.inj e2
  have hf := State.methodFound?_of_named hnamed hy
  have hpm := Cond.privateMethod_at hp mk methM hnamed hmethM
  simp [Cond.before, Cond.holds, Cond.value, e1, hf, hnamed, selectMethod_private hmethM hpm, e3, hkP, hkPi]
section Copy
variable {p : Program} {l : Launch} {e : Env} {R : Room} {s : State} {m : MethodId} {args : Array Value} {below : List Frame} {meth : Method} {c : Code} {T : State} {locs : List Loc} {cells slots : Nat} {Z : State} {h : Heap} {a b : Addr}
end Copy
section Cold
variable {p : Program} {l : Launch} {e : Env} {R : Room} {s : State} {vm0 : Vm} {m : MethodId} {args : Array Value} {below : List Frame} {meth : Method} {c : Code} {T : State} {locs : List Loc} {cells slots : Nat} {Z : State} {a0 : Array Value} {h : Heap}
end Cold
end Jvm.RoadKit
namespace Jvm.Pilot.@@N@@
open Jvm Jvm.ClassFile Sem Op Lib Jvm.Free Jvm.Stand Jvm.LawKit Jvm.RoadKit Bundle Jvm.Pilot.@@N@@.Jvm.D
theorem own_pn0 : plainName "com/example/evenkeel/evenkeel/FullCycles" = true := by first | (simp [plainName, overriddenIn]; done) | decide +kernel
theorem own_d1_0 : decode prog_34_method_1_code 0 = .ok (.aload_n 0, 1) := by decide +kernel
theorem own_d1_1 : decode prog_34_method_1_code 1 = .ok (.invokespecial 1, 3) := by decide +kernel
theorem own_d1_4 : decode prog_34_method_1_code 4 = .ok (.return_, 1) := by decide +kernel
theorem own_ef1 (m : MethodId) (r0 : Addr) : entryFrame m #[(.ref r0)] 1 = mkF m 0 #[.val (.ref r0)] [] := by first | (simp [entryFrame, mkF, argsToLocals, Value.category]; done) | rfl
def own_Q1 (Z : State) (r0 : Addr) (h0 : Heap) (n0 : Nat) (v : Option Value) (h : Heap) (L : List Loc) : Prop := (v = none) ∧ (Fr n0 L) ∧ (h = h0)
set_option maxRecDepth 65536 in
set_option maxHeartbeats 40000000 in
theorem own_rm1 (l : Launch) (Z : State) (a0 : Array Value) (hw : ∀ d ∈ tables_1, d.before a0 Z = true) (ws : List Jvm.Cond) (r0 : Addr) (h0 : Heap) (n0 : Nat) (Z0 : n0 ≤ h0.size) :
    MetFree l (⟨"com/example/evenkeel/evenkeel/FullCycles", "<init>", "()V"⟩ : MethodName) (head1 (Jvm.Cond.code (⟨"com/example/evenkeel/evenkeel/FullCycles", "<init>", "()V"⟩ : MethodName) prog_34_method_1_code 1 none :: ws) ({ frames := 1, cells := 0, slots := 0, locals := 12 } : Room)) (fun a U => a = #[(.ref r0)] ∧ Z.Warmed39 U.vm ∧ U.heap = h0) (fun _ _ _ _ _ => True) (fun _ U o U' => ∃ v L, o = .returned v ∧ own_Q1 Z r0 h0 n0 v U'.heap L ∧ FrameEnd U o U' L ({ frames := 1, cells := 0, slots := 0, locals := 12 } : Room).cells ({ frames := 1, cells := 0, slots := 0, locals := 12 } : Room).slots) := by
  refine MetFree.of_bodySF (plainFor_of_name own_pn0) hisR ?_
  intro p e s m args below meth c s₁ Bd hml0 hP hK
  obtain ⟨rfl, hZ, hh⟩ := hP
  have hx := Bd.exec
  have hby := Bd.bytes
  have hml : c.maxLocals = 1 := hml0
  have hown : s.vm.findClass "com/example/evenkeel/evenkeel/FullCycles" = some m.cls := findClass_of_methodNamed Bd.named
  have hnm := (name_of_methodNamed Bd.named Bd.method).1
  have X0 : Stand p l e ({ frames := 1, cells := 0, slots := 0, locals := 12 } : Room) s m #[(.ref r0)] below meth c s₁ [] 0 0 := Stand.of_body Bd
  have e0 : s₁.heap = h0 := by rw [← hh, Bd.state]; rfl
  have N0 := Fr.nil n0
  have pre0 : ∀ t, Steps p.tables e below (s₁.setTop (mkF m 0 #[.val (.ref r0)] [])) t → Steps p.tables e below (s₁.setTop (entryFrame m #[(.ref r0)] 1)) t := fun t k => castTop (own_ef1 m r0) k
  refine own_run (own_st pre0 ?_)
  refine own_st (B := s₁.setTop (mkF m 1 #[.val (.ref r0)] [(.ref r0)])) (fun target kt => ?_) ?_
  · show Steps p.tables e below (s₁.setTop (mkF m 0 #[.val (.ref r0)] [])) target
    refine XS.aloadN X0.here hx rfl (hb hby own_d1_0) rfl rfl ?_
    exact kt
  obtain ⟨Tg1, Xg1, eg1, stg1⟩ := initO X0 hx hZ hown (hw _ (List.mem_of_getElem? (i := 7) rfl)) (hw _ (List.mem_of_getElem? (i := 8) rfl)) (hw _ (List.mem_of_getElem? (i := 9) rfl)) e0 (g := (mkF m 1 #[.val (.ref r0)] [(.ref r0)])) rfl (by rw [hml]; rfl) rfl (hb hby own_d1_1) (by decide) (W := 0) (by show 2 * 0 + _ ≤ _; exact Nat.le_of_eq rfl) (by decide)
  refine own_st stg1 ?_
  obtain ⟨fs, hr, hrun, hended, hW, hsame⟩ := Xg1.leave (v := none) (fun _ => rfl)
  have hend : Steps p.tables e below (Tg1.setTop (mkF m 4 #[.val (.ref r0)] [])) (Tg1.setFrames fs) := by
    exact Xg1.returnOut hx Bd.returns (hb hby own_d1_4) hr
  refine own_fin hend ⟨_, hrun, hended, _, _, rfl, ?_, ⟨_, rfl⟩, hW, hsame.mono (by decide) (by decide)⟩
  show own_Q1 Z r0 h0 n0 _ Tg1.heap _
  rw [eg1]
  exact ⟨rfl, N0, rfl⟩
theorem own_pn1 : plainName "com/example/evenkeel/evenkeel/CurrentValue" = true := by first | (simp [plainName, overriddenIn]; done) | decide +kernel
theorem own_d7_0 : decode prog_13_method_1_code 0 = .ok (.aload_n 0, 1) := by decide +kernel
theorem own_d7_1 : decode prog_13_method_1_code 1 = .ok (.invokespecial 1, 3) := by decide +kernel
theorem own_d7_4 : decode prog_13_method_1_code 4 = .ok (.return_, 1) := by decide +kernel
theorem own_ef7 (m : MethodId) (r0 : Addr) : entryFrame m #[(.ref r0)] 1 = mkF m 0 #[.val (.ref r0)] [] := by first | (simp [entryFrame, mkF, argsToLocals, Value.category]; done) | rfl
def own_Q7 (Z : State) (r0 : Addr) (h0 : Heap) (n0 : Nat) (v : Option Value) (h : Heap) (L : List Loc) : Prop := (v = none) ∧ (Fr n0 L) ∧ (h = h0)
set_option maxRecDepth 65536 in
set_option maxHeartbeats 40000000 in
theorem own_rm7 (l : Launch) (Z : State) (a0 : Array Value) (hw : ∀ d ∈ tables_1, d.before a0 Z = true) (ws : List Jvm.Cond) (r0 : Addr) (h0 : Heap) (n0 : Nat) (Z0 : n0 ≤ h0.size) :
    MetFree l (⟨"com/example/evenkeel/evenkeel/CurrentValue", "<init>", "()V"⟩ : MethodName) (head1 (Jvm.Cond.code (⟨"com/example/evenkeel/evenkeel/CurrentValue", "<init>", "()V"⟩ : MethodName) prog_13_method_1_code 1 none :: ws) ({ frames := 1, cells := 0, slots := 0, locals := 12 } : Room)) (fun a U => a = #[(.ref r0)] ∧ Z.Warmed39 U.vm ∧ U.heap = h0) (fun _ _ _ _ _ => True) (fun _ U o U' => ∃ v L, o = .returned v ∧ own_Q7 Z r0 h0 n0 v U'.heap L ∧ FrameEnd U o U' L ({ frames := 1, cells := 0, slots := 0, locals := 12 } : Room).cells ({ frames := 1, cells := 0, slots := 0, locals := 12 } : Room).slots) := by
  refine MetFree.of_bodySF (plainFor_of_name own_pn1) hisR ?_
  intro p e s m args below meth c s₁ Bd hml0 hP hK
  obtain ⟨rfl, hZ, hh⟩ := hP
  have hx := Bd.exec
  have hby := Bd.bytes
  have hml : c.maxLocals = 1 := hml0
  have hown : s.vm.findClass "com/example/evenkeel/evenkeel/CurrentValue" = some m.cls := findClass_of_methodNamed Bd.named
  have hnm := (name_of_methodNamed Bd.named Bd.method).1
  have X0 : Stand p l e ({ frames := 1, cells := 0, slots := 0, locals := 12 } : Room) s m #[(.ref r0)] below meth c s₁ [] 0 0 := Stand.of_body Bd
  have e0 : s₁.heap = h0 := by rw [← hh, Bd.state]; rfl
  have N0 := Fr.nil n0
  have pre0 : ∀ t, Steps p.tables e below (s₁.setTop (mkF m 0 #[.val (.ref r0)] [])) t → Steps p.tables e below (s₁.setTop (entryFrame m #[(.ref r0)] 1)) t := fun t k => castTop (own_ef7 m r0) k
  refine own_run (own_st pre0 ?_)
  refine own_st (B := s₁.setTop (mkF m 1 #[.val (.ref r0)] [(.ref r0)])) (fun target kt => ?_) ?_
  · show Steps p.tables e below (s₁.setTop (mkF m 0 #[.val (.ref r0)] [])) target
    refine XS.aloadN X0.here hx rfl (hb hby own_d7_0) rfl rfl ?_
    exact kt
  obtain ⟨Tg1, Xg1, eg1, stg1⟩ := initO X0 hx hZ hown (hw _ (List.mem_of_getElem? (i := 50) rfl)) (hw _ (List.mem_of_getElem? (i := 8) rfl)) (hw _ (List.mem_of_getElem? (i := 9) rfl)) e0 (g := (mkF m 1 #[.val (.ref r0)] [(.ref r0)])) rfl (by rw [hml]; rfl) rfl (hb hby own_d7_1) (by decide) (W := 0) (by show 2 * 0 + _ ≤ _; exact Nat.le_of_eq rfl) (by decide)
  refine own_st stg1 ?_
  obtain ⟨fs, hr, hrun, hended, hW, hsame⟩ := Xg1.leave (v := none) (fun _ => rfl)
  have hend : Steps p.tables e below (Tg1.setTop (mkF m 4 #[.val (.ref r0)] [])) (Tg1.setFrames fs) := by
    exact Xg1.returnOut hx Bd.returns (hb hby own_d7_4) hr
  refine own_fin hend ⟨_, hrun, hended, _, _, rfl, ?_, ⟨_, rfl⟩, hW, hsame.mono (by decide) (by decide)⟩
  show own_Q7 Z r0 h0 n0 _ Tg1.heap _
  rw [eg1]
  exact ⟨rfl, N0, rfl⟩
theorem own_d4_0 : decode prog_34_method_13_code 0 = .ok (.aload_n 0, 1) := by decide +kernel
theorem own_d4_1 : decode prog_34_method_13_code 1 = .ok (.lload_n 1, 1) := by decide +kernel
theorem own_d4_2 : decode prog_34_method_13_code 2 = .ok (.putfield 39, 3) := by decide +kernel
theorem own_d4_5 : decode prog_34_method_13_code 5 = .ok (.aload_n 0, 1) := by decide +kernel
theorem own_d4_6 : decode prog_34_method_13_code 6 = .ok (.lconst 0, 1) := by decide +kernel
theorem own_d4_7 : decode prog_34_method_13_code 7 = .ok (.putfield 42, 3) := by decide +kernel
theorem own_d4_10 : decode prog_34_method_13_code 10 = .ok (.aload_n 0, 1) := by decide +kernel
theorem own_d4_11 : decode prog_34_method_13_code 11 = .ok (.iconst 1, 1) := by decide +kernel
theorem own_d4_12 : decode prog_34_method_13_code 12 = .ok (.putfield 36, 3) := by decide +kernel
theorem own_d4_15 : decode prog_34_method_13_code 15 = .ok (.return_, 1) := by decide +kernel
theorem own_ef4 (m : MethodId) (r0 : Addr) (q1 : Int64) : entryFrame m #[(.ref r0), (.long q1)] 3 = mkF m 0 #[.val (.ref r0), .val (.long q1), .second] [] := by first | (simp [entryFrame, mkF, argsToLocals, Value.category]; done) | rfl
def own_Q4 (Z : State) (r0 : Addr) (q1 : Int64) (w_p : Int64) (W_s : Prop) [Decidable W_s] (w_k : Int32) (w_b : Int64) (w_m : Int64) (w_t : Int64) (W_h : Prop) [Decidable W_h] (h0 : Heap) (n0 : Nat) (v : Option Value) (h : Heap) (L : List Loc) : Prop := (v = none) ∧ (Fr n0 L) ∧ (Keep h0 h [r0]) ∧ (Exa Z h r0 "com/example/evenkeel/evenkeel/FullCycles") ∧ (Fld Z h r0 "com/example/evenkeel/evenkeel/FullCycles" "picks" "J" (.long w_p)) ∧ (Fld Z h r0 "com/example/evenkeel/evenkeel/FullCycles" "steady" "Z" (.int (own_b W_s))) ∧ (Fld Z h r0 "com/example/evenkeel/evenkeel/FullCycles" "taking" "I" (.int w_k)) ∧ (Fld Z h r0 "com/example/evenkeel/evenkeel/FullCycles" "began" "J" (.long q1)) ∧ (Fld Z h r0 "com/example/evenkeel/evenkeel/FullCycles" "made" "J" (.long (0 : Int64))) ∧ (Fld Z h r0 "com/example/evenkeel/evenkeel/FullCycles" "total" "J" (.long w_t)) ∧ (Fld Z h r0 "com/example/evenkeel/evenkeel/FullCycles" "holding" "Z" (.int (1 : Int32)))
set_option maxRecDepth 65536 in
set_option maxHeartbeats 40000000 in
theorem own_rm4 (l : Launch) (Z : State) (a0 : Array Value) (hw : ∀ d ∈ tables_1, d.before a0 Z = true) (ws : List Jvm.Cond) (r0 : Addr) (q1 : Int64) (w_p : Int64) (W_s : Prop) [Decidable W_s] (w_k : Int32) (w_b : Int64) (w_m : Int64) (w_t : Int64) (W_h : Prop) [Decidable W_h] (h0 : Heap) (n0 : Nat) (Z0 : n0 ≤ h0.size) (E_r0 : Exa Z h0 r0 "com/example/evenkeel/evenkeel/FullCycles") (F_r0_picks : Fld Z h0 r0 "com/example/evenkeel/evenkeel/FullCycles" "picks" "J" (.long w_p)) (F_r0_steady : Fld Z h0 r0 "com/example/evenkeel/evenkeel/FullCycles" "steady" "Z" (.int (own_b W_s))) (F_r0_taking : Fld Z h0 r0 "com/example/evenkeel/evenkeel/FullCycles" "taking" "I" (.int w_k)) (F_r0_began : Fld Z h0 r0 "com/example/evenkeel/evenkeel/FullCycles" "began" "J" (.long w_b)) (F_r0_made : Fld Z h0 r0 "com/example/evenkeel/evenkeel/FullCycles" "made" "J" (.long w_m)) (F_r0_total : Fld Z h0 r0 "com/example/evenkeel/evenkeel/FullCycles" "total" "J" (.long w_t)) (F_r0_holding : Fld Z h0 r0 "com/example/evenkeel/evenkeel/FullCycles" "holding" "Z" (.int (own_b W_h))) (g_r0 : n0 ≤ r0) :
    MetFree l (⟨"com/example/evenkeel/evenkeel/FullCycles", "begin", "(J)V"⟩ : MethodName) (head1 (Jvm.Cond.code (⟨"com/example/evenkeel/evenkeel/FullCycles", "begin", "(J)V"⟩ : MethodName) prog_34_method_13_code 3 none :: ws) ({ frames := 0, cells := 0, slots := 0, locals := 0 } : Room)) (fun a U => a = #[(.ref r0), (.long q1)] ∧ Z.Warmed39 U.vm ∧ U.heap = h0) (fun _ _ _ _ _ => True) (fun _ U o U' => ∃ v L, o = .returned v ∧ own_Q4 Z r0 q1 w_p W_s w_k w_b w_m w_t W_h h0 n0 v U'.heap L ∧ FrameEnd U o U' L ({ frames := 0, cells := 0, slots := 0, locals := 0 } : Room).cells ({ frames := 0, cells := 0, slots := 0, locals := 0 } : Room).slots) := by
  refine MetFree.of_bodySF (plainFor_of_name own_pn0) hisR ?_
  intro p e s m args below meth c s₁ Bd hml0 hP hK
  obtain ⟨rfl, hZ, hh⟩ := hP
  have hx := Bd.exec
  have hby := Bd.bytes
  have hml : c.maxLocals = 3 := hml0
  have hown : s.vm.findClass "com/example/evenkeel/evenkeel/FullCycles" = some m.cls := findClass_of_methodNamed Bd.named
  have hnm := (name_of_methodNamed Bd.named Bd.method).1
  have X0 : Stand p l e ({ frames := 0, cells := 0, slots := 0, locals := 0 } : Room) s m #[(.ref r0), (.long q1)] below meth c s₁ [] 0 0 := Stand.of_body Bd
  have e0 : s₁.heap = h0 := by rw [← hh, Bd.state]; rfl
  have N0 := Fr.nil n0
  have pre0 : ∀ t, Steps p.tables e below (s₁.setTop (mkF m 0 #[.val (.ref r0), .val (.long q1), .second] [])) t → Steps p.tables e below (s₁.setTop (entryFrame m #[(.ref r0), (.long q1)] 3)) t := fun t k => castTop (own_ef4 m r0 q1) k
  refine own_run (own_st pre0 ?_)
  refine own_st (B := s₁.setTop (mkF m 2 #[.val (.ref r0), .val (.long q1), .second] [(.long q1), (.ref r0)])) (fun target kt => ?_) ?_
  · show Steps p.tables e below (s₁.setTop (mkF m 0 #[.val (.ref r0), .val (.long q1), .second] [])) target
    refine XS.aloadN X0.here hx rfl (hb hby own_d4_0) rfl rfl ?_
    show Steps p.tables e below (s₁.setTop (mkF m 1 #[.val (.ref r0), .val (.long q1), .second] [(.ref r0)])) target
    refine XS.lloadN X0.here hx rfl (hb hby own_d4_1) rfl ?_
    exact kt
  obtain ⟨Tg2, hg2, Xg2, eg2, Wg2, stg2⟩ := putF X0 hx hZ hown (host := "") (Or.inl (hw _ (List.mem_of_getElem? (i := 24) rfl))) Via.refl e0 F_r0_began E_r0 (Or.inl (hw _ (List.mem_of_getElem? (i := 25) rfl))) (hw _ (List.mem_of_getElem? (i := 2) rfl)) (ty := .long) (by decide) rfl rfl (g := (mkF m 2 #[.val (.ref r0), .val (.long q1), .second] [(.long q1), (.ref r0)])) rfl rfl (hb hby own_d4_2)
  refine own_st stg2 ?_
  have Ng2 := Fr.snoc Xg2 N0 g_r0
  have F := E_r0.wr Wg2
  have F_1 := F_r0_picks.other Wg2 (Or.inr (slot_ne (Or.inl (hw _ (List.mem_of_getElem? (i := 19) rfl))) (Or.inl (hw _ (List.mem_of_getElem? (i := 25) rfl))) (by decide) (t := .long) (t' := .long) (by decide) (by decide)))
  have F_2 := F_r0_steady.other Wg2 (Or.inr (slot_ne (Or.inl (hw _ (List.mem_of_getElem? (i := 17) rfl))) (Or.inl (hw _ (List.mem_of_getElem? (i := 25) rfl))) (by decide) (t := .boolean) (t' := .long) (by decide) (by decide)))
  have F_3 := F_r0_taking.other Wg2 (Or.inr (slot_ne (Or.inl (hw _ (List.mem_of_getElem? (i := 33) rfl))) (Or.inl (hw _ (List.mem_of_getElem? (i := 25) rfl))) (by decide) (t := .int) (t' := .long) (by decide) (by decide)))
  have F_4 := F_r0_began.same Wg2
  have F_5 := F_r0_made.other Wg2 (Or.inr (slot_ne (Or.inl (hw _ (List.mem_of_getElem? (i := 27) rfl))) (Or.inl (hw _ (List.mem_of_getElem? (i := 25) rfl))) (by decide) (t := .long) (t' := .long) (by decide) (by decide)))
  have F_6 := F_r0_total.other Wg2 (Or.inr (slot_ne (Or.inl (hw _ (List.mem_of_getElem? (i := 31) rfl))) (Or.inl (hw _ (List.mem_of_getElem? (i := 25) rfl))) (by decide) (t := .long) (t' := .long) (by decide) (by decide)))
  have F_7 := F_r0_holding.other Wg2 (Or.inr (slot_ne (Or.inl (hw _ (List.mem_of_getElem? (i := 29) rfl))) (Or.inl (hw _ (List.mem_of_getElem? (i := 25) rfl))) (by decide) (t := .boolean) (t' := .long) (by decide) (by decide)))
  have Zz : n0 ≤ hg2.size := Nat.le_trans Z0 (Keep.of_wr Wg2).1
  have Kc := (Keep.refl h0 [r0]).wr Wg2 (Or.inl (List.mem_of_getElem? (i := 0) rfl))
  refine own_st (B := Tg2.setTop (mkF m 7 #[.val (.ref r0), .val (.long q1), .second] [(.long (0 : Int64)), (.ref r0)])) (fun target kt => ?_) ?_
  · show Steps p.tables e below (Tg2.setTop (mkF m 5 #[.val (.ref r0), .val (.long q1), .second] [])) target
    refine XS.aloadN Xg2.here hx rfl (hb hby own_d4_5) rfl rfl ?_
    show Steps p.tables e below (Tg2.setTop (mkF m 6 #[.val (.ref r0), .val (.long q1), .second] [(.ref r0)])) target
    refine XS.lconst Xg2.here hx rfl (hb hby own_d4_6) ?_
    exact kt
  obtain ⟨Tg7, hg7, Xg7, eg7, Wg7, stg7⟩ := putF Xg2 hx hZ hown (host := "") (Or.inl (hw _ (List.mem_of_getElem? (i := 26) rfl))) Via.refl eg2 F_5 F (Or.inl (hw _ (List.mem_of_getElem? (i := 27) rfl))) (hw _ (List.mem_of_getElem? (i := 2) rfl)) (ty := .long) (by decide) rfl rfl (g := (mkF m 7 #[.val (.ref r0), .val (.long q1), .second] [(.long (0 : Int64)), (.ref r0)])) rfl rfl (hb hby own_d4_7)
  refine own_st stg7 ?_
  have Ng7 := Fr.snoc Xg7 Ng2 g_r0
  have F_8 := F.wr Wg7
  have F_9 := F_1.other Wg7 (Or.inr (slot_ne (Or.inl (hw _ (List.mem_of_getElem? (i := 19) rfl))) (Or.inl (hw _ (List.mem_of_getElem? (i := 27) rfl))) (by decide) (t := .long) (t' := .long) (by decide) (by decide)))
  have F_10 := F_2.other Wg7 (Or.inr (slot_ne (Or.inl (hw _ (List.mem_of_getElem? (i := 17) rfl))) (Or.inl (hw _ (List.mem_of_getElem? (i := 27) rfl))) (by decide) (t := .boolean) (t' := .long) (by decide) (by decide)))
  have F_11 := F_3.other Wg7 (Or.inr (slot_ne (Or.inl (hw _ (List.mem_of_getElem? (i := 33) rfl))) (Or.inl (hw _ (List.mem_of_getElem? (i := 27) rfl))) (by decide) (t := .int) (t' := .long) (by decide) (by decide)))
  have F_12 := F_4.other Wg7 (Or.inr (slot_ne (Or.inl (hw _ (List.mem_of_getElem? (i := 25) rfl))) (Or.inl (hw _ (List.mem_of_getElem? (i := 27) rfl))) (by decide) (t := .long) (t' := .long) (by decide) (by decide)))
  have F_13 := F_5.same Wg7
  have F_14 := F_6.other Wg7 (Or.inr (slot_ne (Or.inl (hw _ (List.mem_of_getElem? (i := 31) rfl))) (Or.inl (hw _ (List.mem_of_getElem? (i := 27) rfl))) (by decide) (t := .long) (t' := .long) (by decide) (by decide)))
  have F_15 := F_7.other Wg7 (Or.inr (slot_ne (Or.inl (hw _ (List.mem_of_getElem? (i := 29) rfl))) (Or.inl (hw _ (List.mem_of_getElem? (i := 27) rfl))) (by decide) (t := .boolean) (t' := .long) (by decide) (by decide)))
  have Zz_1 : n0 ≤ hg7.size := Nat.le_trans Zz (Keep.of_wr Wg7).1
  have Kc_1 := Kc.wr Wg7 (Or.inl (List.mem_of_getElem? (i := 0) rfl))
  refine own_st (B := Tg7.setTop (mkF m 12 #[.val (.ref r0), .val (.long q1), .second] [(.int (1 : Int32)), (.ref r0)])) (fun target kt => ?_) ?_
  · show Steps p.tables e below (Tg7.setTop (mkF m 10 #[.val (.ref r0), .val (.long q1), .second] [])) target
    refine XS.aloadN Xg7.here hx rfl (hb hby own_d4_10) rfl rfl ?_
    show Steps p.tables e below (Tg7.setTop (mkF m 11 #[.val (.ref r0), .val (.long q1), .second] [(.ref r0)])) target
    refine XS.iconst Xg7.here hx rfl (hb hby own_d4_11) ?_
    exact kt
  obtain ⟨Tg12, hg12, Xg12, eg12, Wg12, stg12⟩ := putFN Xg7 hx hZ hown (hw _ (List.mem_of_getElem? (i := 28) rfl)) Via.refl eg7 F_15 F_8 (Or.inl (hw _ (List.mem_of_getElem? (i := 29) rfl))) (hw _ (List.mem_of_getElem? (i := 2) rfl)) (ty := .boolean) (v' := (.int (1 : Int32))) (by decide) rfl (own_bfits rfl) (g := (mkF m 12 #[.val (.ref r0), .val (.long q1), .second] [(.int (1 : Int32)), (.ref r0)])) rfl rfl (hb hby own_d4_12)
  refine own_st stg12 ?_
  have Ng12 := Fr.snoc Xg12 Ng7 g_r0
  have F_16 := F_8.wr Wg12
  have F_17 := F_9.other Wg12 (Or.inr (slot_ne (Or.inl (hw _ (List.mem_of_getElem? (i := 19) rfl))) (Or.inl (hw _ (List.mem_of_getElem? (i := 29) rfl))) (by decide) (t := .long) (t' := .boolean) (by decide) (by decide)))
  have F_18 := F_10.other Wg12 (Or.inr (slot_ne (Or.inl (hw _ (List.mem_of_getElem? (i := 17) rfl))) (Or.inl (hw _ (List.mem_of_getElem? (i := 29) rfl))) (by decide) (t := .boolean) (t' := .boolean) (by decide) (by decide)))
  have F_19 := F_11.other Wg12 (Or.inr (slot_ne (Or.inl (hw _ (List.mem_of_getElem? (i := 33) rfl))) (Or.inl (hw _ (List.mem_of_getElem? (i := 29) rfl))) (by decide) (t := .int) (t' := .boolean) (by decide) (by decide)))
  have F_20 := F_12.other Wg12 (Or.inr (slot_ne (Or.inl (hw _ (List.mem_of_getElem? (i := 25) rfl))) (Or.inl (hw _ (List.mem_of_getElem? (i := 29) rfl))) (by decide) (t := .long) (t' := .boolean) (by decide) (by decide)))
  have F_21 := F_13.other Wg12 (Or.inr (slot_ne (Or.inl (hw _ (List.mem_of_getElem? (i := 27) rfl))) (Or.inl (hw _ (List.mem_of_getElem? (i := 29) rfl))) (by decide) (t := .long) (t' := .boolean) (by decide) (by decide)))
  have F_22 := F_14.other Wg12 (Or.inr (slot_ne (Or.inl (hw _ (List.mem_of_getElem? (i := 31) rfl))) (Or.inl (hw _ (List.mem_of_getElem? (i := 29) rfl))) (by decide) (t := .long) (t' := .boolean) (by decide) (by decide)))
  have F_23 := F_15.same Wg12
  have Zz_2 : n0 ≤ hg12.size := Nat.le_trans Zz_1 (Keep.of_wr Wg12).1
  have Kc_2 := Kc_1.wr Wg12 (Or.inl (List.mem_of_getElem? (i := 0) rfl))
  obtain ⟨fs, hr, hrun, hended, hW, hsame⟩ := Xg12.leave (v := none) (fun _ => rfl)
  have hend : Steps p.tables e below (Tg12.setTop (mkF m 15 #[.val (.ref r0), .val (.long q1), .second] [])) (Tg12.setFrames fs) := by
    exact Xg12.returnOut hx Bd.returns (hb hby own_d4_15) hr
  refine own_fin hend ⟨_, hrun, hended, _, _, rfl, ?_, ⟨_, rfl⟩, hW, hsame.mono (by decide) (by decide)⟩
  show own_Q4 Z r0 q1 w_p W_s w_k w_b w_m w_t W_h h0 n0 _ Tg12.heap _
  rw [eg12]
  exact ⟨rfl, Ng12, Kc_2, F_16, F_17, F_18, F_19, F_20, F_21, F_22, F_23⟩
theorem own_pd0 : parseMethodDescriptor "(J)V" = some ⟨[.long], none⟩ := by decide +kernel
theorem own_d3_0 : decode prog_34_method_4_code 0 = .ok (.aload_n 0, 1) := by decide +kernel
theorem own_d3_1 : decode prog_34_method_4_code 1 = .ok (.getfield 22, 3) := by decide +kernel
theorem own_d3_4 : decode prog_34_method_4_code 4 = .ok (.ifCond .eq 16, 3) := by decide +kernel
theorem own_d3_7 : decode prog_34_method_4_code 7 = .ok (.iload_n 2, 1) := by decide +kernel
theorem own_d3_8 : decode prog_34_method_4_code 8 = .ok (.ifCond .eq 12, 3) := by decide +kernel
theorem own_d3_11 : decode prog_34_method_4_code 11 = .ok (.iload 5, 2) := by decide +kernel
theorem own_d3_13 : decode prog_34_method_4_code 13 = .ok (.aload_n 0, 1) := by decide +kernel
theorem own_d3_14 : decode prog_34_method_4_code 14 = .ok (.getfield 26, 3) := by decide +kernel
theorem own_d3_17 : decode prog_34_method_4_code 17 = .ok (.if_icmp .eq 13, 3) := by decide +kernel
theorem own_d3_20 : decode prog_34_method_4_code 20 = .ok (.aload_n 0, 1) := by decide +kernel
theorem own_d3_21 : decode prog_34_method_4_code 21 = .ok (.aload_n 0, 1) := by decide +kernel
theorem own_d3_22 : decode prog_34_method_4_code 22 = .ok (.getfield 13, 3) := by decide +kernel
theorem own_d3_25 : decode prog_34_method_4_code 25 = .ok (.lconst 1, 1) := by decide +kernel
theorem own_d3_26 : decode prog_34_method_4_code 26 = .ok (.ladd, 1) := by decide +kernel
theorem own_d3_27 : decode prog_34_method_4_code 27 = .ok (.invokevirtual 29, 3) := by decide +kernel
theorem own_d3_30 : decode prog_34_method_4_code 30 = .ok (.aload_n 0, 1) := by decide +kernel
theorem own_d3_31 : decode prog_34_method_4_code 31 = .ok (.iload_n 1, 1) := by decide +kernel
theorem own_d3_32 : decode prog_34_method_4_code 32 = .ok (.putfield 22, 3) := by decide +kernel
theorem own_d3_35 : decode prog_34_method_4_code 35 = .ok (.aload_n 0, 1) := by decide +kernel
theorem own_d3_36 : decode prog_34_method_4_code 36 = .ok (.lload_n 3, 1) := by decide +kernel
theorem own_d3_37 : decode prog_34_method_4_code 37 = .ok (.putfield 33, 3) := by decide +kernel
theorem own_d3_40 : decode prog_34_method_4_code 40 = .ok (.aload_n 0, 1) := by decide +kernel
theorem own_d3_41 : decode prog_34_method_4_code 41 = .ok (.iload 5, 2) := by decide +kernel
theorem own_d3_43 : decode prog_34_method_4_code 43 = .ok (.putfield 26, 3) := by decide +kernel
theorem own_d3_46 : decode prog_34_method_4_code 46 = .ok (.aload_n 0, 1) := by decide +kernel
theorem own_d3_47 : decode prog_34_method_4_code 47 = .ok (.getfield 36, 3) := by decide +kernel
theorem own_d3_50 : decode prog_34_method_4_code 50 = .ok (.ireturn, 1) := by decide +kernel
theorem own_ef3 (m : MethodId) (r0 : Addr) (q3 : Int64) (p4 : Int32) (B1 : Prop) [Decidable B1] (B2 : Prop) [Decidable B2] : entryFrame m #[(.ref r0), (.int (own_b B1)), (.int (own_b B2)), (.long q3), (.int p4)] 6 = mkF m 0 #[.val (.ref r0), .val (.int (own_b B1)), .val (.int (own_b B2)), .val (.long q3), .second, .val (.int p4)] [] := by first | (simp [entryFrame, mkF, argsToLocals, Value.category]; done) | rfl
def own_Q3 (Z : State) (r0 : Addr) (B1 : Prop) [Decidable B1] (B2 : Prop) [Decidable B2] (q3 : Int64) (p4 : Int32) (w_p : Int64) (W_s : Prop) [Decidable W_s] (w_k : Int32) (w_b : Int64) (w_m : Int64) (w_t : Int64) (W_h : Prop) [Decidable W_h] (h0 : Heap) (n0 : Nat) (v : Option Value) (h : Heap) (L : List Loc) : Prop := (v = some (.int (own_b (¬ (W_s) ∨ ((¬ (B2) ∨ ((¬ (p4 = w_k) ∨ (W_h))))))))) ∧ (Fr n0 L) ∧ (Keep h0 h [r0]) ∧ (Exa Z h r0 "com/example/evenkeel/evenkeel/FullCycles") ∧ (Fld Z h r0 "com/example/evenkeel/evenkeel/FullCycles" "picks" "J" (.long w_p)) ∧ (Fld Z h r0 "com/example/evenkeel/evenkeel/FullCycles" "steady" "Z" (.int (own_b B1))) ∧ (Fld Z h r0 "com/example/evenkeel/evenkeel/FullCycles" "taking" "I" (.int p4)) ∧ (Fld Z h r0 "com/example/evenkeel/evenkeel/FullCycles" "began" "J" (.long ((if W_s then (if B2 then (if p4 = w_k then w_b else ((w_p + (1 : Int64)))) else ((w_p + (1 : Int64)))) else ((w_p + (1 : Int64))))))) ∧ (Fld Z h r0 "com/example/evenkeel/evenkeel/FullCycles" "made" "J" (.long ((if W_s then (if B2 then (if p4 = w_k then w_m else (0 : Int64)) else (0 : Int64)) else (0 : Int64))))) ∧ (Fld Z h r0 "com/example/evenkeel/evenkeel/FullCycles" "total" "J" (.long q3)) ∧ (Fld Z h r0 "com/example/evenkeel/evenkeel/FullCycles" "holding" "Z" (.int (own_b (¬ (W_s) ∨ ((¬ (B2) ∨ ((¬ (p4 = w_k) ∨ (W_h)))))))))
set_option maxRecDepth 65536 in
set_option maxHeartbeats 40000000 in
theorem own_rm3 (l : Launch) (Z : State) (a0 : Array Value) (hw : ∀ d ∈ tables_1, d.before a0 Z = true) (ws : List Jvm.Cond) (r0 : Addr) (B1 : Prop) [Decidable B1] (B2 : Prop) [Decidable B2] (q3 : Int64) (p4 : Int32) (w_p : Int64) (W_s : Prop) [Decidable W_s] (w_k : Int32) (w_b : Int64) (w_m : Int64) (w_t : Int64) (W_h : Prop) [Decidable W_h] (h0 : Heap) (n0 : Nat) (Z0 : n0 ≤ h0.size) (E_r0 : Exa Z h0 r0 "com/example/evenkeel/evenkeel/FullCycles") (F_r0_picks : Fld Z h0 r0 "com/example/evenkeel/evenkeel/FullCycles" "picks" "J" (.long w_p)) (F_r0_steady : Fld Z h0 r0 "com/example/evenkeel/evenkeel/FullCycles" "steady" "Z" (.int (own_b W_s))) (F_r0_taking : Fld Z h0 r0 "com/example/evenkeel/evenkeel/FullCycles" "taking" "I" (.int w_k)) (F_r0_began : Fld Z h0 r0 "com/example/evenkeel/evenkeel/FullCycles" "began" "J" (.long w_b)) (F_r0_made : Fld Z h0 r0 "com/example/evenkeel/evenkeel/FullCycles" "made" "J" (.long w_m)) (F_r0_total : Fld Z h0 r0 "com/example/evenkeel/evenkeel/FullCycles" "total" "J" (.long w_t)) (F_r0_holding : Fld Z h0 r0 "com/example/evenkeel/evenkeel/FullCycles" "holding" "Z" (.int (own_b W_h))) (g_r0 : n0 ≤ r0) :
    MetFree l (⟨"com/example/evenkeel/evenkeel/FullCycles", "enter", "(ZZJI)Z"⟩ : MethodName) (head1 (Jvm.Cond.code (⟨"com/example/evenkeel/evenkeel/FullCycles", "enter", "(ZZJI)Z"⟩ : MethodName) prog_34_method_4_code 6 (some .boolean) :: ws) ({ frames := 1, cells := 0, slots := 0, locals := 14 } : Room)) (fun a U => a = #[(.ref r0), (.int (own_b B1)), (.int (own_b B2)), (.long q3), (.int p4)] ∧ Z.Warmed39 U.vm ∧ U.heap = h0) (fun _ _ _ _ _ => True) (fun _ U o U' => ∃ v L, o = .returned v ∧ own_Q3 Z r0 B1 B2 q3 p4 w_p W_s w_k w_b w_m w_t W_h h0 n0 v U'.heap L ∧ FrameEnd U o U' L ({ frames := 1, cells := 0, slots := 0, locals := 14 } : Room).cells ({ frames := 1, cells := 0, slots := 0, locals := 14 } : Room).slots) := by
  refine MetFree.of_bodySF (plainFor_of_name own_pn0) hisR ?_
  intro p e s m args below meth c s₁ Bd hml0 hP hK
  obtain ⟨rfl, hZ, hh⟩ := hP
  have hx := Bd.exec
  have hby := Bd.bytes
  have hml : c.maxLocals = 6 := hml0
  have hown : s.vm.findClass "com/example/evenkeel/evenkeel/FullCycles" = some m.cls := findClass_of_methodNamed Bd.named
  have hnm := (name_of_methodNamed Bd.named Bd.method).1
  have X0 : Stand p l e ({ frames := 1, cells := 0, slots := 0, locals := 14 } : Room) s m #[(.ref r0), (.int (own_b B1)), (.int (own_b B2)), (.long q3), (.int p4)] below meth c s₁ [] 0 0 := Stand.of_body Bd
  have e0 : s₁.heap = h0 := by rw [← hh, Bd.state]; rfl
  have N0 := Fr.nil n0
  have pre0 : ∀ t, Steps p.tables e below (s₁.setTop (mkF m 0 #[.val (.ref r0), .val (.int (own_b B1)), .val (.int (own_b B2)), .val (.long q3), .second, .val (.int p4)] [])) t → Steps p.tables e below (s₁.setTop (entryFrame m #[(.ref r0), (.int (own_b B1)), (.int (own_b B2)), (.long q3), (.int p4)] 6)) t := fun t k => castTop (own_ef3 m r0 q3 p4 B1 B2) k
  refine own_run (own_st pre0 ?_)
  refine own_st (B := s₁.setTop (mkF m 1 #[.val (.ref r0), .val (.int (own_b B1)), .val (.int (own_b B2)), .val (.long q3), .second, .val (.int p4)] [(.ref r0)])) (fun target kt => ?_) ?_
  · show Steps p.tables e below (s₁.setTop (mkF m 0 #[.val (.ref r0), .val (.int (own_b B1)), .val (.int (own_b B2)), .val (.long q3), .second, .val (.int p4)] [])) target
    refine XS.aloadN X0.here hx rfl (hb hby own_d3_0) rfl rfl ?_
    exact kt
  obtain ⟨Tg1, Xg1, eg1, stg1⟩ := getF X0 hx hZ hown (host := "") (Or.inl (hw _ (List.mem_of_getElem? (i := 16) rfl))) Via.refl e0 F_r0_steady (g := (mkF m 1 #[.val (.ref r0), .val (.int (own_b B1)), .val (.int (own_b B2)), .val (.long q3), .second, .val (.int p4)] [(.ref r0)])) rfl rfl (hb hby own_d3_1)
  refine own_st stg1 ?_
  obtain ⟨_, ⟨T_M30, h_M30, lc_M30, j30_f_r0_steady, j30_f_r0_began, j30_f_r0_made, j30_f_r0_holding, rfl, X_M30, e_M30, N_M30, Z_M30, K_M30, F_9, F_10, F_11, F_12, F_13, F_14, F_15, F_16, rfl, hj30_f_r0_began, hj30_f_r0_made, rfl⟩, st_M30⟩ : own_Lead p.tables e below (Tg1.setTop (mkF m 4 #[.val (.ref r0), .val (.int (own_b B1)), .val (.int (own_b B2)), .val (.long q3), .second, .val (.int p4)] [(.int (own_b W_s))])) (fun B => ∃ (T_M30 : State) (h_M30 : Heap) (lc_M30 : List Loc) (j30_f_r0_steady : Int32) (j30_f_r0_began : Int64) (j30_f_r0_made : Int64) (j30_f_r0_holding : Int32), B = T_M30.setTop (mkF m 30 #[.val (.ref r0), .val (.int (own_b B1)), .val (.int (own_b B2)), .val (.long q3), .second, .val (.int p4)] []) ∧ Stand p l e ({ frames := 1, cells := 0, slots := 0, locals := 14 } : Room) s m #[(.ref r0), (.int (own_b B1)), (.int (own_b B2)), (.long q3), (.int p4)] below meth c T_M30 lc_M30 0 0 ∧ T_M30.heap = h_M30 ∧ Fr n0 lc_M30 ∧ n0 ≤ h_M30.size ∧ Keep h0 h_M30 [r0] ∧ Exa Z h_M30 r0 "com/example/evenkeel/evenkeel/FullCycles" ∧ Fld Z h_M30 r0 "com/example/evenkeel/evenkeel/FullCycles" "picks" "J" (.long w_p) ∧ Fld Z h_M30 r0 "com/example/evenkeel/evenkeel/FullCycles" "steady" "Z" (.int j30_f_r0_steady) ∧ Fld Z h_M30 r0 "com/example/evenkeel/evenkeel/FullCycles" "taking" "I" (.int w_k) ∧ Fld Z h_M30 r0 "com/example/evenkeel/evenkeel/FullCycles" "began" "J" (.long j30_f_r0_began) ∧ Fld Z h_M30 r0 "com/example/evenkeel/evenkeel/FullCycles" "made" "J" (.long j30_f_r0_made) ∧ Fld Z h_M30 r0 "com/example/evenkeel/evenkeel/FullCycles" "total" "J" (.long w_t) ∧ Fld Z h_M30 r0 "com/example/evenkeel/evenkeel/FullCycles" "holding" "Z" (.int j30_f_r0_holding) ∧ j30_f_r0_steady = own_b (W_s) ∧ j30_f_r0_began = (if W_s then (if B2 then (if p4 = w_k then w_b else ((w_p + (1 : Int64)))) else ((w_p + (1 : Int64)))) else ((w_p + (1 : Int64)))) ∧ j30_f_r0_made = (if W_s then (if B2 then (if p4 = w_k then w_m else (0 : Int64)) else (0 : Int64)) else (0 : Int64)) ∧ j30_f_r0_holding = own_b ((¬ (W_s) ∨ ((¬ (B2) ∨ ((¬ (p4 = w_k) ∨ (W_h)))))))) := by
    by_cases c4 : W_s
    · refine own_st (B := Tg1.setTop (mkF m 8 #[.val (.ref r0), .val (.int (own_b B1)), .val (.int (own_b B2)), .val (.long q3), .second, .val (.int p4)] [(.int (own_b B2))])) (fun target kt => ?_) ?_
      · show Steps p.tables e below (Tg1.setTop (mkF m 4 #[.val (.ref r0), .val (.int (own_b B1)), .val (.int (own_b B2)), .val (.long q3), .second, .val (.int p4)] [(.int (own_b W_s))])) target
        refine XS.ifNo Xg1.here hx rfl (hb hby own_d3_4) rfl ((if0 _ _).trans (feq (own_bn0 rfl c4)).1) ?_
        show Steps p.tables e below (Tg1.setTop (mkF m 7 #[.val (.ref r0), .val (.int (own_b B1)), .val (.int (own_b B2)), .val (.long q3), .second, .val (.int p4)] [])) target
        refine XS.iloadN Xg1.here hx rfl (hb hby own_d3_7) rfl ?_
        exact kt
      by_cases c8 : B2
      · refine own_st (B := Tg1.setTop (mkF m 14 #[.val (.ref r0), .val (.int (own_b B1)), .val (.int (own_b B2)), .val (.long q3), .second, .val (.int p4)] [(.ref r0), (.int p4)])) (fun target kt => ?_) ?_
        · show Steps p.tables e below (Tg1.setTop (mkF m 8 #[.val (.ref r0), .val (.int (own_b B1)), .val (.int (own_b B2)), .val (.long q3), .second, .val (.int p4)] [(.int (own_b B2))])) target
          refine XS.ifNo Xg1.here hx rfl (hb hby own_d3_8) rfl ((if0 _ _).trans (feq (own_bn0 rfl c8)).1) ?_
          show Steps p.tables e below (Tg1.setTop (mkF m 11 #[.val (.ref r0), .val (.int (own_b B1)), .val (.int (own_b B2)), .val (.long q3), .second, .val (.int p4)] [])) target
          refine XS.iload Xg1.here hx rfl (hb hby own_d3_11) rfl ?_
          show Steps p.tables e below (Tg1.setTop (mkF m 13 #[.val (.ref r0), .val (.int (own_b B1)), .val (.int (own_b B2)), .val (.long q3), .second, .val (.int p4)] [(.int p4)])) target
          refine XS.aloadN Xg1.here hx rfl (hb hby own_d3_13) rfl rfl ?_
          exact kt
        obtain ⟨Tg14, Xg14, eg14, stg14⟩ := getF Xg1 hx hZ hown (host := "") (Or.inl (hw _ (List.mem_of_getElem? (i := 32) rfl))) Via.refl eg1 F_r0_taking (g := (mkF m 14 #[.val (.ref r0), .val (.int (own_b B1)), .val (.int (own_b B2)), .val (.long q3), .second, .val (.int p4)] [(.ref r0), (.int p4)])) rfl rfl (hb hby own_d3_14)
        refine own_st stg14 ?_
        by_cases c17 : p4 = w_k
        · refine own_st (B := Tg14.setTop (mkF m 30 #[.val (.ref r0), .val (.int (own_b B1)), .val (.int (own_b B2)), .val (.long q3), .second, .val (.int p4)] [])) (fun target kt => ?_) ?_
          · show Steps p.tables e below (Tg14.setTop (mkF m 17 #[.val (.ref r0), .val (.int (own_b B1)), .val (.int (own_b B2)), .val (.long q3), .second, .val (.int p4)] [(.int w_k), (.int p4)])) target
            refine XS.icmpYes Xg14.here hx rfl (pc0 := 17) (pc' := 30) rfl (hb hby own_d3_17) rfl (teq c17).1 (by decide) (by decide) ?_
            exact kt
          exact ⟨_, ⟨Tg14, h0, _, (own_b W_s), w_b, w_m, (own_b W_h), rfl, Xg14, eg14, N0, Z0, (Keep.refl h0 [r0]), E_r0, F_r0_picks, F_r0_steady, F_r0_taking, F_r0_began, F_r0_made, F_r0_total, F_r0_holding, ((rfl).trans ((own_b1 c4).trans (own_b1 c4).symm)), (Eq.trans (Eq.trans (if_pos c17).symm (if_pos c8).symm) (if_pos c4).symm), (Eq.trans (Eq.trans (if_pos c17).symm (if_pos c8).symm) (if_pos c4).symm), (own_bj rfl (fun q => (Or.inr (Or.inr (Or.inr q)))) (fun q => (fun w => w.elim (fun n => n c4) (fun w => w.elim (fun n => n c8) (fun w => w.elim (fun n => n c17) q)))))⟩, fun _ k => k⟩
        · refine own_st (B := Tg14.setTop (mkF m 22 #[.val (.ref r0), .val (.int (own_b B1)), .val (.int (own_b B2)), .val (.long q3), .second, .val (.int p4)] [(.ref r0), (.ref r0)])) (fun target kt => ?_) ?_
          · show Steps p.tables e below (Tg14.setTop (mkF m 17 #[.val (.ref r0), .val (.int (own_b B1)), .val (.int (own_b B2)), .val (.long q3), .second, .val (.int p4)] [(.int w_k), (.int p4)])) target
            refine XS.icmpNo Xg14.here hx rfl (hb hby own_d3_17) rfl (feq c17).1 ?_
            show Steps p.tables e below (Tg14.setTop (mkF m 20 #[.val (.ref r0), .val (.int (own_b B1)), .val (.int (own_b B2)), .val (.long q3), .second, .val (.int p4)] [])) target
            refine XS.aloadN Xg14.here hx rfl (hb hby own_d3_20) rfl rfl ?_
            show Steps p.tables e below (Tg14.setTop (mkF m 21 #[.val (.ref r0), .val (.int (own_b B1)), .val (.int (own_b B2)), .val (.long q3), .second, .val (.int p4)] [(.ref r0)])) target
            refine XS.aloadN Xg14.here hx rfl (hb hby own_d3_21) rfl rfl ?_
            exact kt
          obtain ⟨Tg22, Xg22, eg22, stg22⟩ := getF Xg14 hx hZ hown (host := "") (Or.inl (hw _ (List.mem_of_getElem? (i := 18) rfl))) Via.refl eg14 F_r0_picks (g := (mkF m 22 #[.val (.ref r0), .val (.int (own_b B1)), .val (.int (own_b B2)), .val (.long q3), .second, .val (.int p4)] [(.ref r0), (.ref r0)])) rfl rfl (hb hby own_d3_22)
          refine own_st stg22 ?_
          refine own_st (B := Tg22.setTop (mkF m 27 #[.val (.ref r0), .val (.int (own_b B1)), .val (.int (own_b B2)), .val (.long q3), .second, .val (.int p4)] [(.long (w_p + (1 : Int64))), (.ref r0)])) (fun target kt => ?_) ?_
          · show Steps p.tables e below (Tg22.setTop (mkF m 25 #[.val (.ref r0), .val (.int (own_b B1)), .val (.int (own_b B2)), .val (.long q3), .second, .val (.int p4)] [(.long w_p), (.ref r0)])) target
            refine XS.lconst Xg22.here hx rfl (hb hby own_d3_25) ?_
            show Steps p.tables e below (Tg22.setTop (mkF m 26 #[.val (.ref r0), .val (.int (own_b B1)), .val (.int (own_b B2)), .val (.long q3), .second, .val (.int p4)] [(.long (1 : Int64)), (.long w_p), (.ref r0)])) target
            refine XS.ladd Xg22.here hx rfl (hb hby own_d3_26) rfl ?_
            exact kt
          obtain ⟨cqg27, qg27, qg27'⟩ := E_r0.cell
          obtain ⟨_, _, ⟨Tg27, Lg27, kg27, ng27⟩, -, Xg27, ⟨Lcg27, hQg27, lg27, yg27, zg27⟩, stg27⟩ := Xg22.privateBack hx (y := (⟨"com/example/evenkeel/evenkeel/FullCycles", "begin", "(J)V"⟩ : MethodName)) hown (mvT hZ (hw _ (List.mem_of_getElem? (i := 20) rfl))) (mvT hZ (hw _ (List.mem_of_getElem? (i := 21) rfl))) (mvT hZ (own_selPriv (hw _ (List.mem_of_getElem? (i := 22) rfl)) (hw _ (List.mem_of_getElem? (i := 21) rfl)) (hw _ (List.mem_of_getElem? (i := 14) rfl)) rfl (by decide))) (Cond.privateMethod_at (mvP hZ (hw _ (List.mem_of_getElem? (i := 22) rfl)) (args := #[]))) (mvT hZ (hw _ (List.mem_of_getElem? (i := 23) rfl))) (by decide) (backOf (W := 0) (own_rm4 l Z a0 hw [] r0 (w_p + (1 : Int64)) w_p (W_s) w_k w_b w_m w_t (W_h) h0 n0 Z0 E_r0 F_r0_picks F_r0_steady F_r0_taking F_r0_began F_r0_made F_r0_total F_r0_holding g_r0) hZ (hw _ (List.mem_of_getElem? (i := 23) rfl)) (hw _ (List.mem_of_getElem? (i := 3) rfl)) (by decide) (by decide)) (g := (mkF m 27 #[.val (.ref r0), .val (.int (own_b B1)), .val (.int (own_b B2)), .val (.long q3), .second, .val (.int p4)] [(.long (w_p + (1 : Int64))), (.ref r0)])) rfl (by rw [hml]; rfl) (Steps.refl _) (a := r0) (by rw [eg22]; exact qg27) qg27' (argsL := [(.long (w_p + (1 : Int64)))]) (rest := []) (lenOf own_pd0 rfl) rfl (by show 2 * 0 + _ ≤ _; exact Nat.le_of_eq rfl) (hb hby own_d3_27) (fun _ _ => ⟨rfl, eg22, (by decide : 0 + 0 ≤ _), (by decide : 0 + 0 ≤ _)⟩)
          dsimp only [Pt.U, Pt.locs, Pt.cells, Pt.slots] at Xg27 lg27 yg27 zg27 stg27 hQg27
          subst lg27 yg27 zg27
          obtain ⟨rfl, Ng27q, Kg27, F, F_1, F_2, F_3, F_4, F_5, F_6, F_7⟩ := hQg27
          have Zz : n0 ≤ Tg27.heap.size := Nat.le_trans Z0 Kg27.1
          have Kc := (Keep.refl h0 [r0]).trans Kg27 (allS (Or.inl (List.mem_of_getElem? (i := 0) rfl)) all0)
          obtain ⟨w27_began, hw27_began⟩ : ∃ z : Int64, z = (w_p + (1 : Int64)) := ⟨_, rfl⟩
          have F_8 : Fld Z Tg27.heap r0 "com/example/evenkeel/evenkeel/FullCycles" "began" "J" (.long w27_began) := by subst hw27_began; exact F_4
          have Ng27 := Fr.app N0 Ng27q
          refine own_st (fun _ k => stg27.trans k) ?_
          subst hw27_began
          exact ⟨_, ⟨Tg27, Tg27.heap, _, (own_b (W_s)), ((w_p + (1 : Int64))), (0 : Int64), (1 : Int32), rfl, Xg27, rfl, Ng27, Zz, Kc, F, F_1, F_2, F_3, F_8, F_5, F_6, F_7, ((rfl).trans ((own_b1 c4).trans (own_b1 c4).symm)), (Eq.trans (Eq.trans (if_neg c17).symm (if_pos c8).symm) (if_pos c4).symm), (Eq.trans (Eq.trans (if_neg c17).symm (if_pos c8).symm) (if_pos c4).symm), (own_b1 (Or.inr (Or.inr (Or.inl c17)))).symm⟩, fun _ k => k⟩
      · refine own_st (B := Tg1.setTop (mkF m 22 #[.val (.ref r0), .val (.int (own_b B1)), .val (.int (own_b B2)), .val (.long q3), .second, .val (.int p4)] [(.ref r0), (.ref r0)])) (fun target kt => ?_) ?_
        · show Steps p.tables e below (Tg1.setTop (mkF m 8 #[.val (.ref r0), .val (.int (own_b B1)), .val (.int (own_b B2)), .val (.long q3), .second, .val (.int p4)] [(.int (own_b B2))])) target
          refine XS.ifYes Xg1.here hx rfl (pc0 := 8) (pc' := 20) rfl (hb hby own_d3_8) rfl ((if0 _ _).trans (teq (own_b00 rfl c8)).1) (by decide) (by decide) ?_
          show Steps p.tables e below (Tg1.setTop (mkF m 20 #[.val (.ref r0), .val (.int (own_b B1)), .val (.int (own_b B2)), .val (.long q3), .second, .val (.int p4)] [])) target
          refine XS.aloadN Xg1.here hx rfl (hb hby own_d3_20) rfl rfl ?_
          show Steps p.tables e below (Tg1.setTop (mkF m 21 #[.val (.ref r0), .val (.int (own_b B1)), .val (.int (own_b B2)), .val (.long q3), .second, .val (.int p4)] [(.ref r0)])) target
          refine XS.aloadN Xg1.here hx rfl (hb hby own_d3_21) rfl rfl ?_
          exact kt
        obtain ⟨Tg22, Xg22, eg22, stg22⟩ := getF Xg1 hx hZ hown (host := "") (Or.inl (hw _ (List.mem_of_getElem? (i := 18) rfl))) Via.refl eg1 F_r0_picks (g := (mkF m 22 #[.val (.ref r0), .val (.int (own_b B1)), .val (.int (own_b B2)), .val (.long q3), .second, .val (.int p4)] [(.ref r0), (.ref r0)])) rfl rfl (hb hby own_d3_22)
        refine own_st stg22 ?_
        refine own_st (B := Tg22.setTop (mkF m 27 #[.val (.ref r0), .val (.int (own_b B1)), .val (.int (own_b B2)), .val (.long q3), .second, .val (.int p4)] [(.long (w_p + (1 : Int64))), (.ref r0)])) (fun target kt => ?_) ?_
        · show Steps p.tables e below (Tg22.setTop (mkF m 25 #[.val (.ref r0), .val (.int (own_b B1)), .val (.int (own_b B2)), .val (.long q3), .second, .val (.int p4)] [(.long w_p), (.ref r0)])) target
          refine XS.lconst Xg22.here hx rfl (hb hby own_d3_25) ?_
          show Steps p.tables e below (Tg22.setTop (mkF m 26 #[.val (.ref r0), .val (.int (own_b B1)), .val (.int (own_b B2)), .val (.long q3), .second, .val (.int p4)] [(.long (1 : Int64)), (.long w_p), (.ref r0)])) target
          refine XS.ladd Xg22.here hx rfl (hb hby own_d3_26) rfl ?_
          exact kt
        obtain ⟨cqg27, qg27, qg27'⟩ := E_r0.cell
        obtain ⟨_, _, ⟨Tg27, Lg27, kg27, ng27⟩, -, Xg27, ⟨Lcg27, hQg27, lg27, yg27, zg27⟩, stg27⟩ := Xg22.privateBack hx (y := (⟨"com/example/evenkeel/evenkeel/FullCycles", "begin", "(J)V"⟩ : MethodName)) hown (mvT hZ (hw _ (List.mem_of_getElem? (i := 20) rfl))) (mvT hZ (hw _ (List.mem_of_getElem? (i := 21) rfl))) (mvT hZ (own_selPriv (hw _ (List.mem_of_getElem? (i := 22) rfl)) (hw _ (List.mem_of_getElem? (i := 21) rfl)) (hw _ (List.mem_of_getElem? (i := 14) rfl)) rfl (by decide))) (Cond.privateMethod_at (mvP hZ (hw _ (List.mem_of_getElem? (i := 22) rfl)) (args := #[]))) (mvT hZ (hw _ (List.mem_of_getElem? (i := 23) rfl))) (by decide) (backOf (W := 0) (own_rm4 l Z a0 hw [] r0 (w_p + (1 : Int64)) w_p (W_s) w_k w_b w_m w_t (W_h) h0 n0 Z0 E_r0 F_r0_picks F_r0_steady F_r0_taking F_r0_began F_r0_made F_r0_total F_r0_holding g_r0) hZ (hw _ (List.mem_of_getElem? (i := 23) rfl)) (hw _ (List.mem_of_getElem? (i := 3) rfl)) (by decide) (by decide)) (g := (mkF m 27 #[.val (.ref r0), .val (.int (own_b B1)), .val (.int (own_b B2)), .val (.long q3), .second, .val (.int p4)] [(.long (w_p + (1 : Int64))), (.ref r0)])) rfl (by rw [hml]; rfl) (Steps.refl _) (a := r0) (by rw [eg22]; exact qg27) qg27' (argsL := [(.long (w_p + (1 : Int64)))]) (rest := []) (lenOf own_pd0 rfl) rfl (by show 2 * 0 + _ ≤ _; exact Nat.le_of_eq rfl) (hb hby own_d3_27) (fun _ _ => ⟨rfl, eg22, (by decide : 0 + 0 ≤ _), (by decide : 0 + 0 ≤ _)⟩)
        dsimp only [Pt.U, Pt.locs, Pt.cells, Pt.slots] at Xg27 lg27 yg27 zg27 stg27 hQg27
        subst lg27 yg27 zg27
        obtain ⟨rfl, Ng27q, Kg27, F, F_1, F_2, F_3, F_4, F_5, F_6, F_7⟩ := hQg27
        have Zz : n0 ≤ Tg27.heap.size := Nat.le_trans Z0 Kg27.1
        have Kc := (Keep.refl h0 [r0]).trans Kg27 (allS (Or.inl (List.mem_of_getElem? (i := 0) rfl)) all0)
        obtain ⟨w27_began, hw27_began⟩ : ∃ z : Int64, z = (w_p + (1 : Int64)) := ⟨_, rfl⟩
        have F_8 : Fld Z Tg27.heap r0 "com/example/evenkeel/evenkeel/FullCycles" "began" "J" (.long w27_began) := by subst hw27_began; exact F_4
        have Ng27 := Fr.app N0 Ng27q
        refine own_st (fun _ k => stg27.trans k) ?_
        subst hw27_began
        exact ⟨_, ⟨Tg27, Tg27.heap, _, (own_b (W_s)), ((w_p + (1 : Int64))), (0 : Int64), (1 : Int32), rfl, Xg27, rfl, Ng27, Zz, Kc, F, F_1, F_2, F_3, F_8, F_5, F_6, F_7, ((rfl).trans ((own_b1 c4).trans (own_b1 c4).symm)), (Eq.trans (if_neg c8).symm (if_pos c4).symm), (Eq.trans (if_neg c8).symm (if_pos c4).symm), (own_b1 (Or.inr (Or.inl c8))).symm⟩, fun _ k => k⟩
    · refine own_st (B := Tg1.setTop (mkF m 22 #[.val (.ref r0), .val (.int (own_b B1)), .val (.int (own_b B2)), .val (.long q3), .second, .val (.int p4)] [(.ref r0), (.ref r0)])) (fun target kt => ?_) ?_
      · show Steps p.tables e below (Tg1.setTop (mkF m 4 #[.val (.ref r0), .val (.int (own_b B1)), .val (.int (own_b B2)), .val (.long q3), .second, .val (.int p4)] [(.int (own_b W_s))])) target
        refine XS.ifYes Xg1.here hx rfl (pc0 := 4) (pc' := 20) rfl (hb hby own_d3_4) rfl ((if0 _ _).trans (teq (own_b00 rfl c4)).1) (by decide) (by decide) ?_
        show Steps p.tables e below (Tg1.setTop (mkF m 20 #[.val (.ref r0), .val (.int (own_b B1)), .val (.int (own_b B2)), .val (.long q3), .second, .val (.int p4)] [])) target
        refine XS.aloadN Xg1.here hx rfl (hb hby own_d3_20) rfl rfl ?_
        show Steps p.tables e below (Tg1.setTop (mkF m 21 #[.val (.ref r0), .val (.int (own_b B1)), .val (.int (own_b B2)), .val (.long q3), .second, .val (.int p4)] [(.ref r0)])) target
        refine XS.aloadN Xg1.here hx rfl (hb hby own_d3_21) rfl rfl ?_
        exact kt
      obtain ⟨Tg22, Xg22, eg22, stg22⟩ := getF Xg1 hx hZ hown (host := "") (Or.inl (hw _ (List.mem_of_getElem? (i := 18) rfl))) Via.refl eg1 F_r0_picks (g := (mkF m 22 #[.val (.ref r0), .val (.int (own_b B1)), .val (.int (own_b B2)), .val (.long q3), .second, .val (.int p4)] [(.ref r0), (.ref r0)])) rfl rfl (hb hby own_d3_22)
      refine own_st stg22 ?_
      refine own_st (B := Tg22.setTop (mkF m 27 #[.val (.ref r0), .val (.int (own_b B1)), .val (.int (own_b B2)), .val (.long q3), .second, .val (.int p4)] [(.long (w_p + (1 : Int64))), (.ref r0)])) (fun target kt => ?_) ?_
      · show Steps p.tables e below (Tg22.setTop (mkF m 25 #[.val (.ref r0), .val (.int (own_b B1)), .val (.int (own_b B2)), .val (.long q3), .second, .val (.int p4)] [(.long w_p), (.ref r0)])) target
        refine XS.lconst Xg22.here hx rfl (hb hby own_d3_25) ?_
        show Steps p.tables e below (Tg22.setTop (mkF m 26 #[.val (.ref r0), .val (.int (own_b B1)), .val (.int (own_b B2)), .val (.long q3), .second, .val (.int p4)] [(.long (1 : Int64)), (.long w_p), (.ref r0)])) target
        refine XS.ladd Xg22.here hx rfl (hb hby own_d3_26) rfl ?_
        exact kt
      obtain ⟨cqg27, qg27, qg27'⟩ := E_r0.cell
      obtain ⟨_, _, ⟨Tg27, Lg27, kg27, ng27⟩, -, Xg27, ⟨Lcg27, hQg27, lg27, yg27, zg27⟩, stg27⟩ := Xg22.privateBack hx (y := (⟨"com/example/evenkeel/evenkeel/FullCycles", "begin", "(J)V"⟩ : MethodName)) hown (mvT hZ (hw _ (List.mem_of_getElem? (i := 20) rfl))) (mvT hZ (hw _ (List.mem_of_getElem? (i := 21) rfl))) (mvT hZ (own_selPriv (hw _ (List.mem_of_getElem? (i := 22) rfl)) (hw _ (List.mem_of_getElem? (i := 21) rfl)) (hw _ (List.mem_of_getElem? (i := 14) rfl)) rfl (by decide))) (Cond.privateMethod_at (mvP hZ (hw _ (List.mem_of_getElem? (i := 22) rfl)) (args := #[]))) (mvT hZ (hw _ (List.mem_of_getElem? (i := 23) rfl))) (by decide) (backOf (W := 0) (own_rm4 l Z a0 hw [] r0 (w_p + (1 : Int64)) w_p (W_s) w_k w_b w_m w_t (W_h) h0 n0 Z0 E_r0 F_r0_picks F_r0_steady F_r0_taking F_r0_began F_r0_made F_r0_total F_r0_holding g_r0) hZ (hw _ (List.mem_of_getElem? (i := 23) rfl)) (hw _ (List.mem_of_getElem? (i := 3) rfl)) (by decide) (by decide)) (g := (mkF m 27 #[.val (.ref r0), .val (.int (own_b B1)), .val (.int (own_b B2)), .val (.long q3), .second, .val (.int p4)] [(.long (w_p + (1 : Int64))), (.ref r0)])) rfl (by rw [hml]; rfl) (Steps.refl _) (a := r0) (by rw [eg22]; exact qg27) qg27' (argsL := [(.long (w_p + (1 : Int64)))]) (rest := []) (lenOf own_pd0 rfl) rfl (by show 2 * 0 + _ ≤ _; exact Nat.le_of_eq rfl) (hb hby own_d3_27) (fun _ _ => ⟨rfl, eg22, (by decide : 0 + 0 ≤ _), (by decide : 0 + 0 ≤ _)⟩)
      dsimp only [Pt.U, Pt.locs, Pt.cells, Pt.slots] at Xg27 lg27 yg27 zg27 stg27 hQg27
      subst lg27 yg27 zg27
      obtain ⟨rfl, Ng27q, Kg27, F, F_1, F_2, F_3, F_4, F_5, F_6, F_7⟩ := hQg27
      have Zz : n0 ≤ Tg27.heap.size := Nat.le_trans Z0 Kg27.1
      have Kc := (Keep.refl h0 [r0]).trans Kg27 (allS (Or.inl (List.mem_of_getElem? (i := 0) rfl)) all0)
      obtain ⟨w27_began, hw27_began⟩ : ∃ z : Int64, z = (w_p + (1 : Int64)) := ⟨_, rfl⟩
      have F_8 : Fld Z Tg27.heap r0 "com/example/evenkeel/evenkeel/FullCycles" "began" "J" (.long w27_began) := by subst hw27_began; exact F_4
      have Ng27 := Fr.app N0 Ng27q
      refine own_st (fun _ k => stg27.trans k) ?_
      subst hw27_began
      exact ⟨_, ⟨Tg27, Tg27.heap, _, (own_b (W_s)), ((w_p + (1 : Int64))), (0 : Int64), (1 : Int32), rfl, Xg27, rfl, Ng27, Zz, Kc, F, F_1, F_2, F_3, F_8, F_5, F_6, F_7, ((rfl).trans ((own_b0 c4).trans (own_b0 c4).symm)), (if_neg c4).symm, (if_neg c4).symm, (own_b1 (Or.inl c4)).symm⟩, fun _ k => k⟩
  refine own_st st_M30 ?_
  refine own_st (B := T_M30.setTop (mkF m 32 #[.val (.ref r0), .val (.int (own_b B1)), .val (.int (own_b B2)), .val (.long q3), .second, .val (.int p4)] [(.int (own_b B1)), (.ref r0)])) (fun target kt => ?_) ?_
  · show Steps p.tables e below (T_M30.setTop (mkF m 30 #[.val (.ref r0), .val (.int (own_b B1)), .val (.int (own_b B2)), .val (.long q3), .second, .val (.int p4)] [])) target
    refine XS.aloadN X_M30.here hx rfl (hb hby own_d3_30) rfl rfl ?_
    show Steps p.tables e below (T_M30.setTop (mkF m 31 #[.val (.ref r0), .val (.int (own_b B1)), .val (.int (own_b B2)), .val (.long q3), .second, .val (.int p4)] [(.ref r0)])) target
    refine XS.iloadN X_M30.here hx rfl (hb hby own_d3_31) rfl ?_
    exact kt
  obtain ⟨Tg32, hg32, Xg32, eg32, Wg32, stg32⟩ := putFN X_M30 hx hZ hown (hw _ (List.mem_of_getElem? (i := 16) rfl)) Via.refl e_M30 F_11 F_9 (Or.inl (hw _ (List.mem_of_getElem? (i := 17) rfl))) (hw _ (List.mem_of_getElem? (i := 2) rfl)) (ty := .boolean) (v' := (.int (own_b B1))) (by decide) (own_bnarw rfl) (own_bfits (own_bnarw rfl)) (g := (mkF m 32 #[.val (.ref r0), .val (.int (own_b B1)), .val (.int (own_b B2)), .val (.long q3), .second, .val (.int p4)] [(.int (own_b B1)), (.ref r0)])) rfl rfl (hb hby own_d3_32)
  refine own_st stg32 ?_
  have Ng32 := Fr.snoc Xg32 N_M30 g_r0
  have F_17 := F_9.wr Wg32
  have F_18 := F_10.other Wg32 (Or.inr (slot_ne (Or.inl (hw _ (List.mem_of_getElem? (i := 19) rfl))) (Or.inl (hw _ (List.mem_of_getElem? (i := 17) rfl))) (by decide) (t := .long) (t' := .boolean) (by decide) (by decide)))
  have F_19 := F_11.same Wg32
  have F_20 := F_12.other Wg32 (Or.inr (slot_ne (Or.inl (hw _ (List.mem_of_getElem? (i := 33) rfl))) (Or.inl (hw _ (List.mem_of_getElem? (i := 17) rfl))) (by decide) (t := .int) (t' := .boolean) (by decide) (by decide)))
  have F_21 := F_13.other Wg32 (Or.inr (slot_ne (Or.inl (hw _ (List.mem_of_getElem? (i := 25) rfl))) (Or.inl (hw _ (List.mem_of_getElem? (i := 17) rfl))) (by decide) (t := .long) (t' := .boolean) (by decide) (by decide)))
  have F_22 := F_14.other Wg32 (Or.inr (slot_ne (Or.inl (hw _ (List.mem_of_getElem? (i := 27) rfl))) (Or.inl (hw _ (List.mem_of_getElem? (i := 17) rfl))) (by decide) (t := .long) (t' := .boolean) (by decide) (by decide)))
  have F_23 := F_15.other Wg32 (Or.inr (slot_ne (Or.inl (hw _ (List.mem_of_getElem? (i := 31) rfl))) (Or.inl (hw _ (List.mem_of_getElem? (i := 17) rfl))) (by decide) (t := .long) (t' := .boolean) (by decide) (by decide)))
  have F_24 := F_16.other Wg32 (Or.inr (slot_ne (Or.inl (hw _ (List.mem_of_getElem? (i := 29) rfl))) (Or.inl (hw _ (List.mem_of_getElem? (i := 17) rfl))) (by decide) (t := .boolean) (t' := .boolean) (by decide) (by decide)))
  have Zz_1 : n0 ≤ hg32.size := Nat.le_trans Z_M30 (Keep.of_wr Wg32).1
  have Kc_1 := K_M30.wr Wg32 (Or.inl (List.mem_of_getElem? (i := 0) rfl))
  refine own_st (B := Tg32.setTop (mkF m 37 #[.val (.ref r0), .val (.int (own_b B1)), .val (.int (own_b B2)), .val (.long q3), .second, .val (.int p4)] [(.long q3), (.ref r0)])) (fun target kt => ?_) ?_
  · show Steps p.tables e below (Tg32.setTop (mkF m 35 #[.val (.ref r0), .val (.int (own_b B1)), .val (.int (own_b B2)), .val (.long q3), .second, .val (.int p4)] [])) target
    refine XS.aloadN Xg32.here hx rfl (hb hby own_d3_35) rfl rfl ?_
    show Steps p.tables e below (Tg32.setTop (mkF m 36 #[.val (.ref r0), .val (.int (own_b B1)), .val (.int (own_b B2)), .val (.long q3), .second, .val (.int p4)] [(.ref r0)])) target
    refine XS.lloadN Xg32.here hx rfl (hb hby own_d3_36) rfl ?_
    exact kt
  obtain ⟨Tg37, hg37, Xg37, eg37, Wg37, stg37⟩ := putF Xg32 hx hZ hown (host := "") (Or.inl (hw _ (List.mem_of_getElem? (i := 30) rfl))) Via.refl eg32 F_23 F_17 (Or.inl (hw _ (List.mem_of_getElem? (i := 31) rfl))) (hw _ (List.mem_of_getElem? (i := 2) rfl)) (ty := .long) (by decide) rfl rfl (g := (mkF m 37 #[.val (.ref r0), .val (.int (own_b B1)), .val (.int (own_b B2)), .val (.long q3), .second, .val (.int p4)] [(.long q3), (.ref r0)])) rfl rfl (hb hby own_d3_37)
  refine own_st stg37 ?_
  have Ng37 := Fr.snoc Xg37 Ng32 g_r0
  have F_25 := F_17.wr Wg37
  have F_26 := F_18.other Wg37 (Or.inr (slot_ne (Or.inl (hw _ (List.mem_of_getElem? (i := 19) rfl))) (Or.inl (hw _ (List.mem_of_getElem? (i := 31) rfl))) (by decide) (t := .long) (t' := .long) (by decide) (by decide)))
  have F_27 := F_19.other Wg37 (Or.inr (slot_ne (Or.inl (hw _ (List.mem_of_getElem? (i := 17) rfl))) (Or.inl (hw _ (List.mem_of_getElem? (i := 31) rfl))) (by decide) (t := .boolean) (t' := .long) (by decide) (by decide)))
  have F_28 := F_20.other Wg37 (Or.inr (slot_ne (Or.inl (hw _ (List.mem_of_getElem? (i := 33) rfl))) (Or.inl (hw _ (List.mem_of_getElem? (i := 31) rfl))) (by decide) (t := .int) (t' := .long) (by decide) (by decide)))
  have F_29 := F_21.other Wg37 (Or.inr (slot_ne (Or.inl (hw _ (List.mem_of_getElem? (i := 25) rfl))) (Or.inl (hw _ (List.mem_of_getElem? (i := 31) rfl))) (by decide) (t := .long) (t' := .long) (by decide) (by decide)))
  have F_30 := F_22.other Wg37 (Or.inr (slot_ne (Or.inl (hw _ (List.mem_of_getElem? (i := 27) rfl))) (Or.inl (hw _ (List.mem_of_getElem? (i := 31) rfl))) (by decide) (t := .long) (t' := .long) (by decide) (by decide)))
  have F_31 := F_23.same Wg37
  have F_32 := F_24.other Wg37 (Or.inr (slot_ne (Or.inl (hw _ (List.mem_of_getElem? (i := 29) rfl))) (Or.inl (hw _ (List.mem_of_getElem? (i := 31) rfl))) (by decide) (t := .boolean) (t' := .long) (by decide) (by decide)))
  have Zz_2 : n0 ≤ hg37.size := Nat.le_trans Zz_1 (Keep.of_wr Wg37).1
  have Kc_2 := Kc_1.wr Wg37 (Or.inl (List.mem_of_getElem? (i := 0) rfl))
  refine own_st (B := Tg37.setTop (mkF m 43 #[.val (.ref r0), .val (.int (own_b B1)), .val (.int (own_b B2)), .val (.long q3), .second, .val (.int p4)] [(.int p4), (.ref r0)])) (fun target kt => ?_) ?_
  · show Steps p.tables e below (Tg37.setTop (mkF m 40 #[.val (.ref r0), .val (.int (own_b B1)), .val (.int (own_b B2)), .val (.long q3), .second, .val (.int p4)] [])) target
    refine XS.aloadN Xg37.here hx rfl (hb hby own_d3_40) rfl rfl ?_
    show Steps p.tables e below (Tg37.setTop (mkF m 41 #[.val (.ref r0), .val (.int (own_b B1)), .val (.int (own_b B2)), .val (.long q3), .second, .val (.int p4)] [(.ref r0)])) target
    refine XS.iload Xg37.here hx rfl (hb hby own_d3_41) rfl ?_
    exact kt
  obtain ⟨Tg43, hg43, Xg43, eg43, Wg43, stg43⟩ := putF Xg37 hx hZ hown (host := "") (Or.inl (hw _ (List.mem_of_getElem? (i := 32) rfl))) Via.refl eg37 F_28 F_25 (Or.inl (hw _ (List.mem_of_getElem? (i := 33) rfl))) (hw _ (List.mem_of_getElem? (i := 2) rfl)) (ty := .int) (by decide) rfl rfl (g := (mkF m 43 #[.val (.ref r0), .val (.int (own_b B1)), .val (.int (own_b B2)), .val (.long q3), .second, .val (.int p4)] [(.int p4), (.ref r0)])) rfl rfl (hb hby own_d3_43)
  refine own_st stg43 ?_
  have Ng43 := Fr.snoc Xg43 Ng37 g_r0
  have F_33 := F_25.wr Wg43
  have F_34 := F_26.other Wg43 (Or.inr (slot_ne (Or.inl (hw _ (List.mem_of_getElem? (i := 19) rfl))) (Or.inl (hw _ (List.mem_of_getElem? (i := 33) rfl))) (by decide) (t := .long) (t' := .int) (by decide) (by decide)))
  have F_35 := F_27.other Wg43 (Or.inr (slot_ne (Or.inl (hw _ (List.mem_of_getElem? (i := 17) rfl))) (Or.inl (hw _ (List.mem_of_getElem? (i := 33) rfl))) (by decide) (t := .boolean) (t' := .int) (by decide) (by decide)))
  have F_36 := F_28.same Wg43
  have F_37 := F_29.other Wg43 (Or.inr (slot_ne (Or.inl (hw _ (List.mem_of_getElem? (i := 25) rfl))) (Or.inl (hw _ (List.mem_of_getElem? (i := 33) rfl))) (by decide) (t := .long) (t' := .int) (by decide) (by decide)))
  have F_38 := F_30.other Wg43 (Or.inr (slot_ne (Or.inl (hw _ (List.mem_of_getElem? (i := 27) rfl))) (Or.inl (hw _ (List.mem_of_getElem? (i := 33) rfl))) (by decide) (t := .long) (t' := .int) (by decide) (by decide)))
  have F_39 := F_31.other Wg43 (Or.inr (slot_ne (Or.inl (hw _ (List.mem_of_getElem? (i := 31) rfl))) (Or.inl (hw _ (List.mem_of_getElem? (i := 33) rfl))) (by decide) (t := .long) (t' := .int) (by decide) (by decide)))
  have F_40 := F_32.other Wg43 (Or.inr (slot_ne (Or.inl (hw _ (List.mem_of_getElem? (i := 29) rfl))) (Or.inl (hw _ (List.mem_of_getElem? (i := 33) rfl))) (by decide) (t := .boolean) (t' := .int) (by decide) (by decide)))
  have Zz_3 : n0 ≤ hg43.size := Nat.le_trans Zz_2 (Keep.of_wr Wg43).1
  have Kc_3 := Kc_2.wr Wg43 (Or.inl (List.mem_of_getElem? (i := 0) rfl))
  refine own_st (B := Tg43.setTop (mkF m 47 #[.val (.ref r0), .val (.int (own_b B1)), .val (.int (own_b B2)), .val (.long q3), .second, .val (.int p4)] [(.ref r0)])) (fun target kt => ?_) ?_
  · show Steps p.tables e below (Tg43.setTop (mkF m 46 #[.val (.ref r0), .val (.int (own_b B1)), .val (.int (own_b B2)), .val (.long q3), .second, .val (.int p4)] [])) target
    refine XS.aloadN Xg43.here hx rfl (hb hby own_d3_46) rfl rfl ?_
    exact kt
  obtain ⟨Tg47, Xg47, eg47, stg47⟩ := getF Xg43 hx hZ hown (host := "") (Or.inl (hw _ (List.mem_of_getElem? (i := 28) rfl))) Via.refl eg43 F_40 (g := (mkF m 47 #[.val (.ref r0), .val (.int (own_b B1)), .val (.int (own_b B2)), .val (.long q3), .second, .val (.int p4)] [(.ref r0)])) rfl rfl (hb hby own_d3_47)
  refine own_st stg47 ?_
  obtain ⟨fs, hr, hrun, hended, hW, hsame⟩ := Xg47.leave (v := some (.int (nar .boolean (own_b (¬ (W_s) ∨ ((¬ (B2) ∨ ((¬ (p4 = w_k) ∨ (W_h)))))))))) (fun h => by rw [Bd.returns] at h; cases h)
  have hend : Steps p.tables e below (Tg47.setTop (mkF m 50 #[.val (.ref r0), .val (.int (own_b B1)), .val (.int (own_b B2)), .val (.long q3), .second, .val (.int p4)] [(.int (own_b (¬ (W_s) ∨ ((¬ (B2) ∨ ((¬ (p4 = w_k) ∨ (W_h))))))))])) (Tg47.setFrames fs) := by
    exact retN Xg47 hx (t := .boolean) Bd.returns (by simp) (hb hby own_d3_50) hr
  refine own_fin hend ⟨_, hrun, hended, _, _, rfl, ?_, ⟨_, rfl⟩, hW, hsame.mono (by decide) (by decide)⟩
  show own_Q3 Z r0 B1 B2 q3 p4 w_p W_s w_k w_b w_m w_t W_h h0 n0 _ Tg47.heap _
  rw [eg47]
  subst hj30_f_r0_began hj30_f_r0_made
  exact ⟨(congrArg (fun z => some (Value.int z)) ((own_nar rfl).trans (own_bi ⟨fun w => w, fun w => w⟩))), Ng43, Kc_3, F_33, F_34, F_35, F_36, F_37, F_38, F_39, F_40⟩
theorem own_d5_0 : decode prog_34_method_10_code 0 = .ok (.aload_n 0, 1) := by decide +kernel
theorem own_d5_1 : decode prog_34_method_10_code 1 = .ok (.dup, 1) := by decide +kernel
theorem own_d5_2 : decode prog_34_method_10_code 2 = .ok (.getfield 13, 3) := by decide +kernel
theorem own_d5_5 : decode prog_34_method_10_code 5 = .ok (.lload_n 1, 1) := by decide +kernel
theorem own_d5_6 : decode prog_34_method_10_code 6 = .ok (.ladd, 1) := by decide +kernel
theorem own_d5_7 : decode prog_34_method_10_code 7 = .ok (.putfield 13, 3) := by decide +kernel
theorem own_d5_10 : decode prog_34_method_10_code 10 = .ok (.aload_n 0, 1) := by decide +kernel
theorem own_d5_11 : decode prog_34_method_10_code 11 = .ok (.dup, 1) := by decide +kernel
theorem own_d5_12 : decode prog_34_method_10_code 12 = .ok (.getfield 42, 3) := by decide +kernel
theorem own_d5_15 : decode prog_34_method_10_code 15 = .ok (.lload_n 1, 1) := by decide +kernel
theorem own_d5_16 : decode prog_34_method_10_code 16 = .ok (.ladd, 1) := by decide +kernel
theorem own_d5_17 : decode prog_34_method_10_code 17 = .ok (.putfield 42, 3) := by decide +kernel
theorem own_d5_20 : decode prog_34_method_10_code 20 = .ok (.aload_n 0, 1) := by decide +kernel
theorem own_d5_21 : decode prog_34_method_10_code 21 = .ok (.getfield 42, 3) := by decide +kernel
theorem own_d5_24 : decode prog_34_method_10_code 24 = .ok (.aload_n 0, 1) := by decide +kernel
theorem own_d5_25 : decode prog_34_method_10_code 25 = .ok (.getfield 33, 3) := by decide +kernel
theorem own_d5_28 : decode prog_34_method_10_code 28 = .ok (.lcmp, 1) := by decide +kernel
theorem own_d5_29 : decode prog_34_method_10_code 29 = .ok (.ifCond .lt 36, 3) := by decide +kernel
theorem own_d5_32 : decode prog_34_method_10_code 32 = .ok (.aload_n 0, 1) := by decide +kernel
theorem own_d5_33 : decode prog_34_method_10_code 33 = .ok (.dup, 1) := by decide +kernel
theorem own_d5_34 : decode prog_34_method_10_code 34 = .ok (.getfield 42, 3) := by decide +kernel
theorem own_d5_37 : decode prog_34_method_10_code 37 = .ok (.aload_n 0, 1) := by decide +kernel
theorem own_d5_38 : decode prog_34_method_10_code 38 = .ok (.getfield 33, 3) := by decide +kernel
theorem own_d5_41 : decode prog_34_method_10_code 41 = .ok (.lsub, 1) := by decide +kernel
theorem own_d5_42 : decode prog_34_method_10_code 42 = .ok (.putfield 42, 3) := by decide +kernel
theorem own_d5_45 : decode prog_34_method_10_code 45 = .ok (.aload_n 0, 1) := by decide +kernel
theorem own_d5_46 : decode prog_34_method_10_code 46 = .ok (.aload_n 0, 1) := by decide +kernel
theorem own_d5_47 : decode prog_34_method_10_code 47 = .ok (.getfield 13, 3) := by decide +kernel
theorem own_d5_50 : decode prog_34_method_10_code 50 = .ok (.aload_n 0, 1) := by decide +kernel
theorem own_d5_51 : decode prog_34_method_10_code 51 = .ok (.getfield 42, 3) := by decide +kernel
theorem own_d5_54 : decode prog_34_method_10_code 54 = .ok (.lsub, 1) := by decide +kernel
theorem own_d5_55 : decode prog_34_method_10_code 55 = .ok (.lconst 1, 1) := by decide +kernel
theorem own_d5_56 : decode prog_34_method_10_code 56 = .ok (.ladd, 1) := by decide +kernel
theorem own_d5_57 : decode prog_34_method_10_code 57 = .ok (.putfield 39, 3) := by decide +kernel
theorem own_d5_60 : decode prog_34_method_10_code 60 = .ok (.aload_n 0, 1) := by decide +kernel
theorem own_d5_61 : decode prog_34_method_10_code 61 = .ok (.iconst 1, 1) := by decide +kernel
theorem own_d5_62 : decode prog_34_method_10_code 62 = .ok (.putfield 36, 3) := by decide +kernel
theorem own_d5_65 : decode prog_34_method_10_code 65 = .ok (.return_, 1) := by decide +kernel
theorem own_ef5 (m : MethodId) (r0 : Addr) (q1 : Int64) : entryFrame m #[(.ref r0), (.long q1)] 3 = mkF m 0 #[.val (.ref r0), .val (.long q1), .second] [] := by first | (simp [entryFrame, mkF, argsToLocals, Value.category]; done) | rfl
def own_Q5 (Z : State) (r0 : Addr) (q1 : Int64) (w_p : Int64) (W_s : Prop) [Decidable W_s] (w_k : Int32) (w_b : Int64) (w_m : Int64) (w_t : Int64) (W_h : Prop) [Decidable W_h] (h0 : Heap) (n0 : Nat) (v : Option Value) (h : Heap) (L : List Loc) : Prop := (v = none) ∧ (Fr n0 L) ∧ (Keep h0 h [r0]) ∧ (Exa Z h r0 "com/example/evenkeel/evenkeel/FullCycles") ∧ (Fld Z h r0 "com/example/evenkeel/evenkeel/FullCycles" "picks" "J" (.long ((w_p + q1)))) ∧ (Fld Z h r0 "com/example/evenkeel/evenkeel/FullCycles" "steady" "Z" (.int (own_b W_s))) ∧ (Fld Z h r0 "com/example/evenkeel/evenkeel/FullCycles" "taking" "I" (.int w_k)) ∧ (Fld Z h r0 "com/example/evenkeel/evenkeel/FullCycles" "began" "J" (.long ((if ((w_m + q1)) < w_t then w_b else (((((w_p + q1)) - ((((w_m + q1)) - w_t))) + (1 : Int64))))))) ∧ (Fld Z h r0 "com/example/evenkeel/evenkeel/FullCycles" "made" "J" (.long ((if ((w_m + q1)) < w_t then ((w_m + q1)) else ((((w_m + q1)) - w_t)))))) ∧ (Fld Z h r0 "com/example/evenkeel/evenkeel/FullCycles" "total" "J" (.long w_t)) ∧ (Fld Z h r0 "com/example/evenkeel/evenkeel/FullCycles" "holding" "Z" (.int (own_b (¬ (((w_m + q1)) < w_t) ∨ (W_h)))))
set_option maxRecDepth 65536 in
set_option maxHeartbeats 40000000 in
theorem own_rm5 (l : Launch) (Z : State) (a0 : Array Value) (hw : ∀ d ∈ tables_1, d.before a0 Z = true) (ws : List Jvm.Cond) (r0 : Addr) (q1 : Int64) (w_p : Int64) (W_s : Prop) [Decidable W_s] (w_k : Int32) (w_b : Int64) (w_m : Int64) (w_t : Int64) (W_h : Prop) [Decidable W_h] (h0 : Heap) (n0 : Nat) (Z0 : n0 ≤ h0.size) (E_r0 : Exa Z h0 r0 "com/example/evenkeel/evenkeel/FullCycles") (F_r0_picks : Fld Z h0 r0 "com/example/evenkeel/evenkeel/FullCycles" "picks" "J" (.long w_p)) (F_r0_steady : Fld Z h0 r0 "com/example/evenkeel/evenkeel/FullCycles" "steady" "Z" (.int (own_b W_s))) (F_r0_taking : Fld Z h0 r0 "com/example/evenkeel/evenkeel/FullCycles" "taking" "I" (.int w_k)) (F_r0_began : Fld Z h0 r0 "com/example/evenkeel/evenkeel/FullCycles" "began" "J" (.long w_b)) (F_r0_made : Fld Z h0 r0 "com/example/evenkeel/evenkeel/FullCycles" "made" "J" (.long w_m)) (F_r0_total : Fld Z h0 r0 "com/example/evenkeel/evenkeel/FullCycles" "total" "J" (.long w_t)) (F_r0_holding : Fld Z h0 r0 "com/example/evenkeel/evenkeel/FullCycles" "holding" "Z" (.int (own_b W_h))) (g_r0 : n0 ≤ r0) :
    MetFree l (⟨"com/example/evenkeel/evenkeel/FullCycles", "skip", "(J)V"⟩ : MethodName) (head1 (Jvm.Cond.code (⟨"com/example/evenkeel/evenkeel/FullCycles", "skip", "(J)V"⟩ : MethodName) prog_34_method_10_code 3 none :: ws) ({ frames := 0, cells := 0, slots := 0, locals := 0 } : Room)) (fun a U => a = #[(.ref r0), (.long q1)] ∧ Z.Warmed39 U.vm ∧ U.heap = h0) (fun _ _ _ _ _ => True) (fun _ U o U' => ∃ v L, o = .returned v ∧ own_Q5 Z r0 q1 w_p W_s w_k w_b w_m w_t W_h h0 n0 v U'.heap L ∧ FrameEnd U o U' L ({ frames := 0, cells := 0, slots := 0, locals := 0 } : Room).cells ({ frames := 0, cells := 0, slots := 0, locals := 0 } : Room).slots) := by
  refine MetFree.of_bodySF (plainFor_of_name own_pn0) hisR ?_
  intro p e s m args below meth c s₁ Bd hml0 hP hK
  obtain ⟨rfl, hZ, hh⟩ := hP
  have hx := Bd.exec
  have hby := Bd.bytes
  have hml : c.maxLocals = 3 := hml0
  have hown : s.vm.findClass "com/example/evenkeel/evenkeel/FullCycles" = some m.cls := findClass_of_methodNamed Bd.named
  have hnm := (name_of_methodNamed Bd.named Bd.method).1
  have X0 : Stand p l e ({ frames := 0, cells := 0, slots := 0, locals := 0 } : Room) s m #[(.ref r0), (.long q1)] below meth c s₁ [] 0 0 := Stand.of_body Bd
  have e0 : s₁.heap = h0 := by rw [← hh, Bd.state]; rfl
  have N0 := Fr.nil n0
  have pre0 : ∀ t, Steps p.tables e below (s₁.setTop (mkF m 0 #[.val (.ref r0), .val (.long q1), .second] [])) t → Steps p.tables e below (s₁.setTop (entryFrame m #[(.ref r0), (.long q1)] 3)) t := fun t k => castTop (own_ef5 m r0 q1) k
  refine own_run (own_st pre0 ?_)
  refine own_st (B := s₁.setTop (mkF m 2 #[.val (.ref r0), .val (.long q1), .second] [(.ref r0), (.ref r0)])) (fun target kt => ?_) ?_
  · show Steps p.tables e below (s₁.setTop (mkF m 0 #[.val (.ref r0), .val (.long q1), .second] [])) target
    refine XS.aloadN X0.here hx rfl (hb hby own_d5_0) rfl rfl ?_
    show Steps p.tables e below (s₁.setTop (mkF m 1 #[.val (.ref r0), .val (.long q1), .second] [(.ref r0)])) target
    refine XS.dup X0.here hx rfl (hb hby own_d5_1) rfl rfl ?_
    exact kt
  obtain ⟨Tg2, Xg2, eg2, stg2⟩ := getF X0 hx hZ hown (host := "") (Or.inl (hw _ (List.mem_of_getElem? (i := 18) rfl))) Via.refl e0 F_r0_picks (g := (mkF m 2 #[.val (.ref r0), .val (.long q1), .second] [(.ref r0), (.ref r0)])) rfl rfl (hb hby own_d5_2)
  refine own_st stg2 ?_
  refine own_st (B := Tg2.setTop (mkF m 7 #[.val (.ref r0), .val (.long q1), .second] [(.long (w_p + q1)), (.ref r0)])) (fun target kt => ?_) ?_
  · show Steps p.tables e below (Tg2.setTop (mkF m 5 #[.val (.ref r0), .val (.long q1), .second] [(.long w_p), (.ref r0)])) target
    refine XS.lloadN Xg2.here hx rfl (hb hby own_d5_5) rfl ?_
    show Steps p.tables e below (Tg2.setTop (mkF m 6 #[.val (.ref r0), .val (.long q1), .second] [(.long q1), (.long w_p), (.ref r0)])) target
    refine XS.ladd Xg2.here hx rfl (hb hby own_d5_6) rfl ?_
    exact kt
  obtain ⟨Tg7, hg7, Xg7, eg7, Wg7, stg7⟩ := putF Xg2 hx hZ hown (host := "") (Or.inl (hw _ (List.mem_of_getElem? (i := 18) rfl))) Via.refl eg2 F_r0_picks E_r0 (Or.inl (hw _ (List.mem_of_getElem? (i := 19) rfl))) (hw _ (List.mem_of_getElem? (i := 2) rfl)) (ty := .long) (by decide) rfl rfl (g := (mkF m 7 #[.val (.ref r0), .val (.long q1), .second] [(.long (w_p + q1)), (.ref r0)])) rfl rfl (hb hby own_d5_7)
  refine own_st stg7 ?_
  have Ng7 := Fr.snoc Xg7 N0 g_r0
  have F := E_r0.wr Wg7
  have F_1 := F_r0_picks.same Wg7
  have F_2 := F_r0_steady.other Wg7 (Or.inr (slot_ne (Or.inl (hw _ (List.mem_of_getElem? (i := 17) rfl))) (Or.inl (hw _ (List.mem_of_getElem? (i := 19) rfl))) (by decide) (t := .boolean) (t' := .long) (by decide) (by decide)))
  have F_3 := F_r0_taking.other Wg7 (Or.inr (slot_ne (Or.inl (hw _ (List.mem_of_getElem? (i := 33) rfl))) (Or.inl (hw _ (List.mem_of_getElem? (i := 19) rfl))) (by decide) (t := .int) (t' := .long) (by decide) (by decide)))
  have F_4 := F_r0_began.other Wg7 (Or.inr (slot_ne (Or.inl (hw _ (List.mem_of_getElem? (i := 25) rfl))) (Or.inl (hw _ (List.mem_of_getElem? (i := 19) rfl))) (by decide) (t := .long) (t' := .long) (by decide) (by decide)))
  have F_5 := F_r0_made.other Wg7 (Or.inr (slot_ne (Or.inl (hw _ (List.mem_of_getElem? (i := 27) rfl))) (Or.inl (hw _ (List.mem_of_getElem? (i := 19) rfl))) (by decide) (t := .long) (t' := .long) (by decide) (by decide)))
  have F_6 := F_r0_total.other Wg7 (Or.inr (slot_ne (Or.inl (hw _ (List.mem_of_getElem? (i := 31) rfl))) (Or.inl (hw _ (List.mem_of_getElem? (i := 19) rfl))) (by decide) (t := .long) (t' := .long) (by decide) (by decide)))
  have F_7 := F_r0_holding.other Wg7 (Or.inr (slot_ne (Or.inl (hw _ (List.mem_of_getElem? (i := 29) rfl))) (Or.inl (hw _ (List.mem_of_getElem? (i := 19) rfl))) (by decide) (t := .boolean) (t' := .long) (by decide) (by decide)))
  have Zz : n0 ≤ hg7.size := Nat.le_trans Z0 (Keep.of_wr Wg7).1
  have Kc := (Keep.refl h0 [r0]).wr Wg7 (Or.inl (List.mem_of_getElem? (i := 0) rfl))
  obtain ⟨v7, hv7⟩ : ∃ z : Int64, z = (w_p + q1) := ⟨_, rfl⟩
  have F_8 : Fld Z hg7 r0 "com/example/evenkeel/evenkeel/FullCycles" "picks" "J" (.long v7) := by subst hv7; exact F_1
  refine own_st (B := Tg7.setTop (mkF m 12 #[.val (.ref r0), .val (.long q1), .second] [(.ref r0), (.ref r0)])) (fun target kt => ?_) ?_
  · show Steps p.tables e below (Tg7.setTop (mkF m 10 #[.val (.ref r0), .val (.long q1), .second] [])) target
    refine XS.aloadN Xg7.here hx rfl (hb hby own_d5_10) rfl rfl ?_
    show Steps p.tables e below (Tg7.setTop (mkF m 11 #[.val (.ref r0), .val (.long q1), .second] [(.ref r0)])) target
    refine XS.dup Xg7.here hx rfl (hb hby own_d5_11) rfl rfl ?_
    exact kt
  obtain ⟨Tg12, Xg12, eg12, stg12⟩ := getF Xg7 hx hZ hown (host := "") (Or.inl (hw _ (List.mem_of_getElem? (i := 26) rfl))) Via.refl eg7 F_5 (g := (mkF m 12 #[.val (.ref r0), .val (.long q1), .second] [(.ref r0), (.ref r0)])) rfl rfl (hb hby own_d5_12)
  refine own_st stg12 ?_
  refine own_st (B := Tg12.setTop (mkF m 17 #[.val (.ref r0), .val (.long q1), .second] [(.long (w_m + q1)), (.ref r0)])) (fun target kt => ?_) ?_
  · show Steps p.tables e below (Tg12.setTop (mkF m 15 #[.val (.ref r0), .val (.long q1), .second] [(.long w_m), (.ref r0)])) target
    refine XS.lloadN Xg12.here hx rfl (hb hby own_d5_15) rfl ?_
    show Steps p.tables e below (Tg12.setTop (mkF m 16 #[.val (.ref r0), .val (.long q1), .second] [(.long q1), (.long w_m), (.ref r0)])) target
    refine XS.ladd Xg12.here hx rfl (hb hby own_d5_16) rfl ?_
    exact kt
  obtain ⟨Tg17, hg17, Xg17, eg17, Wg17, stg17⟩ := putF Xg12 hx hZ hown (host := "") (Or.inl (hw _ (List.mem_of_getElem? (i := 26) rfl))) Via.refl eg12 F_5 F (Or.inl (hw _ (List.mem_of_getElem? (i := 27) rfl))) (hw _ (List.mem_of_getElem? (i := 2) rfl)) (ty := .long) (by decide) rfl rfl (g := (mkF m 17 #[.val (.ref r0), .val (.long q1), .second] [(.long (w_m + q1)), (.ref r0)])) rfl rfl (hb hby own_d5_17)
  refine own_st stg17 ?_
  have Ng17 := Fr.snoc Xg17 Ng7 g_r0
  have F_9 := F.wr Wg17
  have F_10 := F_8.other Wg17 (Or.inr (slot_ne (Or.inl (hw _ (List.mem_of_getElem? (i := 19) rfl))) (Or.inl (hw _ (List.mem_of_getElem? (i := 27) rfl))) (by decide) (t := .long) (t' := .long) (by decide) (by decide)))
  have F_11 := F_2.other Wg17 (Or.inr (slot_ne (Or.inl (hw _ (List.mem_of_getElem? (i := 17) rfl))) (Or.inl (hw _ (List.mem_of_getElem? (i := 27) rfl))) (by decide) (t := .boolean) (t' := .long) (by decide) (by decide)))
  have F_12 := F_3.other Wg17 (Or.inr (slot_ne (Or.inl (hw _ (List.mem_of_getElem? (i := 33) rfl))) (Or.inl (hw _ (List.mem_of_getElem? (i := 27) rfl))) (by decide) (t := .int) (t' := .long) (by decide) (by decide)))
  have F_13 := F_4.other Wg17 (Or.inr (slot_ne (Or.inl (hw _ (List.mem_of_getElem? (i := 25) rfl))) (Or.inl (hw _ (List.mem_of_getElem? (i := 27) rfl))) (by decide) (t := .long) (t' := .long) (by decide) (by decide)))
  have F_14 := F_5.same Wg17
  have F_15 := F_6.other Wg17 (Or.inr (slot_ne (Or.inl (hw _ (List.mem_of_getElem? (i := 31) rfl))) (Or.inl (hw _ (List.mem_of_getElem? (i := 27) rfl))) (by decide) (t := .long) (t' := .long) (by decide) (by decide)))
  have F_16 := F_7.other Wg17 (Or.inr (slot_ne (Or.inl (hw _ (List.mem_of_getElem? (i := 29) rfl))) (Or.inl (hw _ (List.mem_of_getElem? (i := 27) rfl))) (by decide) (t := .boolean) (t' := .long) (by decide) (by decide)))
  have Zz_1 : n0 ≤ hg17.size := Nat.le_trans Zz (Keep.of_wr Wg17).1
  have Kc_1 := Kc.wr Wg17 (Or.inl (List.mem_of_getElem? (i := 0) rfl))
  obtain ⟨v17, hv17⟩ : ∃ z : Int64, z = (w_m + q1) := ⟨_, rfl⟩
  have F_17 : Fld Z hg17 r0 "com/example/evenkeel/evenkeel/FullCycles" "made" "J" (.long v17) := by subst hv17; exact F_14
  refine own_st (B := Tg17.setTop (mkF m 21 #[.val (.ref r0), .val (.long q1), .second] [(.ref r0)])) (fun target kt => ?_) ?_
  · show Steps p.tables e below (Tg17.setTop (mkF m 20 #[.val (.ref r0), .val (.long q1), .second] [])) target
    refine XS.aloadN Xg17.here hx rfl (hb hby own_d5_20) rfl rfl ?_
    exact kt
  obtain ⟨Tg21, Xg21, eg21, stg21⟩ := getF Xg17 hx hZ hown (host := "") (Or.inl (hw _ (List.mem_of_getElem? (i := 26) rfl))) Via.refl eg17 F_17 (g := (mkF m 21 #[.val (.ref r0), .val (.long q1), .second] [(.ref r0)])) rfl rfl (hb hby own_d5_21)
  refine own_st stg21 ?_
  refine own_st (B := Tg21.setTop (mkF m 25 #[.val (.ref r0), .val (.long q1), .second] [(.ref r0), (.long v17)])) (fun target kt => ?_) ?_
  · show Steps p.tables e below (Tg21.setTop (mkF m 24 #[.val (.ref r0), .val (.long q1), .second] [(.long v17)])) target
    refine XS.aloadN Xg21.here hx rfl (hb hby own_d5_24) rfl rfl ?_
    exact kt
  obtain ⟨Tg25, Xg25, eg25, stg25⟩ := getF Xg21 hx hZ hown (host := "") (Or.inl (hw _ (List.mem_of_getElem? (i := 30) rfl))) Via.refl eg21 F_15 (g := (mkF m 25 #[.val (.ref r0), .val (.long q1), .second] [(.ref r0), (.long v17)])) rfl rfl (hb hby own_d5_25)
  refine own_st stg25 ?_
  refine own_st (B := Tg25.setTop (mkF m 29 #[.val (.ref r0), .val (.long q1), .second] [(.int (lcmpW v17 w_t))])) (fun target kt => ?_) ?_
  · show Steps p.tables e below (Tg25.setTop (mkF m 28 #[.val (.ref r0), .val (.long q1), .second] [(.long w_t), (.long v17)])) target
    refine XS.lcmp Xg25.here hx rfl (hb hby own_d5_28) rfl ?_
    exact kt
  obtain ⟨_, ⟨T_M65, h_M65, lc_M65, j65_f_r0_began, j65_f_r0_made, j65_f_r0_holding, rfl, X_M65, e_M65, N_M65, Z_M65, K_M65, F_44, F_45, F_46, F_47, F_48, F_49, F_50, F_51, hj65_f_r0_began, hj65_f_r0_made, rfl⟩, st_M65⟩ : own_Lead p.tables e below (Tg25.setTop (mkF m 29 #[.val (.ref r0), .val (.long q1), .second] [(.int (lcmpW v17 w_t))])) (fun B => ∃ (T_M65 : State) (h_M65 : Heap) (lc_M65 : List Loc) (j65_f_r0_began : Int64) (j65_f_r0_made : Int64) (j65_f_r0_holding : Int32), B = T_M65.setTop (mkF m 65 #[.val (.ref r0), .val (.long q1), .second] []) ∧ Stand p l e ({ frames := 0, cells := 0, slots := 0, locals := 0 } : Room) s m #[(.ref r0), (.long q1)] below meth c T_M65 lc_M65 0 0 ∧ T_M65.heap = h_M65 ∧ Fr n0 lc_M65 ∧ n0 ≤ h_M65.size ∧ Keep h0 h_M65 [r0] ∧ Exa Z h_M65 r0 "com/example/evenkeel/evenkeel/FullCycles" ∧ Fld Z h_M65 r0 "com/example/evenkeel/evenkeel/FullCycles" "picks" "J" (.long v7) ∧ Fld Z h_M65 r0 "com/example/evenkeel/evenkeel/FullCycles" "steady" "Z" (.int (own_b W_s)) ∧ Fld Z h_M65 r0 "com/example/evenkeel/evenkeel/FullCycles" "taking" "I" (.int w_k) ∧ Fld Z h_M65 r0 "com/example/evenkeel/evenkeel/FullCycles" "began" "J" (.long j65_f_r0_began) ∧ Fld Z h_M65 r0 "com/example/evenkeel/evenkeel/FullCycles" "made" "J" (.long j65_f_r0_made) ∧ Fld Z h_M65 r0 "com/example/evenkeel/evenkeel/FullCycles" "total" "J" (.long w_t) ∧ Fld Z h_M65 r0 "com/example/evenkeel/evenkeel/FullCycles" "holding" "Z" (.int j65_f_r0_holding) ∧ j65_f_r0_began = (if v17 < w_t then w_b else (((v7 - ((v17 - w_t))) + (1 : Int64)))) ∧ j65_f_r0_made = (if v17 < w_t then v17 else ((v17 - w_t))) ∧ j65_f_r0_holding = own_b ((¬ (v17 < w_t) ∨ (W_h)))) := by
    by_cases c29 : v17 < w_t
    · refine own_st (B := Tg25.setTop (mkF m 65 #[.val (.ref r0), .val (.long q1), .second] [])) (fun target kt => ?_) ?_
      · show Steps p.tables e below (Tg25.setTop (mkF m 29 #[.val (.ref r0), .val (.long q1), .second] [(.int (lcmpW v17 w_t))])) target
        refine XS.ifYes Xg25.here hx rfl (pc0 := 29) (pc' := 65) rfl (hb hby own_d5_29) rfl ((if0 _ _).trans (tlt ((lw_lt v17 w_t).mpr c29)).1) (by decide) (by decide) ?_
        exact kt
      exact ⟨_, ⟨Tg25, hg17, _, w_b, v17, (own_b W_h), rfl, Xg25, eg25, Ng17, Zz_1, Kc_1, F_9, F_10, F_11, F_12, F_13, F_17, F_15, F_16, (if_pos c29).symm, (if_pos c29).symm, (own_bj rfl (fun q => (Or.inr q)) (fun q => (fun w => w.elim (fun n => n c29) q)))⟩, fun _ k => k⟩
    · refine own_st (B := Tg25.setTop (mkF m 34 #[.val (.ref r0), .val (.long q1), .second] [(.ref r0), (.ref r0)])) (fun target kt => ?_) ?_
      · show Steps p.tables e below (Tg25.setTop (mkF m 29 #[.val (.ref r0), .val (.long q1), .second] [(.int (lcmpW v17 w_t))])) target
        refine XS.ifNo Xg25.here hx rfl (hb hby own_d5_29) rfl ((if0 _ _).trans (flt (fun q => c29 ((lw_lt v17 w_t).mp q))).1) ?_
        show Steps p.tables e below (Tg25.setTop (mkF m 32 #[.val (.ref r0), .val (.long q1), .second] [])) target
        refine XS.aloadN Xg25.here hx rfl (hb hby own_d5_32) rfl rfl ?_
        show Steps p.tables e below (Tg25.setTop (mkF m 33 #[.val (.ref r0), .val (.long q1), .second] [(.ref r0)])) target
        refine XS.dup Xg25.here hx rfl (hb hby own_d5_33) rfl rfl ?_
        exact kt
      obtain ⟨Tg34, Xg34, eg34, stg34⟩ := getF Xg25 hx hZ hown (host := "") (Or.inl (hw _ (List.mem_of_getElem? (i := 26) rfl))) Via.refl eg25 F_17 (g := (mkF m 34 #[.val (.ref r0), .val (.long q1), .second] [(.ref r0), (.ref r0)])) rfl rfl (hb hby own_d5_34)
      refine own_st stg34 ?_
      refine own_st (B := Tg34.setTop (mkF m 38 #[.val (.ref r0), .val (.long q1), .second] [(.ref r0), (.long v17), (.ref r0)])) (fun target kt => ?_) ?_
      · show Steps p.tables e below (Tg34.setTop (mkF m 37 #[.val (.ref r0), .val (.long q1), .second] [(.long v17), (.ref r0)])) target
        refine XS.aloadN Xg34.here hx rfl (hb hby own_d5_37) rfl rfl ?_
        exact kt
      obtain ⟨Tg38, Xg38, eg38, stg38⟩ := getF Xg34 hx hZ hown (host := "") (Or.inl (hw _ (List.mem_of_getElem? (i := 30) rfl))) Via.refl eg34 F_15 (g := (mkF m 38 #[.val (.ref r0), .val (.long q1), .second] [(.ref r0), (.long v17), (.ref r0)])) rfl rfl (hb hby own_d5_38)
      refine own_st stg38 ?_
      refine own_st (B := Tg38.setTop (mkF m 42 #[.val (.ref r0), .val (.long q1), .second] [(.long (v17 - w_t)), (.ref r0)])) (fun target kt => ?_) ?_
      · show Steps p.tables e below (Tg38.setTop (mkF m 41 #[.val (.ref r0), .val (.long q1), .second] [(.long w_t), (.long v17), (.ref r0)])) target
        refine XS.lsub Xg38.here hx rfl (hb hby own_d5_41) rfl ?_
        exact kt
      obtain ⟨Tg42, hg42, Xg42, eg42, Wg42, stg42⟩ := putF Xg38 hx hZ hown (host := "") (Or.inl (hw _ (List.mem_of_getElem? (i := 26) rfl))) Via.refl eg38 F_17 F_9 (Or.inl (hw _ (List.mem_of_getElem? (i := 27) rfl))) (hw _ (List.mem_of_getElem? (i := 2) rfl)) (ty := .long) (by decide) rfl rfl (g := (mkF m 42 #[.val (.ref r0), .val (.long q1), .second] [(.long (v17 - w_t)), (.ref r0)])) rfl rfl (hb hby own_d5_42)
      refine own_st stg42 ?_
      have Ng42 := Fr.snoc Xg42 Ng17 g_r0
      have F_18 := F_9.wr Wg42
      have F_19 := F_10.other Wg42 (Or.inr (slot_ne (Or.inl (hw _ (List.mem_of_getElem? (i := 19) rfl))) (Or.inl (hw _ (List.mem_of_getElem? (i := 27) rfl))) (by decide) (t := .long) (t' := .long) (by decide) (by decide)))
      have F_20 := F_11.other Wg42 (Or.inr (slot_ne (Or.inl (hw _ (List.mem_of_getElem? (i := 17) rfl))) (Or.inl (hw _ (List.mem_of_getElem? (i := 27) rfl))) (by decide) (t := .boolean) (t' := .long) (by decide) (by decide)))
      have F_21 := F_12.other Wg42 (Or.inr (slot_ne (Or.inl (hw _ (List.mem_of_getElem? (i := 33) rfl))) (Or.inl (hw _ (List.mem_of_getElem? (i := 27) rfl))) (by decide) (t := .int) (t' := .long) (by decide) (by decide)))
      have F_22 := F_13.other Wg42 (Or.inr (slot_ne (Or.inl (hw _ (List.mem_of_getElem? (i := 25) rfl))) (Or.inl (hw _ (List.mem_of_getElem? (i := 27) rfl))) (by decide) (t := .long) (t' := .long) (by decide) (by decide)))
      have F_23 := F_17.same Wg42
      have F_24 := F_15.other Wg42 (Or.inr (slot_ne (Or.inl (hw _ (List.mem_of_getElem? (i := 31) rfl))) (Or.inl (hw _ (List.mem_of_getElem? (i := 27) rfl))) (by decide) (t := .long) (t' := .long) (by decide) (by decide)))
      have F_25 := F_16.other Wg42 (Or.inr (slot_ne (Or.inl (hw _ (List.mem_of_getElem? (i := 29) rfl))) (Or.inl (hw _ (List.mem_of_getElem? (i := 27) rfl))) (by decide) (t := .boolean) (t' := .long) (by decide) (by decide)))
      have Zz_2 : n0 ≤ hg42.size := Nat.le_trans Zz_1 (Keep.of_wr Wg42).1
      have Kc_2 := Kc_1.wr Wg42 (Or.inl (List.mem_of_getElem? (i := 0) rfl))
      obtain ⟨v42, hv42⟩ : ∃ z : Int64, z = (v17 - w_t) := ⟨_, rfl⟩
      have F_26 : Fld Z hg42 r0 "com/example/evenkeel/evenkeel/FullCycles" "made" "J" (.long v42) := by subst hv42; exact F_23
      refine own_st (B := Tg42.setTop (mkF m 47 #[.val (.ref r0), .val (.long q1), .second] [(.ref r0), (.ref r0)])) (fun target kt => ?_) ?_
      · show Steps p.tables e below (Tg42.setTop (mkF m 45 #[.val (.ref r0), .val (.long q1), .second] [])) target
        refine XS.aloadN Xg42.here hx rfl (hb hby own_d5_45) rfl rfl ?_
        show Steps p.tables e below (Tg42.setTop (mkF m 46 #[.val (.ref r0), .val (.long q1), .second] [(.ref r0)])) target
        refine XS.aloadN Xg42.here hx rfl (hb hby own_d5_46) rfl rfl ?_
        exact kt
      obtain ⟨Tg47, Xg47, eg47, stg47⟩ := getF Xg42 hx hZ hown (host := "") (Or.inl (hw _ (List.mem_of_getElem? (i := 18) rfl))) Via.refl eg42 F_19 (g := (mkF m 47 #[.val (.ref r0), .val (.long q1), .second] [(.ref r0), (.ref r0)])) rfl rfl (hb hby own_d5_47)
      refine own_st stg47 ?_
      refine own_st (B := Tg47.setTop (mkF m 51 #[.val (.ref r0), .val (.long q1), .second] [(.ref r0), (.long v7), (.ref r0)])) (fun target kt => ?_) ?_
      · show Steps p.tables e below (Tg47.setTop (mkF m 50 #[.val (.ref r0), .val (.long q1), .second] [(.long v7), (.ref r0)])) target
        refine XS.aloadN Xg47.here hx rfl (hb hby own_d5_50) rfl rfl ?_
        exact kt
      obtain ⟨Tg51, Xg51, eg51, stg51⟩ := getF Xg47 hx hZ hown (host := "") (Or.inl (hw _ (List.mem_of_getElem? (i := 26) rfl))) Via.refl eg47 F_26 (g := (mkF m 51 #[.val (.ref r0), .val (.long q1), .second] [(.ref r0), (.long v7), (.ref r0)])) rfl rfl (hb hby own_d5_51)
      refine own_st stg51 ?_
      refine own_st (B := Tg51.setTop (mkF m 57 #[.val (.ref r0), .val (.long q1), .second] [(.long ((v7 - v42) + (1 : Int64))), (.ref r0)])) (fun target kt => ?_) ?_
      · show Steps p.tables e below (Tg51.setTop (mkF m 54 #[.val (.ref r0), .val (.long q1), .second] [(.long v42), (.long v7), (.ref r0)])) target
        refine XS.lsub Xg51.here hx rfl (hb hby own_d5_54) rfl ?_
        show Steps p.tables e below (Tg51.setTop (mkF m 55 #[.val (.ref r0), .val (.long q1), .second] [(.long (v7 - v42)), (.ref r0)])) target
        refine XS.lconst Xg51.here hx rfl (hb hby own_d5_55) ?_
        show Steps p.tables e below (Tg51.setTop (mkF m 56 #[.val (.ref r0), .val (.long q1), .second] [(.long (1 : Int64)), (.long (v7 - v42)), (.ref r0)])) target
        refine XS.ladd Xg51.here hx rfl (hb hby own_d5_56) rfl ?_
        exact kt
      obtain ⟨Tg57, hg57, Xg57, eg57, Wg57, stg57⟩ := putF Xg51 hx hZ hown (host := "") (Or.inl (hw _ (List.mem_of_getElem? (i := 24) rfl))) Via.refl eg51 F_22 F_18 (Or.inl (hw _ (List.mem_of_getElem? (i := 25) rfl))) (hw _ (List.mem_of_getElem? (i := 2) rfl)) (ty := .long) (by decide) rfl rfl (g := (mkF m 57 #[.val (.ref r0), .val (.long q1), .second] [(.long ((v7 - v42) + (1 : Int64))), (.ref r0)])) rfl rfl (hb hby own_d5_57)
      refine own_st stg57 ?_
      have Ng57 := Fr.snoc Xg57 Ng42 g_r0
      have F_27 := F_18.wr Wg57
      have F_28 := F_19.other Wg57 (Or.inr (slot_ne (Or.inl (hw _ (List.mem_of_getElem? (i := 19) rfl))) (Or.inl (hw _ (List.mem_of_getElem? (i := 25) rfl))) (by decide) (t := .long) (t' := .long) (by decide) (by decide)))
      have F_29 := F_20.other Wg57 (Or.inr (slot_ne (Or.inl (hw _ (List.mem_of_getElem? (i := 17) rfl))) (Or.inl (hw _ (List.mem_of_getElem? (i := 25) rfl))) (by decide) (t := .boolean) (t' := .long) (by decide) (by decide)))
      have F_30 := F_21.other Wg57 (Or.inr (slot_ne (Or.inl (hw _ (List.mem_of_getElem? (i := 33) rfl))) (Or.inl (hw _ (List.mem_of_getElem? (i := 25) rfl))) (by decide) (t := .int) (t' := .long) (by decide) (by decide)))
      have F_31 := F_22.same Wg57
      have F_32 := F_26.other Wg57 (Or.inr (slot_ne (Or.inl (hw _ (List.mem_of_getElem? (i := 27) rfl))) (Or.inl (hw _ (List.mem_of_getElem? (i := 25) rfl))) (by decide) (t := .long) (t' := .long) (by decide) (by decide)))
      have F_33 := F_24.other Wg57 (Or.inr (slot_ne (Or.inl (hw _ (List.mem_of_getElem? (i := 31) rfl))) (Or.inl (hw _ (List.mem_of_getElem? (i := 25) rfl))) (by decide) (t := .long) (t' := .long) (by decide) (by decide)))
      have F_34 := F_25.other Wg57 (Or.inr (slot_ne (Or.inl (hw _ (List.mem_of_getElem? (i := 29) rfl))) (Or.inl (hw _ (List.mem_of_getElem? (i := 25) rfl))) (by decide) (t := .boolean) (t' := .long) (by decide) (by decide)))
      have Zz_3 : n0 ≤ hg57.size := Nat.le_trans Zz_2 (Keep.of_wr Wg57).1
      have Kc_3 := Kc_2.wr Wg57 (Or.inl (List.mem_of_getElem? (i := 0) rfl))
      obtain ⟨v57, hv57⟩ : ∃ z : Int64, z = ((v7 - v42) + (1 : Int64)) := ⟨_, rfl⟩
      have F_35 : Fld Z hg57 r0 "com/example/evenkeel/evenkeel/FullCycles" "began" "J" (.long v57) := by subst hv57; exact F_31
      refine own_st (B := Tg57.setTop (mkF m 62 #[.val (.ref r0), .val (.long q1), .second] [(.int (1 : Int32)), (.ref r0)])) (fun target kt => ?_) ?_
      · show Steps p.tables e below (Tg57.setTop (mkF m 60 #[.val (.ref r0), .val (.long q1), .second] [])) target
        refine XS.aloadN Xg57.here hx rfl (hb hby own_d5_60) rfl rfl ?_
        show Steps p.tables e below (Tg57.setTop (mkF m 61 #[.val (.ref r0), .val (.long q1), .second] [(.ref r0)])) target
        refine XS.iconst Xg57.here hx rfl (hb hby own_d5_61) ?_
        exact kt
      obtain ⟨Tg62, hg62, Xg62, eg62, Wg62, stg62⟩ := putFN Xg57 hx hZ hown (hw _ (List.mem_of_getElem? (i := 28) rfl)) Via.refl eg57 F_34 F_27 (Or.inl (hw _ (List.mem_of_getElem? (i := 29) rfl))) (hw _ (List.mem_of_getElem? (i := 2) rfl)) (ty := .boolean) (v' := (.int (1 : Int32))) (by decide) rfl (own_bfits rfl) (g := (mkF m 62 #[.val (.ref r0), .val (.long q1), .second] [(.int (1 : Int32)), (.ref r0)])) rfl rfl (hb hby own_d5_62)
      refine own_st stg62 ?_
      have Ng62 := Fr.snoc Xg62 Ng57 g_r0
      have F_36 := F_27.wr Wg62
      have F_37 := F_28.other Wg62 (Or.inr (slot_ne (Or.inl (hw _ (List.mem_of_getElem? (i := 19) rfl))) (Or.inl (hw _ (List.mem_of_getElem? (i := 29) rfl))) (by decide) (t := .long) (t' := .boolean) (by decide) (by decide)))
      have F_38 := F_29.other Wg62 (Or.inr (slot_ne (Or.inl (hw _ (List.mem_of_getElem? (i := 17) rfl))) (Or.inl (hw _ (List.mem_of_getElem? (i := 29) rfl))) (by decide) (t := .boolean) (t' := .boolean) (by decide) (by decide)))
      have F_39 := F_30.other Wg62 (Or.inr (slot_ne (Or.inl (hw _ (List.mem_of_getElem? (i := 33) rfl))) (Or.inl (hw _ (List.mem_of_getElem? (i := 29) rfl))) (by decide) (t := .int) (t' := .boolean) (by decide) (by decide)))
      have F_40 := F_35.other Wg62 (Or.inr (slot_ne (Or.inl (hw _ (List.mem_of_getElem? (i := 25) rfl))) (Or.inl (hw _ (List.mem_of_getElem? (i := 29) rfl))) (by decide) (t := .long) (t' := .boolean) (by decide) (by decide)))
      have F_41 := F_32.other Wg62 (Or.inr (slot_ne (Or.inl (hw _ (List.mem_of_getElem? (i := 27) rfl))) (Or.inl (hw _ (List.mem_of_getElem? (i := 29) rfl))) (by decide) (t := .long) (t' := .boolean) (by decide) (by decide)))
      have F_42 := F_33.other Wg62 (Or.inr (slot_ne (Or.inl (hw _ (List.mem_of_getElem? (i := 31) rfl))) (Or.inl (hw _ (List.mem_of_getElem? (i := 29) rfl))) (by decide) (t := .long) (t' := .boolean) (by decide) (by decide)))
      have F_43 := F_34.same Wg62
      have Zz_4 : n0 ≤ hg62.size := Nat.le_trans Zz_3 (Keep.of_wr Wg62).1
      have Kc_4 := Kc_3.wr Wg62 (Or.inl (List.mem_of_getElem? (i := 0) rfl))
      subst hv42 hv57
      exact ⟨_, ⟨Tg62, hg62, _, (((v7 - ((v17 - w_t))) + (1 : Int64))), ((v17 - w_t)), (1 : Int32), rfl, Xg62, eg62, Ng62, Zz_4, Kc_4, F_36, F_37, F_38, F_39, F_40, F_41, F_42, F_43, (if_neg c29).symm, (if_neg c29).symm, (own_b1 (Or.inl c29)).symm⟩, fun _ k => k⟩
  refine own_st st_M65 ?_
  obtain ⟨fs, hr, hrun, hended, hW, hsame⟩ := X_M65.leave (v := none) (fun _ => rfl)
  have hend : Steps p.tables e below (T_M65.setTop (mkF m 65 #[.val (.ref r0), .val (.long q1), .second] [])) (T_M65.setFrames fs) := by
    exact X_M65.returnOut hx Bd.returns (hb hby own_d5_65) hr
  refine own_fin hend ⟨_, hrun, hended, _, _, rfl, ?_, ⟨_, rfl⟩, hW, hsame.mono (by decide) (by decide)⟩
  show own_Q5 Z r0 q1 w_p W_s w_k w_b w_m w_t W_h h0 n0 _ T_M65.heap _
  rw [e_M65]
  subst hv7 hv17 hj65_f_r0_began hj65_f_r0_made
  exact ⟨rfl, N_M65, K_M65, F_44, F_45, F_46, F_47, F_48, F_49, F_50, F_51⟩
theorem own_d12_0 : decode prog_34_method_11_code 0 = .ok (.aload_n 0, 1) := by decide +kernel
theorem own_d12_1 : decode prog_34_method_11_code 1 = .ok (.iconst 0, 1) := by decide +kernel
theorem own_d12_2 : decode prog_34_method_11_code 2 = .ok (.putfield 36, 3) := by decide +kernel
theorem own_d12_5 : decode prog_34_method_11_code 5 = .ok (.return_, 1) := by decide +kernel
theorem own_ef12 (m : MethodId) (r0 : Addr) : entryFrame m #[(.ref r0)] 1 = mkF m 0 #[.val (.ref r0)] [] := by first | (simp [entryFrame, mkF, argsToLocals, Value.category]; done) | rfl
def own_Q12 (Z : State) (r0 : Addr) (w_p : Int64) (W_s : Prop) [Decidable W_s] (w_k : Int32) (w_b : Int64) (w_m : Int64) (w_t : Int64) (W_h : Prop) [Decidable W_h] (h0 : Heap) (n0 : Nat) (v : Option Value) (h : Heap) (L : List Loc) : Prop := (v = none) ∧ (Fr n0 L) ∧ (Keep h0 h [r0]) ∧ (Exa Z h r0 "com/example/evenkeel/evenkeel/FullCycles") ∧ (Fld Z h r0 "com/example/evenkeel/evenkeel/FullCycles" "picks" "J" (.long w_p)) ∧ (Fld Z h r0 "com/example/evenkeel/evenkeel/FullCycles" "steady" "Z" (.int (own_b W_s))) ∧ (Fld Z h r0 "com/example/evenkeel/evenkeel/FullCycles" "taking" "I" (.int w_k)) ∧ (Fld Z h r0 "com/example/evenkeel/evenkeel/FullCycles" "began" "J" (.long w_b)) ∧ (Fld Z h r0 "com/example/evenkeel/evenkeel/FullCycles" "made" "J" (.long w_m)) ∧ (Fld Z h r0 "com/example/evenkeel/evenkeel/FullCycles" "total" "J" (.long w_t)) ∧ (Fld Z h r0 "com/example/evenkeel/evenkeel/FullCycles" "holding" "Z" (.int (0 : Int32)))
set_option maxRecDepth 65536 in
set_option maxHeartbeats 40000000 in
theorem own_rm12 (l : Launch) (Z : State) (a0 : Array Value) (hw : ∀ d ∈ tables_1, d.before a0 Z = true) (ws : List Jvm.Cond) (r0 : Addr) (w_p : Int64) (W_s : Prop) [Decidable W_s] (w_k : Int32) (w_b : Int64) (w_m : Int64) (w_t : Int64) (W_h : Prop) [Decidable W_h] (h0 : Heap) (n0 : Nat) (Z0 : n0 ≤ h0.size) (E_r0 : Exa Z h0 r0 "com/example/evenkeel/evenkeel/FullCycles") (F_r0_picks : Fld Z h0 r0 "com/example/evenkeel/evenkeel/FullCycles" "picks" "J" (.long w_p)) (F_r0_steady : Fld Z h0 r0 "com/example/evenkeel/evenkeel/FullCycles" "steady" "Z" (.int (own_b W_s))) (F_r0_taking : Fld Z h0 r0 "com/example/evenkeel/evenkeel/FullCycles" "taking" "I" (.int w_k)) (F_r0_began : Fld Z h0 r0 "com/example/evenkeel/evenkeel/FullCycles" "began" "J" (.long w_b)) (F_r0_made : Fld Z h0 r0 "com/example/evenkeel/evenkeel/FullCycles" "made" "J" (.long w_m)) (F_r0_total : Fld Z h0 r0 "com/example/evenkeel/evenkeel/FullCycles" "total" "J" (.long w_t)) (F_r0_holding : Fld Z h0 r0 "com/example/evenkeel/evenkeel/FullCycles" "holding" "Z" (.int (own_b W_h))) (g_r0 : n0 ≤ r0) :
    MetFree l (⟨"com/example/evenkeel/evenkeel/FullCycles", "giveUp", "()V"⟩ : MethodName) (head1 (Jvm.Cond.code (⟨"com/example/evenkeel/evenkeel/FullCycles", "giveUp", "()V"⟩ : MethodName) prog_34_method_11_code 1 none :: ws) ({ frames := 0, cells := 0, slots := 0, locals := 0 } : Room)) (fun a U => a = #[(.ref r0)] ∧ Z.Warmed39 U.vm ∧ U.heap = h0) (fun _ _ _ _ _ => True) (fun _ U o U' => ∃ v L, o = .returned v ∧ own_Q12 Z r0 w_p W_s w_k w_b w_m w_t W_h h0 n0 v U'.heap L ∧ FrameEnd U o U' L ({ frames := 0, cells := 0, slots := 0, locals := 0 } : Room).cells ({ frames := 0, cells := 0, slots := 0, locals := 0 } : Room).slots) := by
  refine MetFree.of_bodySF (plainFor_of_name own_pn0) hisR ?_
  intro p e s m args below meth c s₁ Bd hml0 hP hK
  obtain ⟨rfl, hZ, hh⟩ := hP
  have hx := Bd.exec
  have hby := Bd.bytes
  have hml : c.maxLocals = 1 := hml0
  have hown : s.vm.findClass "com/example/evenkeel/evenkeel/FullCycles" = some m.cls := findClass_of_methodNamed Bd.named
  have hnm := (name_of_methodNamed Bd.named Bd.method).1
  have X0 : Stand p l e ({ frames := 0, cells := 0, slots := 0, locals := 0 } : Room) s m #[(.ref r0)] below meth c s₁ [] 0 0 := Stand.of_body Bd
  have e0 : s₁.heap = h0 := by rw [← hh, Bd.state]; rfl
  have N0 := Fr.nil n0
  have pre0 : ∀ t, Steps p.tables e below (s₁.setTop (mkF m 0 #[.val (.ref r0)] [])) t → Steps p.tables e below (s₁.setTop (entryFrame m #[(.ref r0)] 1)) t := fun t k => castTop (own_ef12 m r0) k
  refine own_run (own_st pre0 ?_)
  refine own_st (B := s₁.setTop (mkF m 2 #[.val (.ref r0)] [(.int (0 : Int32)), (.ref r0)])) (fun target kt => ?_) ?_
  · show Steps p.tables e below (s₁.setTop (mkF m 0 #[.val (.ref r0)] [])) target
    refine XS.aloadN X0.here hx rfl (hb hby own_d12_0) rfl rfl ?_
    show Steps p.tables e below (s₁.setTop (mkF m 1 #[.val (.ref r0)] [(.ref r0)])) target
    refine XS.iconst X0.here hx rfl (hb hby own_d12_1) ?_
    exact kt
  obtain ⟨Tg2, hg2, Xg2, eg2, Wg2, stg2⟩ := putFN X0 hx hZ hown (hw _ (List.mem_of_getElem? (i := 28) rfl)) Via.refl e0 F_r0_holding E_r0 (Or.inl (hw _ (List.mem_of_getElem? (i := 29) rfl))) (hw _ (List.mem_of_getElem? (i := 2) rfl)) (ty := .boolean) (v' := (.int (0 : Int32))) (by decide) rfl (own_bfits rfl) (g := (mkF m 2 #[.val (.ref r0)] [(.int (0 : Int32)), (.ref r0)])) rfl rfl (hb hby own_d12_2)
  refine own_st stg2 ?_
  have Ng2 := Fr.snoc Xg2 N0 g_r0
  have F := E_r0.wr Wg2
  have F_1 := F_r0_picks.other Wg2 (Or.inr (slot_ne (Or.inl (hw _ (List.mem_of_getElem? (i := 19) rfl))) (Or.inl (hw _ (List.mem_of_getElem? (i := 29) rfl))) (by decide) (t := .long) (t' := .boolean) (by decide) (by decide)))
  have F_2 := F_r0_steady.other Wg2 (Or.inr (slot_ne (Or.inl (hw _ (List.mem_of_getElem? (i := 17) rfl))) (Or.inl (hw _ (List.mem_of_getElem? (i := 29) rfl))) (by decide) (t := .boolean) (t' := .boolean) (by decide) (by decide)))
  have F_3 := F_r0_taking.other Wg2 (Or.inr (slot_ne (Or.inl (hw _ (List.mem_of_getElem? (i := 33) rfl))) (Or.inl (hw _ (List.mem_of_getElem? (i := 29) rfl))) (by decide) (t := .int) (t' := .boolean) (by decide) (by decide)))
  have F_4 := F_r0_began.other Wg2 (Or.inr (slot_ne (Or.inl (hw _ (List.mem_of_getElem? (i := 25) rfl))) (Or.inl (hw _ (List.mem_of_getElem? (i := 29) rfl))) (by decide) (t := .long) (t' := .boolean) (by decide) (by decide)))
  have F_5 := F_r0_made.other Wg2 (Or.inr (slot_ne (Or.inl (hw _ (List.mem_of_getElem? (i := 27) rfl))) (Or.inl (hw _ (List.mem_of_getElem? (i := 29) rfl))) (by decide) (t := .long) (t' := .boolean) (by decide) (by decide)))
  have F_6 := F_r0_total.other Wg2 (Or.inr (slot_ne (Or.inl (hw _ (List.mem_of_getElem? (i := 31) rfl))) (Or.inl (hw _ (List.mem_of_getElem? (i := 29) rfl))) (by decide) (t := .long) (t' := .boolean) (by decide) (by decide)))
  have F_7 := F_r0_holding.same Wg2
  have Zz : n0 ≤ hg2.size := Nat.le_trans Z0 (Keep.of_wr Wg2).1
  have Kc := (Keep.refl h0 [r0]).wr Wg2 (Or.inl (List.mem_of_getElem? (i := 0) rfl))
  obtain ⟨fs, hr, hrun, hended, hW, hsame⟩ := Xg2.leave (v := none) (fun _ => rfl)
  have hend : Steps p.tables e below (Tg2.setTop (mkF m 5 #[.val (.ref r0)] [])) (Tg2.setFrames fs) := by
    exact Xg2.returnOut hx Bd.returns (hb hby own_d12_5) hr
  refine own_fin hend ⟨_, hrun, hended, _, _, rfl, ?_, ⟨_, rfl⟩, hW, hsame.mono (by decide) (by decide)⟩
  show own_Q12 Z r0 w_p W_s w_k w_b w_m w_t W_h h0 n0 _ Tg2.heap _
  rw [eg2]
  exact ⟨rfl, Ng2, Kc, F, F_1, F_2, F_3, F_4, F_5, F_6, F_7⟩
theorem own_d9_0 : decode prog_34_method_8_code 0 = .ok (.aload_n 0, 1) := by decide +kernel
theorem own_d9_1 : decode prog_34_method_8_code 1 = .ok (.getfield 39, 3) := by decide +kernel
theorem own_d9_4 : decode prog_34_method_8_code 4 = .ok (.lreturn, 1) := by decide +kernel
theorem own_ef9 (m : MethodId) (r0 : Addr) : entryFrame m #[(.ref r0)] 1 = mkF m 0 #[.val (.ref r0)] [] := by first | (simp [entryFrame, mkF, argsToLocals, Value.category]; done) | rfl
def own_Q9 (Z : State) (r0 : Addr) (w_b : Int64) (h0 : Heap) (n0 : Nat) (v : Option Value) (h : Heap) (L : List Loc) : Prop := (v = some (.long w_b)) ∧ (Fr n0 L) ∧ (h = h0)
set_option maxRecDepth 65536 in
set_option maxHeartbeats 40000000 in
theorem own_rm9 (l : Launch) (Z : State) (a0 : Array Value) (hw : ∀ d ∈ tables_1, d.before a0 Z = true) (ws : List Jvm.Cond) (r0 : Addr) (w_b : Int64) (h0 : Heap) (n0 : Nat) (Z0 : n0 ≤ h0.size) (F_r0_began : Fld Z h0 r0 "com/example/evenkeel/evenkeel/FullCycles" "began" "J" (.long w_b)) :
    MetFree l (⟨"com/example/evenkeel/evenkeel/FullCycles", "cycle", "()J"⟩ : MethodName) (head1 (Jvm.Cond.code (⟨"com/example/evenkeel/evenkeel/FullCycles", "cycle", "()J"⟩ : MethodName) prog_34_method_8_code 1 (some .long) :: ws) ({ frames := 0, cells := 0, slots := 0, locals := 0 } : Room)) (fun a U => a = #[(.ref r0)] ∧ Z.Warmed39 U.vm ∧ U.heap = h0) (fun _ _ _ _ _ => True) (fun _ U o U' => ∃ v L, o = .returned v ∧ own_Q9 Z r0 w_b h0 n0 v U'.heap L ∧ FrameEnd U o U' L ({ frames := 0, cells := 0, slots := 0, locals := 0 } : Room).cells ({ frames := 0, cells := 0, slots := 0, locals := 0 } : Room).slots) := by
  refine MetFree.of_bodySF (plainFor_of_name own_pn0) hisR ?_
  intro p e s m args below meth c s₁ Bd hml0 hP hK
  obtain ⟨rfl, hZ, hh⟩ := hP
  have hx := Bd.exec
  have hby := Bd.bytes
  have hml : c.maxLocals = 1 := hml0
  have hown : s.vm.findClass "com/example/evenkeel/evenkeel/FullCycles" = some m.cls := findClass_of_methodNamed Bd.named
  have hnm := (name_of_methodNamed Bd.named Bd.method).1
  have X0 : Stand p l e ({ frames := 0, cells := 0, slots := 0, locals := 0 } : Room) s m #[(.ref r0)] below meth c s₁ [] 0 0 := Stand.of_body Bd
  have e0 : s₁.heap = h0 := by rw [← hh, Bd.state]; rfl
  have N0 := Fr.nil n0
  have pre0 : ∀ t, Steps p.tables e below (s₁.setTop (mkF m 0 #[.val (.ref r0)] [])) t → Steps p.tables e below (s₁.setTop (entryFrame m #[(.ref r0)] 1)) t := fun t k => castTop (own_ef9 m r0) k
  refine own_run (own_st pre0 ?_)
  refine own_st (B := s₁.setTop (mkF m 1 #[.val (.ref r0)] [(.ref r0)])) (fun target kt => ?_) ?_
  · show Steps p.tables e below (s₁.setTop (mkF m 0 #[.val (.ref r0)] [])) target
    refine XS.aloadN X0.here hx rfl (hb hby own_d9_0) rfl rfl ?_
    exact kt
  obtain ⟨Tg1, Xg1, eg1, stg1⟩ := getF X0 hx hZ hown (host := "") (Or.inl (hw _ (List.mem_of_getElem? (i := 24) rfl))) Via.refl e0 F_r0_began (g := (mkF m 1 #[.val (.ref r0)] [(.ref r0)])) rfl rfl (hb hby own_d9_1)
  refine own_st stg1 ?_
  obtain ⟨fs, hr, hrun, hended, hW, hsame⟩ := Xg1.leave (v := some (.long w_b)) (fun h => by rw [Bd.returns] at h; cases h)
  have hend : Steps p.tables e below (Tg1.setTop (mkF m 4 #[.val (.ref r0)] [(.long w_b)])) (Tg1.setFrames fs) := by
    exact own_retJ Xg1 hx Bd.returns (hb hby own_d9_4) hr
  refine own_fin hend ⟨_, hrun, hended, _, _, rfl, ?_, ⟨_, rfl⟩, hW, hsame.mono (by decide) (by decide)⟩
  show own_Q9 Z r0 w_b h0 n0 _ Tg1.heap _
  rw [eg1]
  exact ⟨(congrArg (fun z => some (Value.long z)) rfl), N0, rfl⟩
theorem own_d10_0 : decode prog_34_method_9_code 0 = .ok (.aload_n 0, 1) := by decide +kernel
theorem own_d10_1 : decode prog_34_method_9_code 1 = .ok (.getfield 33, 3) := by decide +kernel
theorem own_d10_4 : decode prog_34_method_9_code 4 = .ok (.aload_n 0, 1) := by decide +kernel
theorem own_d10_5 : decode prog_34_method_9_code 5 = .ok (.getfield 42, 3) := by decide +kernel
theorem own_d10_8 : decode prog_34_method_9_code 8 = .ok (.lsub, 1) := by decide +kernel
theorem own_d10_9 : decode prog_34_method_9_code 9 = .ok (.lreturn, 1) := by decide +kernel
theorem own_ef10 (m : MethodId) (r0 : Addr) : entryFrame m #[(.ref r0)] 1 = mkF m 0 #[.val (.ref r0)] [] := by first | (simp [entryFrame, mkF, argsToLocals, Value.category]; done) | rfl
def own_Q10 (Z : State) (r0 : Addr) (w_t : Int64) (w_m : Int64) (h0 : Heap) (n0 : Nat) (v : Option Value) (h : Heap) (L : List Loc) : Prop := (v = some (.long (w_t - w_m))) ∧ (Fr n0 L) ∧ (h = h0)
set_option maxRecDepth 65536 in
set_option maxHeartbeats 40000000 in
theorem own_rm10 (l : Launch) (Z : State) (a0 : Array Value) (hw : ∀ d ∈ tables_1, d.before a0 Z = true) (ws : List Jvm.Cond) (r0 : Addr) (w_t : Int64) (w_m : Int64) (h0 : Heap) (n0 : Nat) (Z0 : n0 ≤ h0.size) (F_r0_total : Fld Z h0 r0 "com/example/evenkeel/evenkeel/FullCycles" "total" "J" (.long w_t)) (F_r0_made : Fld Z h0 r0 "com/example/evenkeel/evenkeel/FullCycles" "made" "J" (.long w_m)) :
    MetFree l (⟨"com/example/evenkeel/evenkeel/FullCycles", "left", "()J"⟩ : MethodName) (head1 (Jvm.Cond.code (⟨"com/example/evenkeel/evenkeel/FullCycles", "left", "()J"⟩ : MethodName) prog_34_method_9_code 1 (some .long) :: ws) ({ frames := 0, cells := 0, slots := 0, locals := 0 } : Room)) (fun a U => a = #[(.ref r0)] ∧ Z.Warmed39 U.vm ∧ U.heap = h0) (fun _ _ _ _ _ => True) (fun _ U o U' => ∃ v L, o = .returned v ∧ own_Q10 Z r0 w_t w_m h0 n0 v U'.heap L ∧ FrameEnd U o U' L ({ frames := 0, cells := 0, slots := 0, locals := 0 } : Room).cells ({ frames := 0, cells := 0, slots := 0, locals := 0 } : Room).slots) := by
  refine MetFree.of_bodySF (plainFor_of_name own_pn0) hisR ?_
  intro p e s m args below meth c s₁ Bd hml0 hP hK
  obtain ⟨rfl, hZ, hh⟩ := hP
  have hx := Bd.exec
  have hby := Bd.bytes
  have hml : c.maxLocals = 1 := hml0
  have hown : s.vm.findClass "com/example/evenkeel/evenkeel/FullCycles" = some m.cls := findClass_of_methodNamed Bd.named
  have hnm := (name_of_methodNamed Bd.named Bd.method).1
  have X0 : Stand p l e ({ frames := 0, cells := 0, slots := 0, locals := 0 } : Room) s m #[(.ref r0)] below meth c s₁ [] 0 0 := Stand.of_body Bd
  have e0 : s₁.heap = h0 := by rw [← hh, Bd.state]; rfl
  have N0 := Fr.nil n0
  have pre0 : ∀ t, Steps p.tables e below (s₁.setTop (mkF m 0 #[.val (.ref r0)] [])) t → Steps p.tables e below (s₁.setTop (entryFrame m #[(.ref r0)] 1)) t := fun t k => castTop (own_ef10 m r0) k
  refine own_run (own_st pre0 ?_)
  refine own_st (B := s₁.setTop (mkF m 1 #[.val (.ref r0)] [(.ref r0)])) (fun target kt => ?_) ?_
  · show Steps p.tables e below (s₁.setTop (mkF m 0 #[.val (.ref r0)] [])) target
    refine XS.aloadN X0.here hx rfl (hb hby own_d10_0) rfl rfl ?_
    exact kt
  obtain ⟨Tg1, Xg1, eg1, stg1⟩ := getF X0 hx hZ hown (host := "") (Or.inl (hw _ (List.mem_of_getElem? (i := 30) rfl))) Via.refl e0 F_r0_total (g := (mkF m 1 #[.val (.ref r0)] [(.ref r0)])) rfl rfl (hb hby own_d10_1)
  refine own_st stg1 ?_
  refine own_st (B := Tg1.setTop (mkF m 5 #[.val (.ref r0)] [(.ref r0), (.long w_t)])) (fun target kt => ?_) ?_
  · show Steps p.tables e below (Tg1.setTop (mkF m 4 #[.val (.ref r0)] [(.long w_t)])) target
    refine XS.aloadN Xg1.here hx rfl (hb hby own_d10_4) rfl rfl ?_
    exact kt
  obtain ⟨Tg5, Xg5, eg5, stg5⟩ := getF Xg1 hx hZ hown (host := "") (Or.inl (hw _ (List.mem_of_getElem? (i := 26) rfl))) Via.refl eg1 F_r0_made (g := (mkF m 5 #[.val (.ref r0)] [(.ref r0), (.long w_t)])) rfl rfl (hb hby own_d10_5)
  refine own_st stg5 ?_
  refine own_st (B := Tg5.setTop (mkF m 9 #[.val (.ref r0)] [(.long (w_t - w_m))])) (fun target kt => ?_) ?_
  · show Steps p.tables e below (Tg5.setTop (mkF m 8 #[.val (.ref r0)] [(.long w_m), (.long w_t)])) target
    refine XS.lsub Xg5.here hx rfl (hb hby own_d10_8) rfl ?_
    exact kt
  obtain ⟨fs, hr, hrun, hended, hW, hsame⟩ := Xg5.leave (v := some (.long (w_t - w_m))) (fun h => by rw [Bd.returns] at h; cases h)
  have hend : Steps p.tables e below (Tg5.setTop (mkF m 9 #[.val (.ref r0)] [(.long (w_t - w_m))])) (Tg5.setFrames fs) := by
    exact own_retJ Xg5 hx Bd.returns (hb hby own_d10_9) hr
  refine own_fin hend ⟨_, hrun, hended, _, _, rfl, ?_, ⟨_, rfl⟩, hW, hsame.mono (by decide) (by decide)⟩
  show own_Q10 Z r0 w_t w_m h0 n0 _ Tg5.heap _
  rw [eg5]
  exact ⟨(congrArg (fun z => some (Value.long z)) rfl), N0, rfl⟩
theorem own_d11_0 : decode prog_34_method_5_code 0 = .ok (.aload_n 0, 1) := by decide +kernel
theorem own_d11_1 : decode prog_34_method_5_code 1 = .ok (.getfield 36, 3) := by decide +kernel
theorem own_d11_4 : decode prog_34_method_5_code 4 = .ok (.ireturn, 1) := by decide +kernel
theorem own_ef11 (m : MethodId) (r0 : Addr) : entryFrame m #[(.ref r0)] 1 = mkF m 0 #[.val (.ref r0)] [] := by first | (simp [entryFrame, mkF, argsToLocals, Value.category]; done) | rfl
def own_Q11 (Z : State) (r0 : Addr) (W_h : Prop) [Decidable W_h] (h0 : Heap) (n0 : Nat) (v : Option Value) (h : Heap) (L : List Loc) : Prop := (v = some (.int (own_b (W_h)))) ∧ (Fr n0 L) ∧ (h = h0)
set_option maxRecDepth 65536 in
set_option maxHeartbeats 40000000 in
theorem own_rm11 (l : Launch) (Z : State) (a0 : Array Value) (hw : ∀ d ∈ tables_1, d.before a0 Z = true) (ws : List Jvm.Cond) (r0 : Addr) (W_h : Prop) [Decidable W_h] (h0 : Heap) (n0 : Nat) (Z0 : n0 ≤ h0.size) (F_r0_holding : Fld Z h0 r0 "com/example/evenkeel/evenkeel/FullCycles" "holding" "Z" (.int (own_b W_h))) :
    MetFree l (⟨"com/example/evenkeel/evenkeel/FullCycles", "holds", "()Z"⟩ : MethodName) (head1 (Jvm.Cond.code (⟨"com/example/evenkeel/evenkeel/FullCycles", "holds", "()Z"⟩ : MethodName) prog_34_method_5_code 1 (some .boolean) :: ws) ({ frames := 0, cells := 0, slots := 0, locals := 0 } : Room)) (fun a U => a = #[(.ref r0)] ∧ Z.Warmed39 U.vm ∧ U.heap = h0) (fun _ _ _ _ _ => True) (fun _ U o U' => ∃ v L, o = .returned v ∧ own_Q11 Z r0 W_h h0 n0 v U'.heap L ∧ FrameEnd U o U' L ({ frames := 0, cells := 0, slots := 0, locals := 0 } : Room).cells ({ frames := 0, cells := 0, slots := 0, locals := 0 } : Room).slots) := by
  refine MetFree.of_bodySF (plainFor_of_name own_pn0) hisR ?_
  intro p e s m args below meth c s₁ Bd hml0 hP hK
  obtain ⟨rfl, hZ, hh⟩ := hP
  have hx := Bd.exec
  have hby := Bd.bytes
  have hml : c.maxLocals = 1 := hml0
  have hown : s.vm.findClass "com/example/evenkeel/evenkeel/FullCycles" = some m.cls := findClass_of_methodNamed Bd.named
  have hnm := (name_of_methodNamed Bd.named Bd.method).1
  have X0 : Stand p l e ({ frames := 0, cells := 0, slots := 0, locals := 0 } : Room) s m #[(.ref r0)] below meth c s₁ [] 0 0 := Stand.of_body Bd
  have e0 : s₁.heap = h0 := by rw [← hh, Bd.state]; rfl
  have N0 := Fr.nil n0
  have pre0 : ∀ t, Steps p.tables e below (s₁.setTop (mkF m 0 #[.val (.ref r0)] [])) t → Steps p.tables e below (s₁.setTop (entryFrame m #[(.ref r0)] 1)) t := fun t k => castTop (own_ef11 m r0) k
  refine own_run (own_st pre0 ?_)
  refine own_st (B := s₁.setTop (mkF m 1 #[.val (.ref r0)] [(.ref r0)])) (fun target kt => ?_) ?_
  · show Steps p.tables e below (s₁.setTop (mkF m 0 #[.val (.ref r0)] [])) target
    refine XS.aloadN X0.here hx rfl (hb hby own_d11_0) rfl rfl ?_
    exact kt
  obtain ⟨Tg1, Xg1, eg1, stg1⟩ := getF X0 hx hZ hown (host := "") (Or.inl (hw _ (List.mem_of_getElem? (i := 28) rfl))) Via.refl e0 F_r0_holding (g := (mkF m 1 #[.val (.ref r0)] [(.ref r0)])) rfl rfl (hb hby own_d11_1)
  refine own_st stg1 ?_
  obtain ⟨fs, hr, hrun, hended, hW, hsame⟩ := Xg1.leave (v := some (.int (nar .boolean (own_b W_h)))) (fun h => by rw [Bd.returns] at h; cases h)
  have hend : Steps p.tables e below (Tg1.setTop (mkF m 4 #[.val (.ref r0)] [(.int (own_b W_h))])) (Tg1.setFrames fs) := by
    exact retN Xg1 hx (t := .boolean) Bd.returns (by simp) (hb hby own_d11_4) hr
  refine own_fin hend ⟨_, hrun, hended, _, _, rfl, ?_, ⟨_, rfl⟩, hW, hsame.mono (by decide) (by decide)⟩
  show own_Q11 Z r0 W_h h0 n0 _ Tg1.heap _
  rw [eg1]
  exact ⟨(congrArg (fun z => some (Value.int z)) ((own_nar rfl).trans (own_bi ⟨fun w => w, fun w => w⟩))), N0, rfl⟩
theorem own_d8_0 : decode prog_34_method_3_code 0 = .ok (.aload_n 1, 1) := by decide +kernel
theorem own_d8_1 : decode prog_34_method_3_code 1 = .ok (.aload_n 0, 1) := by decide +kernel
theorem own_d8_2 : decode prog_34_method_3_code 2 = .ok (.getfield 13, 3) := by decide +kernel
theorem own_d8_5 : decode prog_34_method_3_code 5 = .ok (.putfield 7, 3) := by decide +kernel
theorem own_d8_8 : decode prog_34_method_3_code 8 = .ok (.aload_n 1, 1) := by decide +kernel
theorem own_d8_9 : decode prog_34_method_3_code 9 = .ok (.iload_n 2, 1) := by decide +kernel
theorem own_d8_10 : decode prog_34_method_3_code 10 = .ok (.putfield 18, 3) := by decide +kernel
theorem own_d8_13 : decode prog_34_method_3_code 13 = .ok (.return_, 1) := by decide +kernel
theorem own_ef8 (m : MethodId) (r0 : Addr) (r1 : Addr) (p2 : Int32) : entryFrame m #[(.ref r0), (.ref r1), (.int p2)] 3 = mkF m 0 #[.val (.ref r0), .val (.ref r1), .val (.int p2)] [] := by first | (simp [entryFrame, mkF, argsToLocals, Value.category]; done) | rfl
def own_Q8 (Z : State) (r0 : Addr) (r1 : Addr) (p2 : Int32) (w_p : Int64) (w_s : Int64) (w_w : Int32) (h0 : Heap) (n0 : Nat) (v : Option Value) (h : Heap) (L : List Loc) : Prop := (v = none) ∧ (Fr n0 L) ∧ (Keep h0 h [r1]) ∧ (Exa Z h r1 "com/example/evenkeel/evenkeel/CurrentValue") ∧ (Fld Z h r1 "com/example/evenkeel/evenkeel/CurrentValue" "seen" "J" (.long w_p)) ∧ (Fld Z h r1 "com/example/evenkeel/evenkeel/CurrentValue" "seenWeight" "I" (.int p2))
set_option maxRecDepth 65536 in
set_option maxHeartbeats 40000000 in
theorem own_rm8 (l : Launch) (Z : State) (a0 : Array Value) (hw : ∀ d ∈ tables_1, d.before a0 Z = true) (ws : List Jvm.Cond) (r0 : Addr) (r1 : Addr) (p2 : Int32) (w_p : Int64) (w_s : Int64) (w_w : Int32) (h0 : Heap) (n0 : Nat) (Z0 : n0 ≤ h0.size) (F_r0_picks : Fld Z h0 r0 "com/example/evenkeel/evenkeel/FullCycles" "picks" "J" (.long w_p)) (E_r1 : Exa Z h0 r1 "com/example/evenkeel/evenkeel/CurrentValue") (F_r1_seen : Fld Z h0 r1 "com/example/evenkeel/evenkeel/CurrentValue" "seen" "J" (.long w_s)) (F_r1_seenWeight : Fld Z h0 r1 "com/example/evenkeel/evenkeel/CurrentValue" "seenWeight" "I" (.int w_w)) (g_r1 : n0 ≤ r1) (ne_r0_r1 : r0 ≠ r1) :
    MetFree l (⟨"com/example/evenkeel/evenkeel/FullCycles", "tookPart", "(Lcom/example/evenkeel/evenkeel/CurrentValue;I)V"⟩ : MethodName) (head1 (Jvm.Cond.code (⟨"com/example/evenkeel/evenkeel/FullCycles", "tookPart", "(Lcom/example/evenkeel/evenkeel/CurrentValue;I)V"⟩ : MethodName) prog_34_method_3_code 3 none :: ws) ({ frames := 0, cells := 0, slots := 0, locals := 0 } : Room)) (fun a U => a = #[(.ref r0), (.ref r1), (.int p2)] ∧ Z.Warmed39 U.vm ∧ U.heap = h0) (fun _ _ _ _ _ => True) (fun _ U o U' => ∃ v L, o = .returned v ∧ own_Q8 Z r0 r1 p2 w_p w_s w_w h0 n0 v U'.heap L ∧ FrameEnd U o U' L ({ frames := 0, cells := 0, slots := 0, locals := 0 } : Room).cells ({ frames := 0, cells := 0, slots := 0, locals := 0 } : Room).slots) := by
  refine MetFree.of_bodySF (plainFor_of_name own_pn0) hisR ?_
  intro p e s m args below meth c s₁ Bd hml0 hP hK
  obtain ⟨rfl, hZ, hh⟩ := hP
  have hx := Bd.exec
  have hby := Bd.bytes
  have hml : c.maxLocals = 3 := hml0
  have hown : s.vm.findClass "com/example/evenkeel/evenkeel/FullCycles" = some m.cls := findClass_of_methodNamed Bd.named
  have hnm := (name_of_methodNamed Bd.named Bd.method).1
  have X0 : Stand p l e ({ frames := 0, cells := 0, slots := 0, locals := 0 } : Room) s m #[(.ref r0), (.ref r1), (.int p2)] below meth c s₁ [] 0 0 := Stand.of_body Bd
  have e0 : s₁.heap = h0 := by rw [← hh, Bd.state]; rfl
  have N0 := Fr.nil n0
  have pre0 : ∀ t, Steps p.tables e below (s₁.setTop (mkF m 0 #[.val (.ref r0), .val (.ref r1), .val (.int p2)] [])) t → Steps p.tables e below (s₁.setTop (entryFrame m #[(.ref r0), (.ref r1), (.int p2)] 3)) t := fun t k => castTop (own_ef8 m r0 r1 p2) k
  refine own_run (own_st pre0 ?_)
  refine own_st (B := s₁.setTop (mkF m 2 #[.val (.ref r0), .val (.ref r1), .val (.int p2)] [(.ref r0), (.ref r1)])) (fun target kt => ?_) ?_
  · show Steps p.tables e below (s₁.setTop (mkF m 0 #[.val (.ref r0), .val (.ref r1), .val (.int p2)] [])) target
    refine XS.aloadN X0.here hx rfl (hb hby own_d8_0) rfl rfl ?_
    show Steps p.tables e below (s₁.setTop (mkF m 1 #[.val (.ref r0), .val (.ref r1), .val (.int p2)] [(.ref r1)])) target
    refine XS.aloadN X0.here hx rfl (hb hby own_d8_1) rfl rfl ?_
    exact kt
  obtain ⟨Tg2, Xg2, eg2, stg2⟩ := getF X0 hx hZ hown (host := "") (Or.inl (hw _ (List.mem_of_getElem? (i := 18) rfl))) Via.refl e0 F_r0_picks (g := (mkF m 2 #[.val (.ref r0), .val (.ref r1), .val (.int p2)] [(.ref r0), (.ref r1)])) rfl rfl (hb hby own_d8_2)
  refine own_st stg2 ?_
  obtain ⟨Tg5, hg5, Xg5, eg5, Wg5, stg5⟩ := putF Xg2 hx hZ hown (host := "") (Or.inl (hw _ (List.mem_of_getElem? (i := 56) rfl))) Via.refl eg2 F_r1_seen E_r1 (Or.inl (hw _ (List.mem_of_getElem? (i := 57) rfl))) (hw _ (List.mem_of_getElem? (i := 45) rfl)) (ty := .long) (by decide) rfl rfl (g := (mkF m 5 #[.val (.ref r0), .val (.ref r1), .val (.int p2)] [(.long w_p), (.ref r1)])) rfl rfl (hb hby own_d8_5)
  refine own_st stg5 ?_
  have Ng5 := Fr.snoc Xg5 N0 g_r1
  have F := F_r0_picks.other Wg5 (Or.inl ne_r0_r1)
  have F_1 := E_r1.wr Wg5
  have F_2 := F_r1_seen.same Wg5
  have F_3 := F_r1_seenWeight.other Wg5 (Or.inr (slot_ne (Or.inl (hw _ (List.mem_of_getElem? (i := 59) rfl))) (Or.inl (hw _ (List.mem_of_getElem? (i := 57) rfl))) (by decide) (t := .int) (t' := .long) (by decide) (by decide)))
  have Zz : n0 ≤ hg5.size := Nat.le_trans Z0 (Keep.of_wr Wg5).1
  have Kc := (Keep.refl h0 [r1]).wr Wg5 (Or.inl (List.mem_of_getElem? (i := 0) rfl))
  refine own_st (B := Tg5.setTop (mkF m 10 #[.val (.ref r0), .val (.ref r1), .val (.int p2)] [(.int p2), (.ref r1)])) (fun target kt => ?_) ?_
  · show Steps p.tables e below (Tg5.setTop (mkF m 8 #[.val (.ref r0), .val (.ref r1), .val (.int p2)] [])) target
    refine XS.aloadN Xg5.here hx rfl (hb hby own_d8_8) rfl rfl ?_
    show Steps p.tables e below (Tg5.setTop (mkF m 9 #[.val (.ref r0), .val (.ref r1), .val (.int p2)] [(.ref r1)])) target
    refine XS.iloadN Xg5.here hx rfl (hb hby own_d8_9) rfl ?_
    exact kt
  obtain ⟨Tg10, hg10, Xg10, eg10, Wg10, stg10⟩ := putF Xg5 hx hZ hown (host := "") (Or.inl (hw _ (List.mem_of_getElem? (i := 58) rfl))) Via.refl eg5 F_3 F_1 (Or.inl (hw _ (List.mem_of_getElem? (i := 59) rfl))) (hw _ (List.mem_of_getElem? (i := 45) rfl)) (ty := .int) (by decide) rfl rfl (g := (mkF m 10 #[.val (.ref r0), .val (.ref r1), .val (.int p2)] [(.int p2), (.ref r1)])) rfl rfl (hb hby own_d8_10)
  refine own_st stg10 ?_
  have Ng10 := Fr.snoc Xg10 Ng5 g_r1
  have F_4 := F.other Wg10 (Or.inl ne_r0_r1)
  have F_5 := F_1.wr Wg10
  have F_6 := F_2.other Wg10 (Or.inr (slot_ne (Or.inl (hw _ (List.mem_of_getElem? (i := 57) rfl))) (Or.inl (hw _ (List.mem_of_getElem? (i := 59) rfl))) (by decide) (t := .long) (t' := .int) (by decide) (by decide)))
  have F_7 := F_3.same Wg10
  have Zz_1 : n0 ≤ hg10.size := Nat.le_trans Zz (Keep.of_wr Wg10).1
  have Kc_1 := Kc.wr Wg10 (Or.inl (List.mem_of_getElem? (i := 0) rfl))
  obtain ⟨fs, hr, hrun, hended, hW, hsame⟩ := Xg10.leave (v := none) (fun _ => rfl)
  have hend : Steps p.tables e below (Tg10.setTop (mkF m 13 #[.val (.ref r0), .val (.ref r1), .val (.int p2)] [])) (Tg10.setFrames fs) := by
    exact Xg10.returnOut hx Bd.returns (hb hby own_d8_13) hr
  refine own_fin hend ⟨_, hrun, hended, _, _, rfl, ?_, ⟨_, rfl⟩, hW, hsame.mono (by decide) (by decide)⟩
  show own_Q8 Z r0 r1 p2 w_p w_s w_w h0 n0 _ Tg10.heap _
  rw [eg10]
  exact ⟨rfl, Ng10, Kc_1, F_5, F_6, F_7⟩
theorem own_d6_0 : decode prog_34_method_12_code 0 = .ok (.aload_n 0, 1) := by decide +kernel
theorem own_d6_1 : decode prog_34_method_12_code 1 = .ok (.dup, 1) := by decide +kernel
theorem own_d6_2 : decode prog_34_method_12_code 2 = .ok (.getfield 13, 3) := by decide +kernel
theorem own_d6_5 : decode prog_34_method_12_code 5 = .ok (.lconst 1, 1) := by decide +kernel
theorem own_d6_6 : decode prog_34_method_12_code 6 = .ok (.ladd, 1) := by decide +kernel
theorem own_d6_7 : decode prog_34_method_12_code 7 = .ok (.putfield 13, 3) := by decide +kernel
theorem own_d6_10 : decode prog_34_method_12_code 10 = .ok (.aload_n 0, 1) := by decide +kernel
theorem own_d6_11 : decode prog_34_method_12_code 11 = .ok (.dup, 1) := by decide +kernel
theorem own_d6_12 : decode prog_34_method_12_code 12 = .ok (.getfield 42, 3) := by decide +kernel
theorem own_d6_15 : decode prog_34_method_12_code 15 = .ok (.lconst 1, 1) := by decide +kernel
theorem own_d6_16 : decode prog_34_method_12_code 16 = .ok (.ladd, 1) := by decide +kernel
theorem own_d6_17 : decode prog_34_method_12_code 17 = .ok (.putfield 42, 3) := by decide +kernel
theorem own_d6_20 : decode prog_34_method_12_code 20 = .ok (.aload_n 0, 1) := by decide +kernel
theorem own_d6_21 : decode prog_34_method_12_code 21 = .ok (.getfield 42, 3) := by decide +kernel
theorem own_d6_24 : decode prog_34_method_12_code 24 = .ok (.aload_n 0, 1) := by decide +kernel
theorem own_d6_25 : decode prog_34_method_12_code 25 = .ok (.getfield 33, 3) := by decide +kernel
theorem own_d6_28 : decode prog_34_method_12_code 28 = .ok (.lsub, 1) := by decide +kernel
theorem own_d6_29 : decode prog_34_method_12_code 29 = .ok (.bipush 63, 2) := by decide +kernel
theorem own_d6_31 : decode prog_34_method_12_code 31 = .ok (.lushr, 1) := by decide +kernel
theorem own_d6_32 : decode prog_34_method_12_code 32 = .ok (.lstore_n 1, 1) := by decide +kernel
theorem own_d6_33 : decode prog_34_method_12_code 33 = .ok (.aload_n 0, 1) := by decide +kernel
theorem own_d6_34 : decode prog_34_method_12_code 34 = .ok (.dup, 1) := by decide +kernel
theorem own_d6_35 : decode prog_34_method_12_code 35 = .ok (.getfield 39, 3) := by decide +kernel
theorem own_d6_38 : decode prog_34_method_12_code 38 = .ok (.aload_n 0, 1) := by decide +kernel
theorem own_d6_39 : decode prog_34_method_12_code 39 = .ok (.getfield 13, 3) := by decide +kernel
theorem own_d6_42 : decode prog_34_method_12_code 42 = .ok (.lconst 1, 1) := by decide +kernel
theorem own_d6_43 : decode prog_34_method_12_code 43 = .ok (.ladd, 1) := by decide +kernel
theorem own_d6_44 : decode prog_34_method_12_code 44 = .ok (.aload_n 0, 1) := by decide +kernel
theorem own_d6_45 : decode prog_34_method_12_code 45 = .ok (.getfield 39, 3) := by decide +kernel
theorem own_d6_48 : decode prog_34_method_12_code 48 = .ok (.lsub, 1) := by decide +kernel
theorem own_d6_49 : decode prog_34_method_12_code 49 = .ok (.lconst 1, 1) := by decide +kernel
theorem own_d6_50 : decode prog_34_method_12_code 50 = .ok (.lload_n 1, 1) := by decide +kernel
theorem own_d6_51 : decode prog_34_method_12_code 51 = .ok (.lsub, 1) := by decide +kernel
theorem own_d6_52 : decode prog_34_method_12_code 52 = .ok (.lmul, 1) := by decide +kernel
theorem own_d6_53 : decode prog_34_method_12_code 53 = .ok (.ladd, 1) := by decide +kernel
theorem own_d6_54 : decode prog_34_method_12_code 54 = .ok (.putfield 39, 3) := by decide +kernel
theorem own_d6_57 : decode prog_34_method_12_code 57 = .ok (.aload_n 0, 1) := by decide +kernel
theorem own_d6_58 : decode prog_34_method_12_code 58 = .ok (.dup, 1) := by decide +kernel
theorem own_d6_59 : decode prog_34_method_12_code 59 = .ok (.getfield 42, 3) := by decide +kernel
theorem own_d6_62 : decode prog_34_method_12_code 62 = .ok (.lload_n 1, 1) := by decide +kernel
theorem own_d6_63 : decode prog_34_method_12_code 63 = .ok (.lmul, 1) := by decide +kernel
theorem own_d6_64 : decode prog_34_method_12_code 64 = .ok (.putfield 42, 3) := by decide +kernel
theorem own_d6_67 : decode prog_34_method_12_code 67 = .ok (.aload_n 0, 1) := by decide +kernel
theorem own_d6_68 : decode prog_34_method_12_code 68 = .ok (.dup, 1) := by decide +kernel
theorem own_d6_69 : decode prog_34_method_12_code 69 = .ok (.getfield 36, 3) := by decide +kernel
theorem own_d6_72 : decode prog_34_method_12_code 72 = .ok (.lload_n 1, 1) := by decide +kernel
theorem own_d6_73 : decode prog_34_method_12_code 73 = .ok (.lconst 0, 1) := by decide +kernel
theorem own_d6_74 : decode prog_34_method_12_code 74 = .ok (.lcmp, 1) := by decide +kernel
theorem own_d6_75 : decode prog_34_method_12_code 75 = .ok (.ifCond .ne 7, 3) := by decide +kernel
theorem own_d6_78 : decode prog_34_method_12_code 78 = .ok (.iconst 1, 1) := by decide +kernel
theorem own_d6_79 : decode prog_34_method_12_code 79 = .ok (.goto 4, 3) := by decide +kernel
theorem own_d6_82 : decode prog_34_method_12_code 82 = .ok (.iconst 0, 1) := by decide +kernel
theorem own_d6_83 : decode prog_34_method_12_code 83 = .ok (.ior, 1) := by decide +kernel
theorem own_d6_84 : decode prog_34_method_12_code 84 = .ok (.putfield 36, 3) := by decide +kernel
theorem own_d6_87 : decode prog_34_method_12_code 87 = .ok (.lload_n 1, 1) := by decide +kernel
theorem own_d6_88 : decode prog_34_method_12_code 88 = .ok (.lconst 0, 1) := by decide +kernel
theorem own_d6_89 : decode prog_34_method_12_code 89 = .ok (.lcmp, 1) := by decide +kernel
theorem own_d6_90 : decode prog_34_method_12_code 90 = .ok (.ifCond .ne 7, 3) := by decide +kernel
theorem own_d6_93 : decode prog_34_method_12_code 93 = .ok (.iconst 1, 1) := by decide +kernel
theorem own_d6_94 : decode prog_34_method_12_code 94 = .ok (.goto 4, 3) := by decide +kernel
theorem own_d6_97 : decode prog_34_method_12_code 97 = .ok (.iconst 0, 1) := by decide +kernel
theorem own_d6_98 : decode prog_34_method_12_code 98 = .ok (.ireturn, 1) := by decide +kernel
theorem own_ef6 (m : MethodId) (r0 : Addr) : entryFrame m #[(.ref r0)] 3 = mkF m 0 #[.val (.ref r0), .unset, .unset] [] := by first | (simp [entryFrame, mkF, argsToLocals, Value.category]; done) | rfl
def own_Q6 (Z : State) (r0 : Addr) (w_p : Int64) (W_s : Prop) [Decidable W_s] (w_k : Int32) (w_b : Int64) (w_m : Int64) (w_t : Int64) (W_h : Prop) [Decidable W_h] (h0 : Heap) (n0 : Nat) (v : Option Value) (h : Heap) (L : List Loc) : Prop := (v = some (.int (own_b (((((((w_m + (1 : Int64))) - w_t).toUInt64 >>> ((63 : Int32) &&& 0x3f).toInt64.toUInt64).toInt64)) = (0 : Int64))))) ∧ (Fr n0 L) ∧ (Keep h0 h [r0]) ∧ (Exa Z h r0 "com/example/evenkeel/evenkeel/FullCycles") ∧ (Fld Z h r0 "com/example/evenkeel/evenkeel/FullCycles" "picks" "J" (.long ((w_p + (1 : Int64))))) ∧ (Fld Z h r0 "com/example/evenkeel/evenkeel/FullCycles" "steady" "Z" (.int (own_b W_s))) ∧ (Fld Z h r0 "com/example/evenkeel/evenkeel/FullCycles" "taking" "I" (.int w_k)) ∧ (Fld Z h r0 "com/example/evenkeel/evenkeel/FullCycles" "began" "J" (.long ((w_b + (((((w_p + (1 : Int64))) + (1 : Int64)) - w_b) * ((1 : Int64) - ((((((w_m + (1 : Int64))) - w_t).toUInt64 >>> ((63 : Int32) &&& 0x3f).toInt64.toUInt64).toInt64)))))))) ∧ (Fld Z h r0 "com/example/evenkeel/evenkeel/FullCycles" "made" "J" (.long ((((w_m + (1 : Int64))) * ((((((w_m + (1 : Int64))) - w_t).toUInt64 >>> ((63 : Int32) &&& 0x3f).toInt64.toUInt64).toInt64)))))) ∧ (Fld Z h r0 "com/example/evenkeel/evenkeel/FullCycles" "total" "J" (.long w_t)) ∧ (Fld Z h r0 "com/example/evenkeel/evenkeel/FullCycles" "holding" "Z" (.int (own_b ((W_h) ∨ (((((((w_m + (1 : Int64))) - w_t).toUInt64 >>> ((63 : Int32) &&& 0x3f).toInt64.toUInt64).toInt64)) = (0 : Int64))))))
set_option maxRecDepth 65536 in
set_option maxHeartbeats 40000000 in
theorem own_rm6 (l : Launch) (Z : State) (a0 : Array Value) (hw : ∀ d ∈ tables_1, d.before a0 Z = true) (ws : List Jvm.Cond) (r0 : Addr) (w_p : Int64) (W_s : Prop) [Decidable W_s] (w_k : Int32) (w_b : Int64) (w_m : Int64) (w_t : Int64) (W_h : Prop) [Decidable W_h] (h0 : Heap) (n0 : Nat) (Z0 : n0 ≤ h0.size) (E_r0 : Exa Z h0 r0 "com/example/evenkeel/evenkeel/FullCycles") (F_r0_picks : Fld Z h0 r0 "com/example/evenkeel/evenkeel/FullCycles" "picks" "J" (.long w_p)) (F_r0_steady : Fld Z h0 r0 "com/example/evenkeel/evenkeel/FullCycles" "steady" "Z" (.int (own_b W_s))) (F_r0_taking : Fld Z h0 r0 "com/example/evenkeel/evenkeel/FullCycles" "taking" "I" (.int w_k)) (F_r0_began : Fld Z h0 r0 "com/example/evenkeel/evenkeel/FullCycles" "began" "J" (.long w_b)) (F_r0_made : Fld Z h0 r0 "com/example/evenkeel/evenkeel/FullCycles" "made" "J" (.long w_m)) (F_r0_total : Fld Z h0 r0 "com/example/evenkeel/evenkeel/FullCycles" "total" "J" (.long w_t)) (F_r0_holding : Fld Z h0 r0 "com/example/evenkeel/evenkeel/FullCycles" "holding" "Z" (.int (own_b W_h))) (g_r0 : n0 ≤ r0) :
    MetFree l (⟨"com/example/evenkeel/evenkeel/FullCycles", "picked", "()Z"⟩ : MethodName) (head1 (Jvm.Cond.code (⟨"com/example/evenkeel/evenkeel/FullCycles", "picked", "()Z"⟩ : MethodName) prog_34_method_12_code 3 (some .boolean) :: ws) ({ frames := 0, cells := 0, slots := 0, locals := 0 } : Room)) (fun a U => a = #[(.ref r0)] ∧ Z.Warmed39 U.vm ∧ U.heap = h0) (fun _ _ _ _ _ => True) (fun _ U o U' => ∃ v L, o = .returned v ∧ own_Q6 Z r0 w_p W_s w_k w_b w_m w_t W_h h0 n0 v U'.heap L ∧ FrameEnd U o U' L ({ frames := 0, cells := 0, slots := 0, locals := 0 } : Room).cells ({ frames := 0, cells := 0, slots := 0, locals := 0 } : Room).slots) := by
  refine MetFree.of_bodySF (plainFor_of_name own_pn0) hisR ?_
  intro p e s m args below meth c s₁ Bd hml0 hP hK
  obtain ⟨rfl, hZ, hh⟩ := hP
  have hx := Bd.exec
  have hby := Bd.bytes
  have hml : c.maxLocals = 3 := hml0
  have hown : s.vm.findClass "com/example/evenkeel/evenkeel/FullCycles" = some m.cls := findClass_of_methodNamed Bd.named
  have hnm := (name_of_methodNamed Bd.named Bd.method).1
  have X0 : Stand p l e ({ frames := 0, cells := 0, slots := 0, locals := 0 } : Room) s m #[(.ref r0)] below meth c s₁ [] 0 0 := Stand.of_body Bd
  have e0 : s₁.heap = h0 := by rw [← hh, Bd.state]; rfl
  have N0 := Fr.nil n0
  have pre0 : ∀ t, Steps p.tables e below (s₁.setTop (mkF m 0 #[.val (.ref r0), .unset, .unset] [])) t → Steps p.tables e below (s₁.setTop (entryFrame m #[(.ref r0)] 3)) t := fun t k => castTop (own_ef6 m r0) k
  refine own_run (own_st pre0 ?_)
  refine own_st (B := s₁.setTop (mkF m 2 #[.val (.ref r0), .unset, .unset] [(.ref r0), (.ref r0)])) (fun target kt => ?_) ?_
  · show Steps p.tables e below (s₁.setTop (mkF m 0 #[.val (.ref r0), .unset, .unset] [])) target
    refine XS.aloadN X0.here hx rfl (hb hby own_d6_0) rfl rfl ?_
    show Steps p.tables e below (s₁.setTop (mkF m 1 #[.val (.ref r0), .unset, .unset] [(.ref r0)])) target
    refine XS.dup X0.here hx rfl (hb hby own_d6_1) rfl rfl ?_
    exact kt
  obtain ⟨Tg2, Xg2, eg2, stg2⟩ := getF X0 hx hZ hown (host := "") (Or.inl (hw _ (List.mem_of_getElem? (i := 18) rfl))) Via.refl e0 F_r0_picks (g := (mkF m 2 #[.val (.ref r0), .unset, .unset] [(.ref r0), (.ref r0)])) rfl rfl (hb hby own_d6_2)
  refine own_st stg2 ?_
  refine own_st (B := Tg2.setTop (mkF m 7 #[.val (.ref r0), .unset, .unset] [(.long (w_p + (1 : Int64))), (.ref r0)])) (fun target kt => ?_) ?_
  · show Steps p.tables e below (Tg2.setTop (mkF m 5 #[.val (.ref r0), .unset, .unset] [(.long w_p), (.ref r0)])) target
    refine XS.lconst Xg2.here hx rfl (hb hby own_d6_5) ?_
    show Steps p.tables e below (Tg2.setTop (mkF m 6 #[.val (.ref r0), .unset, .unset] [(.long (1 : Int64)), (.long w_p), (.ref r0)])) target
    refine XS.ladd Xg2.here hx rfl (hb hby own_d6_6) rfl ?_
    exact kt
  obtain ⟨Tg7, hg7, Xg7, eg7, Wg7, stg7⟩ := putF Xg2 hx hZ hown (host := "") (Or.inl (hw _ (List.mem_of_getElem? (i := 18) rfl))) Via.refl eg2 F_r0_picks E_r0 (Or.inl (hw _ (List.mem_of_getElem? (i := 19) rfl))) (hw _ (List.mem_of_getElem? (i := 2) rfl)) (ty := .long) (by decide) rfl rfl (g := (mkF m 7 #[.val (.ref r0), .unset, .unset] [(.long (w_p + (1 : Int64))), (.ref r0)])) rfl rfl (hb hby own_d6_7)
  refine own_st stg7 ?_
  have Ng7 := Fr.snoc Xg7 N0 g_r0
  have F := E_r0.wr Wg7
  have F_1 := F_r0_picks.same Wg7
  have F_2 := F_r0_steady.other Wg7 (Or.inr (slot_ne (Or.inl (hw _ (List.mem_of_getElem? (i := 17) rfl))) (Or.inl (hw _ (List.mem_of_getElem? (i := 19) rfl))) (by decide) (t := .boolean) (t' := .long) (by decide) (by decide)))
  have F_3 := F_r0_taking.other Wg7 (Or.inr (slot_ne (Or.inl (hw _ (List.mem_of_getElem? (i := 33) rfl))) (Or.inl (hw _ (List.mem_of_getElem? (i := 19) rfl))) (by decide) (t := .int) (t' := .long) (by decide) (by decide)))
  have F_4 := F_r0_began.other Wg7 (Or.inr (slot_ne (Or.inl (hw _ (List.mem_of_getElem? (i := 25) rfl))) (Or.inl (hw _ (List.mem_of_getElem? (i := 19) rfl))) (by decide) (t := .long) (t' := .long) (by decide) (by decide)))
  have F_5 := F_r0_made.other Wg7 (Or.inr (slot_ne (Or.inl (hw _ (List.mem_of_getElem? (i := 27) rfl))) (Or.inl (hw _ (List.mem_of_getElem? (i := 19) rfl))) (by decide) (t := .long) (t' := .long) (by decide) (by decide)))
  have F_6 := F_r0_total.other Wg7 (Or.inr (slot_ne (Or.inl (hw _ (List.mem_of_getElem? (i := 31) rfl))) (Or.inl (hw _ (List.mem_of_getElem? (i := 19) rfl))) (by decide) (t := .long) (t' := .long) (by decide) (by decide)))
  have F_7 := F_r0_holding.other Wg7 (Or.inr (slot_ne (Or.inl (hw _ (List.mem_of_getElem? (i := 29) rfl))) (Or.inl (hw _ (List.mem_of_getElem? (i := 19) rfl))) (by decide) (t := .boolean) (t' := .long) (by decide) (by decide)))
  have Zz : n0 ≤ hg7.size := Nat.le_trans Z0 (Keep.of_wr Wg7).1
  have Kc := (Keep.refl h0 [r0]).wr Wg7 (Or.inl (List.mem_of_getElem? (i := 0) rfl))
  obtain ⟨v7, hv7⟩ : ∃ z : Int64, z = (w_p + (1 : Int64)) := ⟨_, rfl⟩
  have F_8 : Fld Z hg7 r0 "com/example/evenkeel/evenkeel/FullCycles" "picks" "J" (.long v7) := by subst hv7; exact F_1
  refine own_st (B := Tg7.setTop (mkF m 12 #[.val (.ref r0), .unset, .unset] [(.ref r0), (.ref r0)])) (fun target kt => ?_) ?_
  · show Steps p.tables e below (Tg7.setTop (mkF m 10 #[.val (.ref r0), .unset, .unset] [])) target
    refine XS.aloadN Xg7.here hx rfl (hb hby own_d6_10) rfl rfl ?_
    show Steps p.tables e below (Tg7.setTop (mkF m 11 #[.val (.ref r0), .unset, .unset] [(.ref r0)])) target
    refine XS.dup Xg7.here hx rfl (hb hby own_d6_11) rfl rfl ?_
    exact kt
  obtain ⟨Tg12, Xg12, eg12, stg12⟩ := getF Xg7 hx hZ hown (host := "") (Or.inl (hw _ (List.mem_of_getElem? (i := 26) rfl))) Via.refl eg7 F_5 (g := (mkF m 12 #[.val (.ref r0), .unset, .unset] [(.ref r0), (.ref r0)])) rfl rfl (hb hby own_d6_12)
  refine own_st stg12 ?_
  refine own_st (B := Tg12.setTop (mkF m 17 #[.val (.ref r0), .unset, .unset] [(.long (w_m + (1 : Int64))), (.ref r0)])) (fun target kt => ?_) ?_
  · show Steps p.tables e below (Tg12.setTop (mkF m 15 #[.val (.ref r0), .unset, .unset] [(.long w_m), (.ref r0)])) target
    refine XS.lconst Xg12.here hx rfl (hb hby own_d6_15) ?_
    show Steps p.tables e below (Tg12.setTop (mkF m 16 #[.val (.ref r0), .unset, .unset] [(.long (1 : Int64)), (.long w_m), (.ref r0)])) target
    refine XS.ladd Xg12.here hx rfl (hb hby own_d6_16) rfl ?_
    exact kt
  obtain ⟨Tg17, hg17, Xg17, eg17, Wg17, stg17⟩ := putF Xg12 hx hZ hown (host := "") (Or.inl (hw _ (List.mem_of_getElem? (i := 26) rfl))) Via.refl eg12 F_5 F (Or.inl (hw _ (List.mem_of_getElem? (i := 27) rfl))) (hw _ (List.mem_of_getElem? (i := 2) rfl)) (ty := .long) (by decide) rfl rfl (g := (mkF m 17 #[.val (.ref r0), .unset, .unset] [(.long (w_m + (1 : Int64))), (.ref r0)])) rfl rfl (hb hby own_d6_17)
  refine own_st stg17 ?_
  have Ng17 := Fr.snoc Xg17 Ng7 g_r0
  have F_9 := F.wr Wg17
  have F_10 := F_8.other Wg17 (Or.inr (slot_ne (Or.inl (hw _ (List.mem_of_getElem? (i := 19) rfl))) (Or.inl (hw _ (List.mem_of_getElem? (i := 27) rfl))) (by decide) (t := .long) (t' := .long) (by decide) (by decide)))
  have F_11 := F_2.other Wg17 (Or.inr (slot_ne (Or.inl (hw _ (List.mem_of_getElem? (i := 17) rfl))) (Or.inl (hw _ (List.mem_of_getElem? (i := 27) rfl))) (by decide) (t := .boolean) (t' := .long) (by decide) (by decide)))
  have F_12 := F_3.other Wg17 (Or.inr (slot_ne (Or.inl (hw _ (List.mem_of_getElem? (i := 33) rfl))) (Or.inl (hw _ (List.mem_of_getElem? (i := 27) rfl))) (by decide) (t := .int) (t' := .long) (by decide) (by decide)))
  have F_13 := F_4.other Wg17 (Or.inr (slot_ne (Or.inl (hw _ (List.mem_of_getElem? (i := 25) rfl))) (Or.inl (hw _ (List.mem_of_getElem? (i := 27) rfl))) (by decide) (t := .long) (t' := .long) (by decide) (by decide)))
  have F_14 := F_5.same Wg17
  have F_15 := F_6.other Wg17 (Or.inr (slot_ne (Or.inl (hw _ (List.mem_of_getElem? (i := 31) rfl))) (Or.inl (hw _ (List.mem_of_getElem? (i := 27) rfl))) (by decide) (t := .long) (t' := .long) (by decide) (by decide)))
  have F_16 := F_7.other Wg17 (Or.inr (slot_ne (Or.inl (hw _ (List.mem_of_getElem? (i := 29) rfl))) (Or.inl (hw _ (List.mem_of_getElem? (i := 27) rfl))) (by decide) (t := .boolean) (t' := .long) (by decide) (by decide)))
  have Zz_1 : n0 ≤ hg17.size := Nat.le_trans Zz (Keep.of_wr Wg17).1
  have Kc_1 := Kc.wr Wg17 (Or.inl (List.mem_of_getElem? (i := 0) rfl))
  obtain ⟨v17, hv17⟩ : ∃ z : Int64, z = (w_m + (1 : Int64)) := ⟨_, rfl⟩
  have F_17 : Fld Z hg17 r0 "com/example/evenkeel/evenkeel/FullCycles" "made" "J" (.long v17) := by subst hv17; exact F_14
  refine own_st (B := Tg17.setTop (mkF m 21 #[.val (.ref r0), .unset, .unset] [(.ref r0)])) (fun target kt => ?_) ?_
  · show Steps p.tables e below (Tg17.setTop (mkF m 20 #[.val (.ref r0), .unset, .unset] [])) target
    refine XS.aloadN Xg17.here hx rfl (hb hby own_d6_20) rfl rfl ?_
    exact kt
  obtain ⟨Tg21, Xg21, eg21, stg21⟩ := getF Xg17 hx hZ hown (host := "") (Or.inl (hw _ (List.mem_of_getElem? (i := 26) rfl))) Via.refl eg17 F_17 (g := (mkF m 21 #[.val (.ref r0), .unset, .unset] [(.ref r0)])) rfl rfl (hb hby own_d6_21)
  refine own_st stg21 ?_
  refine own_st (B := Tg21.setTop (mkF m 25 #[.val (.ref r0), .unset, .unset] [(.ref r0), (.long v17)])) (fun target kt => ?_) ?_
  · show Steps p.tables e below (Tg21.setTop (mkF m 24 #[.val (.ref r0), .unset, .unset] [(.long v17)])) target
    refine XS.aloadN Xg21.here hx rfl (hb hby own_d6_24) rfl rfl ?_
    exact kt
  obtain ⟨Tg25, Xg25, eg25, stg25⟩ := getF Xg21 hx hZ hown (host := "") (Or.inl (hw _ (List.mem_of_getElem? (i := 30) rfl))) Via.refl eg21 F_15 (g := (mkF m 25 #[.val (.ref r0), .unset, .unset] [(.ref r0), (.long v17)])) rfl rfl (hb hby own_d6_25)
  refine own_st stg25 ?_
  obtain ⟨v32, hv32⟩ : ∃ z : Int64, z = (((v17 - w_t).toUInt64 >>> ((63 : Int32) &&& 0x3f).toInt64.toUInt64).toInt64) := ⟨_, rfl⟩
  refine own_st (B := Tg25.setTop (mkF m 35 #[.val (.ref r0), .val (.long v32), .second] [(.ref r0), (.ref r0)])) (fun target kt => ?_) ?_
  · show Steps p.tables e below (Tg25.setTop (mkF m 28 #[.val (.ref r0), .unset, .unset] [(.long w_t), (.long v17)])) target
    refine XS.lsub Xg25.here hx rfl (hb hby own_d6_28) rfl ?_
    show Steps p.tables e below (Tg25.setTop (mkF m 29 #[.val (.ref r0), .unset, .unset] [(.long (v17 - w_t))])) target
    refine XS.bipush Xg25.here hx rfl (hb hby own_d6_29) ?_
    show Steps p.tables e below (Tg25.setTop (mkF m 31 #[.val (.ref r0), .unset, .unset] [(.int (63 : Int32)), (.long (v17 - w_t))])) target
    refine XS.lushr Xg25.here hx rfl (hb hby own_d6_31) rfl ?_
    show Steps p.tables e below (Tg25.setTop (mkF m 32 #[.val (.ref r0), .unset, .unset] [(.long (((v17 - w_t).toUInt64 >>> ((63 : Int32) &&& 0x3f).toInt64.toUInt64).toInt64))])) target
    refine XS.lstoreN Xg25.here hx rfl (hb hby own_d6_32) rfl (l' := #[.val (.ref r0), .val (.long v32), .second]) (by subst hv32; rfl) ?_
    show Steps p.tables e below (Tg25.setTop (mkF m 33 #[.val (.ref r0), .val (.long v32), .second] [])) target
    refine XS.aloadN Xg25.here hx rfl (hb hby own_d6_33) rfl rfl ?_
    show Steps p.tables e below (Tg25.setTop (mkF m 34 #[.val (.ref r0), .val (.long v32), .second] [(.ref r0)])) target
    refine XS.dup Xg25.here hx rfl (hb hby own_d6_34) rfl rfl ?_
    exact kt
  obtain ⟨Tg35, Xg35, eg35, stg35⟩ := getF Xg25 hx hZ hown (host := "") (Or.inl (hw _ (List.mem_of_getElem? (i := 24) rfl))) Via.refl eg25 F_13 (g := (mkF m 35 #[.val (.ref r0), .val (.long v32), .second] [(.ref r0), (.ref r0)])) rfl rfl (hb hby own_d6_35)
  refine own_st stg35 ?_
  refine own_st (B := Tg35.setTop (mkF m 39 #[.val (.ref r0), .val (.long v32), .second] [(.ref r0), (.long w_b), (.ref r0)])) (fun target kt => ?_) ?_
  · show Steps p.tables e below (Tg35.setTop (mkF m 38 #[.val (.ref r0), .val (.long v32), .second] [(.long w_b), (.ref r0)])) target
    refine XS.aloadN Xg35.here hx rfl (hb hby own_d6_38) rfl rfl ?_
    exact kt
  obtain ⟨Tg39, Xg39, eg39, stg39⟩ := getF Xg35 hx hZ hown (host := "") (Or.inl (hw _ (List.mem_of_getElem? (i := 18) rfl))) Via.refl eg35 F_10 (g := (mkF m 39 #[.val (.ref r0), .val (.long v32), .second] [(.ref r0), (.long w_b), (.ref r0)])) rfl rfl (hb hby own_d6_39)
  refine own_st stg39 ?_
  refine own_st (B := Tg39.setTop (mkF m 45 #[.val (.ref r0), .val (.long v32), .second] [(.ref r0), (.long (v7 + (1 : Int64))), (.long w_b), (.ref r0)])) (fun target kt => ?_) ?_
  · show Steps p.tables e below (Tg39.setTop (mkF m 42 #[.val (.ref r0), .val (.long v32), .second] [(.long v7), (.long w_b), (.ref r0)])) target
    refine XS.lconst Xg39.here hx rfl (hb hby own_d6_42) ?_
    show Steps p.tables e below (Tg39.setTop (mkF m 43 #[.val (.ref r0), .val (.long v32), .second] [(.long (1 : Int64)), (.long v7), (.long w_b), (.ref r0)])) target
    refine XS.ladd Xg39.here hx rfl (hb hby own_d6_43) rfl ?_
    show Steps p.tables e below (Tg39.setTop (mkF m 44 #[.val (.ref r0), .val (.long v32), .second] [(.long (v7 + (1 : Int64))), (.long w_b), (.ref r0)])) target
    refine XS.aloadN Xg39.here hx rfl (hb hby own_d6_44) rfl rfl ?_
    exact kt
  obtain ⟨Tg45, Xg45, eg45, stg45⟩ := getF Xg39 hx hZ hown (host := "") (Or.inl (hw _ (List.mem_of_getElem? (i := 24) rfl))) Via.refl eg39 F_13 (g := (mkF m 45 #[.val (.ref r0), .val (.long v32), .second] [(.ref r0), (.long (v7 + (1 : Int64))), (.long w_b), (.ref r0)])) rfl rfl (hb hby own_d6_45)
  refine own_st stg45 ?_
  refine own_st (B := Tg45.setTop (mkF m 54 #[.val (.ref r0), .val (.long v32), .second] [(.long (w_b + (((v7 + (1 : Int64)) - w_b) * ((1 : Int64) - v32)))), (.ref r0)])) (fun target kt => ?_) ?_
  · show Steps p.tables e below (Tg45.setTop (mkF m 48 #[.val (.ref r0), .val (.long v32), .second] [(.long w_b), (.long (v7 + (1 : Int64))), (.long w_b), (.ref r0)])) target
    refine XS.lsub Xg45.here hx rfl (hb hby own_d6_48) rfl ?_
    show Steps p.tables e below (Tg45.setTop (mkF m 49 #[.val (.ref r0), .val (.long v32), .second] [(.long ((v7 + (1 : Int64)) - w_b)), (.long w_b), (.ref r0)])) target
    refine XS.lconst Xg45.here hx rfl (hb hby own_d6_49) ?_
    show Steps p.tables e below (Tg45.setTop (mkF m 50 #[.val (.ref r0), .val (.long v32), .second] [(.long (1 : Int64)), (.long ((v7 + (1 : Int64)) - w_b)), (.long w_b), (.ref r0)])) target
    refine XS.lloadN Xg45.here hx rfl (hb hby own_d6_50) rfl ?_
    show Steps p.tables e below (Tg45.setTop (mkF m 51 #[.val (.ref r0), .val (.long v32), .second] [(.long v32), (.long (1 : Int64)), (.long ((v7 + (1 : Int64)) - w_b)), (.long w_b), (.ref r0)])) target
    refine XS.lsub Xg45.here hx rfl (hb hby own_d6_51) rfl ?_
    show Steps p.tables e below (Tg45.setTop (mkF m 52 #[.val (.ref r0), .val (.long v32), .second] [(.long ((1 : Int64) - v32)), (.long ((v7 + (1 : Int64)) - w_b)), (.long w_b), (.ref r0)])) target
    refine XS.lmul Xg45.here hx rfl (hb hby own_d6_52) rfl ?_
    show Steps p.tables e below (Tg45.setTop (mkF m 53 #[.val (.ref r0), .val (.long v32), .second] [(.long (((v7 + (1 : Int64)) - w_b) * ((1 : Int64) - v32))), (.long w_b), (.ref r0)])) target
    refine XS.ladd Xg45.here hx rfl (hb hby own_d6_53) rfl ?_
    exact kt
  obtain ⟨Tg54, hg54, Xg54, eg54, Wg54, stg54⟩ := putF Xg45 hx hZ hown (host := "") (Or.inl (hw _ (List.mem_of_getElem? (i := 24) rfl))) Via.refl eg45 F_13 F_9 (Or.inl (hw _ (List.mem_of_getElem? (i := 25) rfl))) (hw _ (List.mem_of_getElem? (i := 2) rfl)) (ty := .long) (by decide) rfl rfl (g := (mkF m 54 #[.val (.ref r0), .val (.long v32), .second] [(.long (w_b + (((v7 + (1 : Int64)) - w_b) * ((1 : Int64) - v32)))), (.ref r0)])) rfl rfl (hb hby own_d6_54)
  refine own_st stg54 ?_
  have Ng54 := Fr.snoc Xg54 Ng17 g_r0
  have F_18 := F_9.wr Wg54
  have F_19 := F_10.other Wg54 (Or.inr (slot_ne (Or.inl (hw _ (List.mem_of_getElem? (i := 19) rfl))) (Or.inl (hw _ (List.mem_of_getElem? (i := 25) rfl))) (by decide) (t := .long) (t' := .long) (by decide) (by decide)))
  have F_20 := F_11.other Wg54 (Or.inr (slot_ne (Or.inl (hw _ (List.mem_of_getElem? (i := 17) rfl))) (Or.inl (hw _ (List.mem_of_getElem? (i := 25) rfl))) (by decide) (t := .boolean) (t' := .long) (by decide) (by decide)))
  have F_21 := F_12.other Wg54 (Or.inr (slot_ne (Or.inl (hw _ (List.mem_of_getElem? (i := 33) rfl))) (Or.inl (hw _ (List.mem_of_getElem? (i := 25) rfl))) (by decide) (t := .int) (t' := .long) (by decide) (by decide)))
  have F_22 := F_13.same Wg54
  have F_23 := F_17.other Wg54 (Or.inr (slot_ne (Or.inl (hw _ (List.mem_of_getElem? (i := 27) rfl))) (Or.inl (hw _ (List.mem_of_getElem? (i := 25) rfl))) (by decide) (t := .long) (t' := .long) (by decide) (by decide)))
  have F_24 := F_15.other Wg54 (Or.inr (slot_ne (Or.inl (hw _ (List.mem_of_getElem? (i := 31) rfl))) (Or.inl (hw _ (List.mem_of_getElem? (i := 25) rfl))) (by decide) (t := .long) (t' := .long) (by decide) (by decide)))
  have F_25 := F_16.other Wg54 (Or.inr (slot_ne (Or.inl (hw _ (List.mem_of_getElem? (i := 29) rfl))) (Or.inl (hw _ (List.mem_of_getElem? (i := 25) rfl))) (by decide) (t := .boolean) (t' := .long) (by decide) (by decide)))
  have Zz_2 : n0 ≤ hg54.size := Nat.le_trans Zz_1 (Keep.of_wr Wg54).1
  have Kc_2 := Kc_1.wr Wg54 (Or.inl (List.mem_of_getElem? (i := 0) rfl))
  obtain ⟨v54, hv54⟩ : ∃ z : Int64, z = (w_b + (((v7 + (1 : Int64)) - w_b) * ((1 : Int64) - v32))) := ⟨_, rfl⟩
  have F_26 : Fld Z hg54 r0 "com/example/evenkeel/evenkeel/FullCycles" "began" "J" (.long v54) := by subst hv54; exact F_22
  refine own_st (B := Tg54.setTop (mkF m 59 #[.val (.ref r0), .val (.long v32), .second] [(.ref r0), (.ref r0)])) (fun target kt => ?_) ?_
  · show Steps p.tables e below (Tg54.setTop (mkF m 57 #[.val (.ref r0), .val (.long v32), .second] [])) target
    refine XS.aloadN Xg54.here hx rfl (hb hby own_d6_57) rfl rfl ?_
    show Steps p.tables e below (Tg54.setTop (mkF m 58 #[.val (.ref r0), .val (.long v32), .second] [(.ref r0)])) target
    refine XS.dup Xg54.here hx rfl (hb hby own_d6_58) rfl rfl ?_
    exact kt
  obtain ⟨Tg59, Xg59, eg59, stg59⟩ := getF Xg54 hx hZ hown (host := "") (Or.inl (hw _ (List.mem_of_getElem? (i := 26) rfl))) Via.refl eg54 F_23 (g := (mkF m 59 #[.val (.ref r0), .val (.long v32), .second] [(.ref r0), (.ref r0)])) rfl rfl (hb hby own_d6_59)
  refine own_st stg59 ?_
  refine own_st (B := Tg59.setTop (mkF m 64 #[.val (.ref r0), .val (.long v32), .second] [(.long (v17 * v32)), (.ref r0)])) (fun target kt => ?_) ?_
  · show Steps p.tables e below (Tg59.setTop (mkF m 62 #[.val (.ref r0), .val (.long v32), .second] [(.long v17), (.ref r0)])) target
    refine XS.lloadN Xg59.here hx rfl (hb hby own_d6_62) rfl ?_
    show Steps p.tables e below (Tg59.setTop (mkF m 63 #[.val (.ref r0), .val (.long v32), .second] [(.long v32), (.long v17), (.ref r0)])) target
    refine XS.lmul Xg59.here hx rfl (hb hby own_d6_63) rfl ?_
    exact kt
  obtain ⟨Tg64, hg64, Xg64, eg64, Wg64, stg64⟩ := putF Xg59 hx hZ hown (host := "") (Or.inl (hw _ (List.mem_of_getElem? (i := 26) rfl))) Via.refl eg59 F_23 F_18 (Or.inl (hw _ (List.mem_of_getElem? (i := 27) rfl))) (hw _ (List.mem_of_getElem? (i := 2) rfl)) (ty := .long) (by decide) rfl rfl (g := (mkF m 64 #[.val (.ref r0), .val (.long v32), .second] [(.long (v17 * v32)), (.ref r0)])) rfl rfl (hb hby own_d6_64)
  refine own_st stg64 ?_
  have Ng64 := Fr.snoc Xg64 Ng54 g_r0
  have F_27 := F_18.wr Wg64
  have F_28 := F_19.other Wg64 (Or.inr (slot_ne (Or.inl (hw _ (List.mem_of_getElem? (i := 19) rfl))) (Or.inl (hw _ (List.mem_of_getElem? (i := 27) rfl))) (by decide) (t := .long) (t' := .long) (by decide) (by decide)))
  have F_29 := F_20.other Wg64 (Or.inr (slot_ne (Or.inl (hw _ (List.mem_of_getElem? (i := 17) rfl))) (Or.inl (hw _ (List.mem_of_getElem? (i := 27) rfl))) (by decide) (t := .boolean) (t' := .long) (by decide) (by decide)))
  have F_30 := F_21.other Wg64 (Or.inr (slot_ne (Or.inl (hw _ (List.mem_of_getElem? (i := 33) rfl))) (Or.inl (hw _ (List.mem_of_getElem? (i := 27) rfl))) (by decide) (t := .int) (t' := .long) (by decide) (by decide)))
  have F_31 := F_26.other Wg64 (Or.inr (slot_ne (Or.inl (hw _ (List.mem_of_getElem? (i := 25) rfl))) (Or.inl (hw _ (List.mem_of_getElem? (i := 27) rfl))) (by decide) (t := .long) (t' := .long) (by decide) (by decide)))
  have F_32 := F_23.same Wg64
  have F_33 := F_24.other Wg64 (Or.inr (slot_ne (Or.inl (hw _ (List.mem_of_getElem? (i := 31) rfl))) (Or.inl (hw _ (List.mem_of_getElem? (i := 27) rfl))) (by decide) (t := .long) (t' := .long) (by decide) (by decide)))
  have F_34 := F_25.other Wg64 (Or.inr (slot_ne (Or.inl (hw _ (List.mem_of_getElem? (i := 29) rfl))) (Or.inl (hw _ (List.mem_of_getElem? (i := 27) rfl))) (by decide) (t := .boolean) (t' := .long) (by decide) (by decide)))
  have Zz_3 : n0 ≤ hg64.size := Nat.le_trans Zz_2 (Keep.of_wr Wg64).1
  have Kc_3 := Kc_2.wr Wg64 (Or.inl (List.mem_of_getElem? (i := 0) rfl))
  obtain ⟨v64, hv64⟩ : ∃ z : Int64, z = (v17 * v32) := ⟨_, rfl⟩
  have F_35 : Fld Z hg64 r0 "com/example/evenkeel/evenkeel/FullCycles" "made" "J" (.long v64) := by subst hv64; exact F_32
  refine own_st (B := Tg64.setTop (mkF m 69 #[.val (.ref r0), .val (.long v32), .second] [(.ref r0), (.ref r0)])) (fun target kt => ?_) ?_
  · show Steps p.tables e below (Tg64.setTop (mkF m 67 #[.val (.ref r0), .val (.long v32), .second] [])) target
    refine XS.aloadN Xg64.here hx rfl (hb hby own_d6_67) rfl rfl ?_
    show Steps p.tables e below (Tg64.setTop (mkF m 68 #[.val (.ref r0), .val (.long v32), .second] [(.ref r0)])) target
    refine XS.dup Xg64.here hx rfl (hb hby own_d6_68) rfl rfl ?_
    exact kt
  obtain ⟨Tg69, Xg69, eg69, stg69⟩ := getF Xg64 hx hZ hown (host := "") (Or.inl (hw _ (List.mem_of_getElem? (i := 28) rfl))) Via.refl eg64 F_34 (g := (mkF m 69 #[.val (.ref r0), .val (.long v32), .second] [(.ref r0), (.ref r0)])) rfl rfl (hb hby own_d6_69)
  refine own_st stg69 ?_
  refine own_st (B := Tg69.setTop (mkF m 75 #[.val (.ref r0), .val (.long v32), .second] [(.int (lcmpW v32 (0 : Int64))), (.int (own_b W_h)), (.ref r0)])) (fun target kt => ?_) ?_
  · show Steps p.tables e below (Tg69.setTop (mkF m 72 #[.val (.ref r0), .val (.long v32), .second] [(.int (own_b W_h)), (.ref r0)])) target
    refine XS.lloadN Xg69.here hx rfl (hb hby own_d6_72) rfl ?_
    show Steps p.tables e below (Tg69.setTop (mkF m 73 #[.val (.ref r0), .val (.long v32), .second] [(.long v32), (.int (own_b W_h)), (.ref r0)])) target
    refine XS.lconst Xg69.here hx rfl (hb hby own_d6_73) ?_
    show Steps p.tables e below (Tg69.setTop (mkF m 74 #[.val (.ref r0), .val (.long v32), .second] [(.long (0 : Int64)), (.long v32), (.int (own_b W_h)), (.ref r0)])) target
    refine XS.lcmp Xg69.here hx rfl (hb hby own_d6_74) rfl ?_
    exact kt
  obtain ⟨_, ⟨j83_s0, rfl, rfl⟩, st_M83⟩ : own_Lead p.tables e below (Tg69.setTop (mkF m 75 #[.val (.ref r0), .val (.long v32), .second] [(.int (lcmpW v32 (0 : Int64))), (.int (own_b W_h)), (.ref r0)])) (fun B => ∃ (j83_s0 : Int32), B = Tg69.setTop (mkF m 83 #[.val (.ref r0), .val (.long v32), .second] [(.int j83_s0), (.int (own_b W_h)), (.ref r0)]) ∧ j83_s0 = own_b (v32 = (0 : Int64))) := by
    by_cases c75 : v32 = (0 : Int64)
    · refine own_st (B := Tg69.setTop (mkF m 83 #[.val (.ref r0), .val (.long v32), .second] [(.int (1 : Int32)), (.int (own_b W_h)), (.ref r0)])) (fun target kt => ?_) ?_
      · show Steps p.tables e below (Tg69.setTop (mkF m 75 #[.val (.ref r0), .val (.long v32), .second] [(.int (lcmpW v32 (0 : Int64))), (.int (own_b W_h)), (.ref r0)])) target
        refine XS.ifNo Xg69.here hx rfl (hb hby own_d6_75) rfl ((if0 _ _).trans (teq ((lw_eq v32 (0 : Int64)).mpr c75)).2) ?_
        show Steps p.tables e below (Tg69.setTop (mkF m 78 #[.val (.ref r0), .val (.long v32), .second] [(.int (own_b W_h)), (.ref r0)])) target
        refine XS.iconst Xg69.here hx rfl (hb hby own_d6_78) ?_
        show Steps p.tables e below (Tg69.setTop (mkF m 79 #[.val (.ref r0), .val (.long v32), .second] [(.int (1 : Int32)), (.int (own_b W_h)), (.ref r0)])) target
        refine XS.goto Xg69.here hx rfl (pc0 := 79) (pc' := 83) rfl (hb hby own_d6_79) (by decide) (by decide) ?_
        exact kt
      exact ⟨_, ⟨(1 : Int32), rfl, (own_b1 c75).symm⟩, fun _ k => k⟩
    · refine own_st (B := Tg69.setTop (mkF m 83 #[.val (.ref r0), .val (.long v32), .second] [(.int (0 : Int32)), (.int (own_b W_h)), (.ref r0)])) (fun target kt => ?_) ?_
      · show Steps p.tables e below (Tg69.setTop (mkF m 75 #[.val (.ref r0), .val (.long v32), .second] [(.int (lcmpW v32 (0 : Int64))), (.int (own_b W_h)), (.ref r0)])) target
        refine XS.ifYes Xg69.here hx rfl (pc0 := 75) (pc' := 82) rfl (hb hby own_d6_75) rfl ((if0 _ _).trans (feq (fun q => c75 ((lw_eq v32 (0 : Int64)).mp q))).2) (by decide) (by decide) ?_
        show Steps p.tables e below (Tg69.setTop (mkF m 82 #[.val (.ref r0), .val (.long v32), .second] [(.int (own_b W_h)), (.ref r0)])) target
        refine XS.iconst Xg69.here hx rfl (hb hby own_d6_82) ?_
        exact kt
      exact ⟨_, ⟨(0 : Int32), rfl, (own_b0 c75).symm⟩, fun _ k => k⟩
  refine own_st st_M83 ?_
  refine own_st (B := Tg69.setTop (mkF m 84 #[.val (.ref r0), .val (.long v32), .second] [(.int ((own_b W_h) ||| (own_b (v32 = (0 : Int64))))), (.ref r0)])) (fun target kt => ?_) ?_
  · show Steps p.tables e below (Tg69.setTop (mkF m 83 #[.val (.ref r0), .val (.long v32), .second] [(.int (own_b (v32 = (0 : Int64)))), (.int (own_b W_h)), (.ref r0)])) target
    refine XS.ior Xg69.here hx rfl (hb hby own_d6_83) rfl ?_
    exact kt
  obtain ⟨Tg84, hg84, Xg84, eg84, Wg84, stg84⟩ := putFN Xg69 hx hZ hown (hw _ (List.mem_of_getElem? (i := 28) rfl)) Via.refl eg69 F_34 F_27 (Or.inl (hw _ (List.mem_of_getElem? (i := 29) rfl))) (hw _ (List.mem_of_getElem? (i := 2) rfl)) (ty := .boolean) (v' := (.int ((own_b W_h) ||| (own_b (v32 = (0 : Int64)))))) (by decide) (own_bnarw own_bor) (own_bfits (own_bnarw own_bor)) (g := (mkF m 84 #[.val (.ref r0), .val (.long v32), .second] [(.int ((own_b W_h) ||| (own_b (v32 = (0 : Int64))))), (.ref r0)])) rfl rfl (hb hby own_d6_84)
  refine own_st stg84 ?_
  have Ng84 := Fr.snoc Xg84 Ng64 g_r0
  have F_36 := F_27.wr Wg84
  have F_37 := F_28.other Wg84 (Or.inr (slot_ne (Or.inl (hw _ (List.mem_of_getElem? (i := 19) rfl))) (Or.inl (hw _ (List.mem_of_getElem? (i := 29) rfl))) (by decide) (t := .long) (t' := .boolean) (by decide) (by decide)))
  have F_38 := F_29.other Wg84 (Or.inr (slot_ne (Or.inl (hw _ (List.mem_of_getElem? (i := 17) rfl))) (Or.inl (hw _ (List.mem_of_getElem? (i := 29) rfl))) (by decide) (t := .boolean) (t' := .boolean) (by decide) (by decide)))
  have F_39 := F_30.other Wg84 (Or.inr (slot_ne (Or.inl (hw _ (List.mem_of_getElem? (i := 33) rfl))) (Or.inl (hw _ (List.mem_of_getElem? (i := 29) rfl))) (by decide) (t := .int) (t' := .boolean) (by decide) (by decide)))
  have F_40 := F_31.other Wg84 (Or.inr (slot_ne (Or.inl (hw _ (List.mem_of_getElem? (i := 25) rfl))) (Or.inl (hw _ (List.mem_of_getElem? (i := 29) rfl))) (by decide) (t := .long) (t' := .boolean) (by decide) (by decide)))
  have F_41 := F_35.other Wg84 (Or.inr (slot_ne (Or.inl (hw _ (List.mem_of_getElem? (i := 27) rfl))) (Or.inl (hw _ (List.mem_of_getElem? (i := 29) rfl))) (by decide) (t := .long) (t' := .boolean) (by decide) (by decide)))
  have F_42 := F_33.other Wg84 (Or.inr (slot_ne (Or.inl (hw _ (List.mem_of_getElem? (i := 31) rfl))) (Or.inl (hw _ (List.mem_of_getElem? (i := 29) rfl))) (by decide) (t := .long) (t' := .boolean) (by decide) (by decide)))
  have F_43 := F_34.same Wg84
  have Zz_4 : n0 ≤ hg84.size := Nat.le_trans Zz_3 (Keep.of_wr Wg84).1
  have Kc_4 := Kc_3.wr Wg84 (Or.inl (List.mem_of_getElem? (i := 0) rfl))
  have F_44 : Fld Z hg84 r0 "com/example/evenkeel/evenkeel/FullCycles" "holding" "Z" (.int (own_b ((W_h) ∨ (v32 = (0 : Int64))))) := own_cast (congrArg Value.int own_bor) F_43
  refine own_st (B := Tg84.setTop (mkF m 90 #[.val (.ref r0), .val (.long v32), .second] [(.int (lcmpW v32 (0 : Int64)))])) (fun target kt => ?_) ?_
  · show Steps p.tables e below (Tg84.setTop (mkF m 87 #[.val (.ref r0), .val (.long v32), .second] [])) target
    refine XS.lloadN Xg84.here hx rfl (hb hby own_d6_87) rfl ?_
    show Steps p.tables e below (Tg84.setTop (mkF m 88 #[.val (.ref r0), .val (.long v32), .second] [(.long v32)])) target
    refine XS.lconst Xg84.here hx rfl (hb hby own_d6_88) ?_
    show Steps p.tables e below (Tg84.setTop (mkF m 89 #[.val (.ref r0), .val (.long v32), .second] [(.long (0 : Int64)), (.long v32)])) target
    refine XS.lcmp Xg84.here hx rfl (hb hby own_d6_89) rfl ?_
    exact kt
  obtain ⟨_, ⟨j98_s0, rfl, rfl⟩, st_M98⟩ : own_Lead p.tables e below (Tg84.setTop (mkF m 90 #[.val (.ref r0), .val (.long v32), .second] [(.int (lcmpW v32 (0 : Int64)))])) (fun B => ∃ (j98_s0 : Int32), B = Tg84.setTop (mkF m 98 #[.val (.ref r0), .val (.long v32), .second] [(.int j98_s0)]) ∧ j98_s0 = own_b (v32 = (0 : Int64))) := by
    by_cases c90 : v32 = (0 : Int64)
    · refine own_st (B := Tg84.setTop (mkF m 98 #[.val (.ref r0), .val (.long v32), .second] [(.int (1 : Int32))])) (fun target kt => ?_) ?_
      · show Steps p.tables e below (Tg84.setTop (mkF m 90 #[.val (.ref r0), .val (.long v32), .second] [(.int (lcmpW v32 (0 : Int64)))])) target
        refine XS.ifNo Xg84.here hx rfl (hb hby own_d6_90) rfl ((if0 _ _).trans (teq ((lw_eq v32 (0 : Int64)).mpr c90)).2) ?_
        show Steps p.tables e below (Tg84.setTop (mkF m 93 #[.val (.ref r0), .val (.long v32), .second] [])) target
        refine XS.iconst Xg84.here hx rfl (hb hby own_d6_93) ?_
        show Steps p.tables e below (Tg84.setTop (mkF m 94 #[.val (.ref r0), .val (.long v32), .second] [(.int (1 : Int32))])) target
        refine XS.goto Xg84.here hx rfl (pc0 := 94) (pc' := 98) rfl (hb hby own_d6_94) (by decide) (by decide) ?_
        exact kt
      exact ⟨_, ⟨(1 : Int32), rfl, (own_b1 c90).symm⟩, fun _ k => k⟩
    · refine own_st (B := Tg84.setTop (mkF m 98 #[.val (.ref r0), .val (.long v32), .second] [(.int (0 : Int32))])) (fun target kt => ?_) ?_
      · show Steps p.tables e below (Tg84.setTop (mkF m 90 #[.val (.ref r0), .val (.long v32), .second] [(.int (lcmpW v32 (0 : Int64)))])) target
        refine XS.ifYes Xg84.here hx rfl (pc0 := 90) (pc' := 97) rfl (hb hby own_d6_90) rfl ((if0 _ _).trans (feq (fun q => c90 ((lw_eq v32 (0 : Int64)).mp q))).2) (by decide) (by decide) ?_
        show Steps p.tables e below (Tg84.setTop (mkF m 97 #[.val (.ref r0), .val (.long v32), .second] [])) target
        refine XS.iconst Xg84.here hx rfl (hb hby own_d6_97) ?_
        exact kt
      exact ⟨_, ⟨(0 : Int32), rfl, (own_b0 c90).symm⟩, fun _ k => k⟩
  refine own_st st_M98 ?_
  obtain ⟨fs, hr, hrun, hended, hW, hsame⟩ := Xg84.leave (v := some (.int (nar .boolean (own_b (v32 = (0 : Int64)))))) (fun h => by rw [Bd.returns] at h; cases h)
  have hend : Steps p.tables e below (Tg84.setTop (mkF m 98 #[.val (.ref r0), .val (.long v32), .second] [(.int (own_b (v32 = (0 : Int64))))])) (Tg84.setFrames fs) := by
    exact retN Xg84 hx (t := .boolean) Bd.returns (by simp) (hb hby own_d6_98) hr
  refine own_fin hend ⟨_, hrun, hended, _, _, rfl, ?_, ⟨_, rfl⟩, hW, hsame.mono (by decide) (by decide)⟩
  show own_Q6 Z r0 w_p W_s w_k w_b w_m w_t W_h h0 n0 _ Tg84.heap _
  rw [eg84]
  subst hv7 hv17 hv32 hv54 hv64
  exact ⟨(congrArg (fun z => some (Value.int z)) ((own_nar rfl).trans (own_bi ⟨fun w => w, fun w => w⟩))), Ng84, Kc_4, F_36, F_37, F_38, F_39, F_40, F_41, F_42, F_44⟩
theorem own_sgn (k t : Int64) (h0 : 0 ≤ k.toInt) (h1 : k.toInt < t.toInt) (h2 : t.toInt ≤ 2305843009213693952) : (k + (1 : Int64) = t ∧ (((k + (1 : Int64)) - t).toUInt64 >>> ((63 : Int32) &&& 0x3f).toInt64.toUInt64).toInt64 = (0 : Int64)) ∨ (¬ k + (1 : Int64) = t ∧ (((k + (1 : Int64)) - t).toUInt64 >>> ((63 : Int32) &&& 0x3f).toInt64.toUInt64).toInt64 = (1 : Int64)) := by
  have e0 : (0 : Int64).toInt = 0 := by decide
  have e1 : (1 : Int64).toInt = 1 := by decide
  have k1 := c_ladd k 1
  have k2 := c_lsub (k + 1) t
  have r1 := rng64 (k + 1)
  have r2 := rng64 ((k + 1) - t)
  have k3 := c_lushr ((k + 1) - t) 63 63 (by decide) (by decide)
  rw [e1] at k1
  by_cases hk : k + (1 : Int64) = t
  · left
    refine ⟨hk, ?_⟩
    apply Int64.toInt_inj.mp
    rw [k3, e0]
    rw [← Int64.toInt_inj] at hk
    omega
  · right
    refine ⟨hk, ?_⟩
    apply Int64.toInt_inj.mp
    rw [k3, e1]
    rw [← Int64.toInt_inj] at hk
    omega
theorem own_tot (a : Int64) : 1 ≤ ((1 : Int64) + (a &&& (2305843009213693951 : Int64))).toInt ∧ ((1 : Int64) + (a &&& (2305843009213693951 : Int64))).toInt ≤ 2305843009213693952 := by
  have h1 := c_maskL a 2305843009213693951 61 (by decide) (by decide)
  have h2 := c_ladd 1 (a &&& 2305843009213693951)
  have e1 : (1 : Int64).toInt = 1 := by decide
  have r1 := rng64 (1 + (a &&& 2305843009213693951))
  rw [h1, e1] at h2
  omega
theorem own_kk (a : Int64) (t : Int64) (f : Int32) (ht : 1 ≤ t.toInt) (k : Int64) (hk : k = (if (f &&& (1 : Int32)) = (0 : Int32) then ((a &&& (2305843009213693951 : Int64)) % t) else (t - (1 : Int64)))) : 0 ≤ k.toInt ∧ k.toInt < t.toInt := by
  have h1 := c_maskL a 2305843009213693951 61 (by decide) (by decide)
  have h2 : 0 ≤ (a &&& (2305843009213693951 : Int64)).toInt := by rw [h1]; omega
  have e1 : (1 : Int64).toInt = 1 := by decide
  have k2 := c_lsub t 1
  have r1 := rng64 t
  have r2 := rng64 (t - 1)
  rw [e1] at k2
  by_cases hf : (f &&& (1 : Int32)) = (0 : Int32)
  · rw [if_pos hf] at hk
    rw [hk, Int64.toInt_mod, Int.tmod_eq_emod_of_nonneg h2]
    exact ⟨Int.emod_nonneg _ (by omega), Int.emod_lt_of_pos _ (by omega)⟩
  · rw [if_neg hf] at hk
    rw [hk]
    omega
theorem own_x1 (p k : Int64) : (p + (1 : Int64)) + ((((p + k) + (1 : Int64)) + (1 : Int64)) - (p + (1 : Int64))) * ((1 : Int64) - (0 : Int64)) = (p + k) + (2 : Int64) := by
  have e : ((1 : Int64) - (0 : Int64)) = 1 := by decide
  rw [e, Int64.mul_one]
  apply Int64.toInt_inj.mp
  have h1 := c_ladd p 1
  have h2 := c_ladd p k
  have h3 := c_ladd (p + k) 1
  have h4 := c_ladd (p + k + 1) 1
  have h5 := c_lsub (p + k + 1 + 1) (p + 1)
  have h6 := c_ladd (p + 1) (p + k + 1 + 1 - (p + 1))
  have h7 := c_ladd (p + k) 2
  have r1 := rng64 (p + 1 + (p + k + 1 + 1 - (p + 1)))
  have r2 := rng64 (p + k + 2)
  have e1 : (1 : Int64).toInt = 1 := by decide
  have e2 : (2 : Int64).toInt = 2 := by decide
  omega
theorem own_x2 (p q : Int64) : p + q * ((1 : Int64) - (1 : Int64)) = p := by
  have e : ((1 : Int64) - (1 : Int64)) = 0 := by decide
  rw [e, Int64.mul_zero, Int64.add_zero]
theorem own_x3 (t k : Int64) : t - (k + (1 : Int64)) = (t - k) - (1 : Int64) := by
  apply Int64.toInt_inj.mp
  have h1 := c_ladd k 1
  have h2 := c_lsub t (k + 1)
  have h3 := c_lsub t k
  have h4 := c_lsub (t - k) 1
  have r1 := rng64 (t - (k + 1))
  have r2 := rng64 (t - k - 1)
  have e1 : (1 : Int64).toInt = 1 := by decide
  omega
theorem own_pd1 : parseMethodDescriptor "()V" = some ⟨[], none⟩ := by decide +kernel
theorem own_pd2 : parseMethodDescriptor "(ZZJI)Z" = some ⟨[.boolean, .boolean, .long, .int], some .boolean⟩ := by decide +kernel
theorem own_pd3 : parseMethodDescriptor "()Z" = some ⟨[], some .boolean⟩ := by decide +kernel
theorem own_pd4 : parseMethodDescriptor "(Lcom/example/evenkeel/evenkeel/CurrentValue;I)V" = some ⟨[(.object "com/example/evenkeel/evenkeel/CurrentValue"), .int], none⟩ := by decide +kernel
theorem own_pd5 : parseMethodDescriptor "()J" = some ⟨[], some .long⟩ := by decide +kernel
theorem own_pn2 : plainName "com/example/evenkeel/evenkeel/FullCyclesPickedPinLaw" = true := by first | (simp [plainName, overriddenIn]; done) | decide +kernel
theorem own_ef0 (m : MethodId) (q0 : Int64) (q1 : Int64) (q2 : Int64) (p3 : Int32) (p4 : Int32) : entryFrame m #[(.long q0), (.long q1), (.long q2), (.int p3), (.int p4)] maxLocals = mkF m 0 #[.val (.long q0), .second, .val (.long q1), .second, .val (.long q2), .second, .val (.int p3), .val (.int p4), .unset, .unset, .unset, .unset, .unset, .unset, .unset, .unset, .unset, .unset, .unset, .unset, .unset, .unset, .unset, .unset, .unset, .unset] [] := by first | (simp [entryFrame, mkF, argsToLocals, Value.category, maxLocals]; done) | rfl
def own_Q0 (Z : State) (q0 : Int64) (q1 : Int64) (q2 : Int64) (p3 : Int32) (p4 : Int32) (h0 : Heap) (n0 : Nat) (v : Option Value) (h : Heap) (L : List Loc) : Prop := (v = some (.int (1 : Int32))) ∧ (Fr n0 L)
set_option maxRecDepth 65536 in
set_option maxHeartbeats 40000000 in
theorem own_rm0 (l : Launch) (Z : State) (a0 : Array Value) (hw : ∀ d ∈ tables_1, d.before a0 Z = true) (ws : List Jvm.Cond) (q0 : Int64) (q1 : Int64) (q2 : Int64) (p3 : Int32) (p4 : Int32) (h0 : Heap) (n0 : Nat) (Z0 : n0 ≤ h0.size) :
    MetFree l x (head1 (Jvm.Cond.code x code maxLocals ret :: ws) room_1) (fun a U => a = #[(.long q0), (.long q1), (.long q2), (.int p3), (.int p4)] ∧ Z.Warmed39 U.vm ∧ U.heap = h0) (fun _ _ _ _ _ => True) (fun _ U o U' => ∃ v L, o = .returned v ∧ own_Q0 Z q0 q1 q2 p3 p4 h0 n0 v U'.heap L ∧ FrameEnd U o U' L room_1.cells room_1.slots) := by
  refine MetFree.of_bodySF (plainFor_of_name own_pn2) hisR ?_
  intro p e s m args below meth c s₁ Bd hml0 hP hK
  obtain ⟨rfl, hZ, hh⟩ := hP
  have hx := Bd.exec
  have hby := Bd.bytes
  have hml : c.maxLocals = 26 := hml0
  have hown : s.vm.findClass "com/example/evenkeel/evenkeel/FullCyclesPickedPinLaw" = some m.cls := findClass_of_methodNamed Bd.named
  have hnm := (name_of_methodNamed Bd.named Bd.method).1
  have X0 : Stand p l e room_1 s m #[(.long q0), (.long q1), (.long q2), (.int p3), (.int p4)] below meth c s₁ [] 0 0 := Stand.of_body Bd
  have e0 : s₁.heap = h0 := by rw [← hh, Bd.state]; rfl
  have N0 := Fr.nil n0
  have pre0 : ∀ t, Steps p.tables e below (s₁.setTop (mkF m 0 #[.val (.long q0), .second, .val (.long q1), .second, .val (.long q2), .second, .val (.int p3), .val (.int p4), .unset, .unset, .unset, .unset, .unset, .unset, .unset, .unset, .unset, .unset, .unset, .unset, .unset, .unset, .unset, .unset, .unset, .unset] [])) t → Steps p.tables e below (s₁.setTop (entryFrame m #[(.long q0), (.long q1), (.long q2), (.int p3), (.int p4)] maxLocals)) t := fun t k => castTop (own_ef0 m q0 q1 q2 p3 p4) k
  refine own_run (own_st pre0 ?_)
  obtain ⟨v5, hv5⟩ : ∃ z : Int64, z = (q0 &&& (2305843009213693951 : Int64)) := ⟨_, rfl⟩
  obtain ⟨v14, hv14⟩ : ∃ z : Int64, z = ((1 : Int64) + (q1 &&& (2305843009213693951 : Int64))) := ⟨_, rfl⟩
  refine own_st (B := s₁.setTop (mkF m 16 #[.val (.long q0), .second, .val (.long q1), .second, .val (.long q2), .second, .val (.int p3), .val (.int p4), .val (.long v5), .second, .val (.long v14), .second, .unset, .unset, .unset, .unset, .unset, .unset, .unset, .unset, .unset, .unset, .unset, .unset, .unset, .unset] [])) (fun target kt => ?_) ?_
  · show Steps p.tables e below (s₁.setTop (mkF m 0 #[.val (.long q0), .second, .val (.long q1), .second, .val (.long q2), .second, .val (.int p3), .val (.int p4), .unset, .unset, .unset, .unset, .unset, .unset, .unset, .unset, .unset, .unset, .unset, .unset, .unset, .unset, .unset, .unset, .unset, .unset] [])) target
    refine XS.lloadN X0.here hx rfl (hb hby at_0) rfl ?_
    show Steps p.tables e below (s₁.setTop (mkF m 1 #[.val (.long q0), .second, .val (.long q1), .second, .val (.long q2), .second, .val (.int p3), .val (.int p4), .unset, .unset, .unset, .unset, .unset, .unset, .unset, .unset, .unset, .unset, .unset, .unset, .unset, .unset, .unset, .unset, .unset, .unset] [(.long q0)])) target
    refine X0.ldc2Long hx hown (mvT hZ (hw _ (List.mem_of_getElem? (i := 0) rfl))) (g := (mkF m 1 #[.val (.long q0), .second, .val (.long q1), .second, .val (.long q2), .second, .val (.int p3), .val (.int p4), .unset, .unset, .unset, .unset, .unset, .unset, .unset, .unset, .unset, .unset, .unset, .unset, .unset, .unset, .unset, .unset, .unset, .unset] [(.long q0)])) rfl (hb hby at_1) _ ?_
    show Steps p.tables e below (s₁.setTop (mkF m 4 #[.val (.long q0), .second, .val (.long q1), .second, .val (.long q2), .second, .val (.int p3), .val (.int p4), .unset, .unset, .unset, .unset, .unset, .unset, .unset, .unset, .unset, .unset, .unset, .unset, .unset, .unset, .unset, .unset, .unset, .unset] [(.long (2305843009213693951 : Int64)), (.long q0)])) target
    refine XS.land X0.here hx rfl (hb hby at_4) rfl ?_
    show Steps p.tables e below (s₁.setTop (mkF m 5 #[.val (.long q0), .second, .val (.long q1), .second, .val (.long q2), .second, .val (.int p3), .val (.int p4), .unset, .unset, .unset, .unset, .unset, .unset, .unset, .unset, .unset, .unset, .unset, .unset, .unset, .unset, .unset, .unset, .unset, .unset] [(.long (q0 &&& (2305843009213693951 : Int64)))])) target
    refine XS.lstore X0.here hx rfl (hb hby at_5) rfl (l' := #[.val (.long q0), .second, .val (.long q1), .second, .val (.long q2), .second, .val (.int p3), .val (.int p4), .val (.long v5), .second, .unset, .unset, .unset, .unset, .unset, .unset, .unset, .unset, .unset, .unset, .unset, .unset, .unset, .unset, .unset, .unset]) (by subst hv5; rfl) ?_
    show Steps p.tables e below (s₁.setTop (mkF m 7 #[.val (.long q0), .second, .val (.long q1), .second, .val (.long q2), .second, .val (.int p3), .val (.int p4), .val (.long v5), .second, .unset, .unset, .unset, .unset, .unset, .unset, .unset, .unset, .unset, .unset, .unset, .unset, .unset, .unset, .unset, .unset] [])) target
    refine XS.lconst X0.here hx rfl (hb hby at_7) ?_
    show Steps p.tables e below (s₁.setTop (mkF m 8 #[.val (.long q0), .second, .val (.long q1), .second, .val (.long q2), .second, .val (.int p3), .val (.int p4), .val (.long v5), .second, .unset, .unset, .unset, .unset, .unset, .unset, .unset, .unset, .unset, .unset, .unset, .unset, .unset, .unset, .unset, .unset] [(.long (1 : Int64))])) target
    refine XS.lloadN X0.here hx rfl (hb hby at_8) rfl ?_
    show Steps p.tables e below (s₁.setTop (mkF m 9 #[.val (.long q0), .second, .val (.long q1), .second, .val (.long q2), .second, .val (.int p3), .val (.int p4), .val (.long v5), .second, .unset, .unset, .unset, .unset, .unset, .unset, .unset, .unset, .unset, .unset, .unset, .unset, .unset, .unset, .unset, .unset] [(.long q1), (.long (1 : Int64))])) target
    refine X0.ldc2Long hx hown (mvT hZ (hw _ (List.mem_of_getElem? (i := 0) rfl))) (g := (mkF m 9 #[.val (.long q0), .second, .val (.long q1), .second, .val (.long q2), .second, .val (.int p3), .val (.int p4), .val (.long v5), .second, .unset, .unset, .unset, .unset, .unset, .unset, .unset, .unset, .unset, .unset, .unset, .unset, .unset, .unset, .unset, .unset] [(.long q1), (.long (1 : Int64))])) rfl (hb hby at_9) _ ?_
    show Steps p.tables e below (s₁.setTop (mkF m 12 #[.val (.long q0), .second, .val (.long q1), .second, .val (.long q2), .second, .val (.int p3), .val (.int p4), .val (.long v5), .second, .unset, .unset, .unset, .unset, .unset, .unset, .unset, .unset, .unset, .unset, .unset, .unset, .unset, .unset, .unset, .unset] [(.long (2305843009213693951 : Int64)), (.long q1), (.long (1 : Int64))])) target
    refine XS.land X0.here hx rfl (hb hby at_12) rfl ?_
    show Steps p.tables e below (s₁.setTop (mkF m 13 #[.val (.long q0), .second, .val (.long q1), .second, .val (.long q2), .second, .val (.int p3), .val (.int p4), .val (.long v5), .second, .unset, .unset, .unset, .unset, .unset, .unset, .unset, .unset, .unset, .unset, .unset, .unset, .unset, .unset, .unset, .unset] [(.long (q1 &&& (2305843009213693951 : Int64))), (.long (1 : Int64))])) target
    refine XS.ladd X0.here hx rfl (hb hby at_13) rfl ?_
    show Steps p.tables e below (s₁.setTop (mkF m 14 #[.val (.long q0), .second, .val (.long q1), .second, .val (.long q2), .second, .val (.int p3), .val (.int p4), .val (.long v5), .second, .unset, .unset, .unset, .unset, .unset, .unset, .unset, .unset, .unset, .unset, .unset, .unset, .unset, .unset, .unset, .unset] [(.long ((1 : Int64) + (q1 &&& (2305843009213693951 : Int64))))])) target
    refine XS.lstore X0.here hx rfl (hb hby at_14) rfl (l' := #[.val (.long q0), .second, .val (.long q1), .second, .val (.long q2), .second, .val (.int p3), .val (.int p4), .val (.long v5), .second, .val (.long v14), .second, .unset, .unset, .unset, .unset, .unset, .unset, .unset, .unset, .unset, .unset, .unset, .unset, .unset, .unset]) (by subst hv14; rfl) ?_
    exact kt
  have hT := own_tot q1
  rw [← hv14] at hT
  have hT0 : v14 ≠ 0 := fun q => by have h := congrArg Int64.toInt q; rw [show (0 : Int64).toInt = 0 by decide] at h; omega
  refine own_st (B := s₁.setTop (mkF m 20 #[.val (.long q0), .second, .val (.long q1), .second, .val (.long q2), .second, .val (.int p3), .val (.int p4), .val (.long v5), .second, .val (.long v14), .second, .unset, .unset, .unset, .unset, .unset, .unset, .unset, .unset, .unset, .unset, .unset, .unset, .unset, .unset] [(.int (p3 &&& (1 : Int32)))])) (fun target kt => ?_) ?_
  · show Steps p.tables e below (s₁.setTop (mkF m 16 #[.val (.long q0), .second, .val (.long q1), .second, .val (.long q2), .second, .val (.int p3), .val (.int p4), .val (.long v5), .second, .val (.long v14), .second, .unset, .unset, .unset, .unset, .unset, .unset, .unset, .unset, .unset, .unset, .unset, .unset, .unset, .unset] [])) target
    refine XS.iload X0.here hx rfl (hb hby at_16) rfl ?_
    show Steps p.tables e below (s₁.setTop (mkF m 18 #[.val (.long q0), .second, .val (.long q1), .second, .val (.long q2), .second, .val (.int p3), .val (.int p4), .val (.long v5), .second, .val (.long v14), .second, .unset, .unset, .unset, .unset, .unset, .unset, .unset, .unset, .unset, .unset, .unset, .unset, .unset, .unset] [(.int p3)])) target
    refine XS.iconst X0.here hx rfl (hb hby at_18) ?_
    show Steps p.tables e below (s₁.setTop (mkF m 19 #[.val (.long q0), .second, .val (.long q1), .second, .val (.long q2), .second, .val (.int p3), .val (.int p4), .val (.long v5), .second, .val (.long v14), .second, .unset, .unset, .unset, .unset, .unset, .unset, .unset, .unset, .unset, .unset, .unset, .unset, .unset, .unset] [(.int (1 : Int32)), (.int p3)])) target
    refine XS.iand X0.here hx rfl (hb hby at_19) rfl ?_
    exact kt
  obtain ⟨_, ⟨j39_s0, rfl, hj39_s0⟩, st_M39⟩ : own_Lead p.tables e below (s₁.setTop (mkF m 20 #[.val (.long q0), .second, .val (.long q1), .second, .val (.long q2), .second, .val (.int p3), .val (.int p4), .val (.long v5), .second, .val (.long v14), .second, .unset, .unset, .unset, .unset, .unset, .unset, .unset, .unset, .unset, .unset, .unset, .unset, .unset, .unset] [(.int (p3 &&& (1 : Int32)))])) (fun B => ∃ (j39_s0 : Int64), B = s₁.setTop (mkF m 39 #[.val (.long q0), .second, .val (.long q1), .second, .val (.long q2), .second, .val (.int p3), .val (.int p4), .val (.long v5), .second, .val (.long v14), .second, .unset, .unset, .unset, .unset, .unset, .unset, .unset, .unset, .unset, .unset, .unset, .unset, .unset, .unset] [(.long j39_s0)]) ∧ j39_s0 = (if (p3 &&& (1 : Int32)) = (0 : Int32) then ((q2 &&& (2305843009213693951 : Int64)) % v14) else (v14 - (1 : Int64)))) := by
    by_cases c20 : (p3 &&& (1 : Int32)) = (0 : Int32)
    · refine own_st (B := s₁.setTop (mkF m 39 #[.val (.long q0), .second, .val (.long q1), .second, .val (.long q2), .second, .val (.int p3), .val (.int p4), .val (.long v5), .second, .val (.long v14), .second, .unset, .unset, .unset, .unset, .unset, .unset, .unset, .unset, .unset, .unset, .unset, .unset, .unset, .unset] [(.long ((q2 &&& (2305843009213693951 : Int64)) % v14))])) (fun target kt => ?_) ?_
      · show Steps p.tables e below (s₁.setTop (mkF m 20 #[.val (.long q0), .second, .val (.long q1), .second, .val (.long q2), .second, .val (.int p3), .val (.int p4), .val (.long v5), .second, .val (.long v14), .second, .unset, .unset, .unset, .unset, .unset, .unset, .unset, .unset, .unset, .unset, .unset, .unset, .unset, .unset] [(.int (p3 &&& (1 : Int32)))])) target
        refine XS.ifYes X0.here hx rfl (pc0 := 20) (pc' := 30) rfl (hb hby at_20) rfl ((if0 _ _).trans (teq c20).1) (by decide) (by decide) ?_
        show Steps p.tables e below (s₁.setTop (mkF m 30 #[.val (.long q0), .second, .val (.long q1), .second, .val (.long q2), .second, .val (.int p3), .val (.int p4), .val (.long v5), .second, .val (.long v14), .second, .unset, .unset, .unset, .unset, .unset, .unset, .unset, .unset, .unset, .unset, .unset, .unset, .unset, .unset] [])) target
        refine XS.lload X0.here hx rfl (hb hby at_30) rfl ?_
        show Steps p.tables e below (s₁.setTop (mkF m 32 #[.val (.long q0), .second, .val (.long q1), .second, .val (.long q2), .second, .val (.int p3), .val (.int p4), .val (.long v5), .second, .val (.long v14), .second, .unset, .unset, .unset, .unset, .unset, .unset, .unset, .unset, .unset, .unset, .unset, .unset, .unset, .unset] [(.long q2)])) target
        refine X0.ldc2Long hx hown (mvT hZ (hw _ (List.mem_of_getElem? (i := 0) rfl))) (g := (mkF m 32 #[.val (.long q0), .second, .val (.long q1), .second, .val (.long q2), .second, .val (.int p3), .val (.int p4), .val (.long v5), .second, .val (.long v14), .second, .unset, .unset, .unset, .unset, .unset, .unset, .unset, .unset, .unset, .unset, .unset, .unset, .unset, .unset] [(.long q2)])) rfl (hb hby at_32) _ ?_
        show Steps p.tables e below (s₁.setTop (mkF m 35 #[.val (.long q0), .second, .val (.long q1), .second, .val (.long q2), .second, .val (.int p3), .val (.int p4), .val (.long v5), .second, .val (.long v14), .second, .unset, .unset, .unset, .unset, .unset, .unset, .unset, .unset, .unset, .unset, .unset, .unset, .unset, .unset] [(.long (2305843009213693951 : Int64)), (.long q2)])) target
        refine XS.land X0.here hx rfl (hb hby at_35) rfl ?_
        show Steps p.tables e below (s₁.setTop (mkF m 36 #[.val (.long q0), .second, .val (.long q1), .second, .val (.long q2), .second, .val (.int p3), .val (.int p4), .val (.long v5), .second, .val (.long v14), .second, .unset, .unset, .unset, .unset, .unset, .unset, .unset, .unset, .unset, .unset, .unset, .unset, .unset, .unset] [(.long (q2 &&& (2305843009213693951 : Int64)))])) target
        refine XS.lload X0.here hx rfl (hb hby at_36) rfl ?_
        show Steps p.tables e below (s₁.setTop (mkF m 38 #[.val (.long q0), .second, .val (.long q1), .second, .val (.long q2), .second, .val (.int p3), .val (.int p4), .val (.long v5), .second, .val (.long v14), .second, .unset, .unset, .unset, .unset, .unset, .unset, .unset, .unset, .unset, .unset, .unset, .unset, .unset, .unset] [(.long v14), (.long (q2 &&& (2305843009213693951 : Int64)))])) target
        refine own_lremM X0 hx rfl (hb hby at_38) rfl hT0 ?_
        exact kt
      exact ⟨_, ⟨((q2 &&& (2305843009213693951 : Int64)) % v14), rfl, (if_pos c20).symm⟩, fun _ k => k⟩
    · refine own_st (B := s₁.setTop (mkF m 39 #[.val (.long q0), .second, .val (.long q1), .second, .val (.long q2), .second, .val (.int p3), .val (.int p4), .val (.long v5), .second, .val (.long v14), .second, .unset, .unset, .unset, .unset, .unset, .unset, .unset, .unset, .unset, .unset, .unset, .unset, .unset, .unset] [(.long (v14 - (1 : Int64)))])) (fun target kt => ?_) ?_
      · show Steps p.tables e below (s₁.setTop (mkF m 20 #[.val (.long q0), .second, .val (.long q1), .second, .val (.long q2), .second, .val (.int p3), .val (.int p4), .val (.long v5), .second, .val (.long v14), .second, .unset, .unset, .unset, .unset, .unset, .unset, .unset, .unset, .unset, .unset, .unset, .unset, .unset, .unset] [(.int (p3 &&& (1 : Int32)))])) target
        refine XS.ifNo X0.here hx rfl (hb hby at_20) rfl ((if0 _ _).trans (feq c20).1) ?_
        show Steps p.tables e below (s₁.setTop (mkF m 23 #[.val (.long q0), .second, .val (.long q1), .second, .val (.long q2), .second, .val (.int p3), .val (.int p4), .val (.long v5), .second, .val (.long v14), .second, .unset, .unset, .unset, .unset, .unset, .unset, .unset, .unset, .unset, .unset, .unset, .unset, .unset, .unset] [])) target
        refine XS.lload X0.here hx rfl (hb hby at_23) rfl ?_
        show Steps p.tables e below (s₁.setTop (mkF m 25 #[.val (.long q0), .second, .val (.long q1), .second, .val (.long q2), .second, .val (.int p3), .val (.int p4), .val (.long v5), .second, .val (.long v14), .second, .unset, .unset, .unset, .unset, .unset, .unset, .unset, .unset, .unset, .unset, .unset, .unset, .unset, .unset] [(.long v14)])) target
        refine XS.lconst X0.here hx rfl (hb hby at_25) ?_
        show Steps p.tables e below (s₁.setTop (mkF m 26 #[.val (.long q0), .second, .val (.long q1), .second, .val (.long q2), .second, .val (.int p3), .val (.int p4), .val (.long v5), .second, .val (.long v14), .second, .unset, .unset, .unset, .unset, .unset, .unset, .unset, .unset, .unset, .unset, .unset, .unset, .unset, .unset] [(.long (1 : Int64)), (.long v14)])) target
        refine XS.lsub X0.here hx rfl (hb hby at_26) rfl ?_
        show Steps p.tables e below (s₁.setTop (mkF m 27 #[.val (.long q0), .second, .val (.long q1), .second, .val (.long q2), .second, .val (.int p3), .val (.int p4), .val (.long v5), .second, .val (.long v14), .second, .unset, .unset, .unset, .unset, .unset, .unset, .unset, .unset, .unset, .unset, .unset, .unset, .unset, .unset] [(.long (v14 - (1 : Int64)))])) target
        refine XS.goto X0.here hx rfl (pc0 := 27) (pc' := 39) rfl (hb hby at_27) (by decide) (by decide) ?_
        exact kt
      exact ⟨_, ⟨(v14 - (1 : Int64)), rfl, (if_neg c20).symm⟩, fun _ k => k⟩
  refine own_st st_M39 ?_
  refine own_st (B := s₁.setTop (mkF m 45 #[.val (.long q0), .second, .val (.long q1), .second, .val (.long q2), .second, .val (.int p3), .val (.int p4), .val (.long v5), .second, .val (.long v14), .second, .val (.long j39_s0), .second, .unset, .unset, .unset, .unset, .unset, .unset, .unset, .unset, .unset, .unset, .unset, .unset] [(.int (p3 &&& (2 : Int32)))])) (fun target kt => ?_) ?_
  · show Steps p.tables e below (s₁.setTop (mkF m 39 #[.val (.long q0), .second, .val (.long q1), .second, .val (.long q2), .second, .val (.int p3), .val (.int p4), .val (.long v5), .second, .val (.long v14), .second, .unset, .unset, .unset, .unset, .unset, .unset, .unset, .unset, .unset, .unset, .unset, .unset, .unset, .unset] [(.long j39_s0)])) target
    refine XS.lstore X0.here hx rfl (hb hby at_39) rfl (l' := #[.val (.long q0), .second, .val (.long q1), .second, .val (.long q2), .second, .val (.int p3), .val (.int p4), .val (.long v5), .second, .val (.long v14), .second, .val (.long j39_s0), .second, .unset, .unset, .unset, .unset, .unset, .unset, .unset, .unset, .unset, .unset, .unset, .unset]) rfl ?_
    show Steps p.tables e below (s₁.setTop (mkF m 41 #[.val (.long q0), .second, .val (.long q1), .second, .val (.long q2), .second, .val (.int p3), .val (.int p4), .val (.long v5), .second, .val (.long v14), .second, .val (.long j39_s0), .second, .unset, .unset, .unset, .unset, .unset, .unset, .unset, .unset, .unset, .unset, .unset, .unset] [])) target
    refine XS.iload X0.here hx rfl (hb hby at_41) rfl ?_
    show Steps p.tables e below (s₁.setTop (mkF m 43 #[.val (.long q0), .second, .val (.long q1), .second, .val (.long q2), .second, .val (.int p3), .val (.int p4), .val (.long v5), .second, .val (.long v14), .second, .val (.long j39_s0), .second, .unset, .unset, .unset, .unset, .unset, .unset, .unset, .unset, .unset, .unset, .unset, .unset] [(.int p3)])) target
    refine XS.iconst X0.here hx rfl (hb hby at_43) ?_
    show Steps p.tables e below (s₁.setTop (mkF m 44 #[.val (.long q0), .second, .val (.long q1), .second, .val (.long q2), .second, .val (.int p3), .val (.int p4), .val (.long v5), .second, .val (.long v14), .second, .val (.long j39_s0), .second, .unset, .unset, .unset, .unset, .unset, .unset, .unset, .unset, .unset, .unset, .unset, .unset] [(.int (2 : Int32)), (.int p3)])) target
    refine XS.iand X0.here hx rfl (hb hby at_44) rfl ?_
    exact kt
  obtain ⟨_, ⟨j53_s0, rfl, rfl⟩, st_M53⟩ : own_Lead p.tables e below (s₁.setTop (mkF m 45 #[.val (.long q0), .second, .val (.long q1), .second, .val (.long q2), .second, .val (.int p3), .val (.int p4), .val (.long v5), .second, .val (.long v14), .second, .val (.long j39_s0), .second, .unset, .unset, .unset, .unset, .unset, .unset, .unset, .unset, .unset, .unset, .unset, .unset] [(.int (p3 &&& (2 : Int32)))])) (fun B => ∃ (j53_s0 : Int32), B = s₁.setTop (mkF m 53 #[.val (.long q0), .second, .val (.long q1), .second, .val (.long q2), .second, .val (.int p3), .val (.int p4), .val (.long v5), .second, .val (.long v14), .second, .val (.long j39_s0), .second, .unset, .unset, .unset, .unset, .unset, .unset, .unset, .unset, .unset, .unset, .unset, .unset] [(.int j53_s0)]) ∧ j53_s0 = own_b (¬ ((p3 &&& (2 : Int32)) = (0 : Int32)))) := by
    by_cases c45 : (p3 &&& (2 : Int32)) = (0 : Int32)
    · refine own_st (B := s₁.setTop (mkF m 53 #[.val (.long q0), .second, .val (.long q1), .second, .val (.long q2), .second, .val (.int p3), .val (.int p4), .val (.long v5), .second, .val (.long v14), .second, .val (.long j39_s0), .second, .unset, .unset, .unset, .unset, .unset, .unset, .unset, .unset, .unset, .unset, .unset, .unset] [(.int (0 : Int32))])) (fun target kt => ?_) ?_
      · show Steps p.tables e below (s₁.setTop (mkF m 45 #[.val (.long q0), .second, .val (.long q1), .second, .val (.long q2), .second, .val (.int p3), .val (.int p4), .val (.long v5), .second, .val (.long v14), .second, .val (.long j39_s0), .second, .unset, .unset, .unset, .unset, .unset, .unset, .unset, .unset, .unset, .unset, .unset, .unset] [(.int (p3 &&& (2 : Int32)))])) target
        refine XS.ifYes X0.here hx rfl (pc0 := 45) (pc' := 52) rfl (hb hby at_45) rfl ((if0 _ _).trans (teq c45).1) (by decide) (by decide) ?_
        show Steps p.tables e below (s₁.setTop (mkF m 52 #[.val (.long q0), .second, .val (.long q1), .second, .val (.long q2), .second, .val (.int p3), .val (.int p4), .val (.long v5), .second, .val (.long v14), .second, .val (.long j39_s0), .second, .unset, .unset, .unset, .unset, .unset, .unset, .unset, .unset, .unset, .unset, .unset, .unset] [])) target
        refine XS.iconst X0.here hx rfl (hb hby at_52) ?_
        exact kt
      exact ⟨_, ⟨(0 : Int32), rfl, (own_b0 (fun w => w c45)).symm⟩, fun _ k => k⟩
    · refine own_st (B := s₁.setTop (mkF m 53 #[.val (.long q0), .second, .val (.long q1), .second, .val (.long q2), .second, .val (.int p3), .val (.int p4), .val (.long v5), .second, .val (.long v14), .second, .val (.long j39_s0), .second, .unset, .unset, .unset, .unset, .unset, .unset, .unset, .unset, .unset, .unset, .unset, .unset] [(.int (1 : Int32))])) (fun target kt => ?_) ?_
      · show Steps p.tables e below (s₁.setTop (mkF m 45 #[.val (.long q0), .second, .val (.long q1), .second, .val (.long q2), .second, .val (.int p3), .val (.int p4), .val (.long v5), .second, .val (.long v14), .second, .val (.long j39_s0), .second, .unset, .unset, .unset, .unset, .unset, .unset, .unset, .unset, .unset, .unset, .unset, .unset] [(.int (p3 &&& (2 : Int32)))])) target
        refine XS.ifNo X0.here hx rfl (hb hby at_45) rfl ((if0 _ _).trans (feq c45).1) ?_
        show Steps p.tables e below (s₁.setTop (mkF m 48 #[.val (.long q0), .second, .val (.long q1), .second, .val (.long q2), .second, .val (.int p3), .val (.int p4), .val (.long v5), .second, .val (.long v14), .second, .val (.long j39_s0), .second, .unset, .unset, .unset, .unset, .unset, .unset, .unset, .unset, .unset, .unset, .unset, .unset] [])) target
        refine XS.iconst X0.here hx rfl (hb hby at_48) ?_
        show Steps p.tables e below (s₁.setTop (mkF m 49 #[.val (.long q0), .second, .val (.long q1), .second, .val (.long q2), .second, .val (.int p3), .val (.int p4), .val (.long v5), .second, .val (.long v14), .second, .val (.long j39_s0), .second, .unset, .unset, .unset, .unset, .unset, .unset, .unset, .unset, .unset, .unset, .unset, .unset] [(.int (1 : Int32))])) target
        refine XS.goto X0.here hx rfl (pc0 := 49) (pc' := 53) rfl (hb hby at_49) (by decide) (by decide) ?_
        exact kt
      exact ⟨_, ⟨(1 : Int32), rfl, (own_b1 c45).symm⟩, fun _ k => k⟩
  refine own_st st_M53 ?_
  refine own_st (B := s₁.setTop (mkF m 59 #[.val (.long q0), .second, .val (.long q1), .second, .val (.long q2), .second, .val (.int p3), .val (.int p4), .val (.long v5), .second, .val (.long v14), .second, .val (.long j39_s0), .second, .val (.int (own_b (¬ ((p3 &&& (2 : Int32)) = (0 : Int32))))), .unset, .unset, .unset, .unset, .unset, .unset, .unset, .unset, .unset, .unset, .unset] [(.int (p3 &&& (4 : Int32)))])) (fun target kt => ?_) ?_
  · show Steps p.tables e below (s₁.setTop (mkF m 53 #[.val (.long q0), .second, .val (.long q1), .second, .val (.long q2), .second, .val (.int p3), .val (.int p4), .val (.long v5), .second, .val (.long v14), .second, .val (.long j39_s0), .second, .unset, .unset, .unset, .unset, .unset, .unset, .unset, .unset, .unset, .unset, .unset, .unset] [(.int (own_b (¬ ((p3 &&& (2 : Int32)) = (0 : Int32)))))])) target
    refine XS.istore X0.here hx rfl (hb hby at_53) rfl (l' := #[.val (.long q0), .second, .val (.long q1), .second, .val (.long q2), .second, .val (.int p3), .val (.int p4), .val (.long v5), .second, .val (.long v14), .second, .val (.long j39_s0), .second, .val (.int (own_b (¬ ((p3 &&& (2 : Int32)) = (0 : Int32))))), .unset, .unset, .unset, .unset, .unset, .unset, .unset, .unset, .unset, .unset, .unset]) rfl ?_
    show Steps p.tables e below (s₁.setTop (mkF m 55 #[.val (.long q0), .second, .val (.long q1), .second, .val (.long q2), .second, .val (.int p3), .val (.int p4), .val (.long v5), .second, .val (.long v14), .second, .val (.long j39_s0), .second, .val (.int (own_b (¬ ((p3 &&& (2 : Int32)) = (0 : Int32))))), .unset, .unset, .unset, .unset, .unset, .unset, .unset, .unset, .unset, .unset, .unset] [])) target
    refine XS.iload X0.here hx rfl (hb hby at_55) rfl ?_
    show Steps p.tables e below (s₁.setTop (mkF m 57 #[.val (.long q0), .second, .val (.long q1), .second, .val (.long q2), .second, .val (.int p3), .val (.int p4), .val (.long v5), .second, .val (.long v14), .second, .val (.long j39_s0), .second, .val (.int (own_b (¬ ((p3 &&& (2 : Int32)) = (0 : Int32))))), .unset, .unset, .unset, .unset, .unset, .unset, .unset, .unset, .unset, .unset, .unset] [(.int p3)])) target
    refine XS.iconst X0.here hx rfl (hb hby at_57) ?_
    show Steps p.tables e below (s₁.setTop (mkF m 58 #[.val (.long q0), .second, .val (.long q1), .second, .val (.long q2), .second, .val (.int p3), .val (.int p4), .val (.long v5), .second, .val (.long v14), .second, .val (.long j39_s0), .second, .val (.int (own_b (¬ ((p3 &&& (2 : Int32)) = (0 : Int32))))), .unset, .unset, .unset, .unset, .unset, .unset, .unset, .unset, .unset, .unset, .unset] [(.int (4 : Int32)), (.int p3)])) target
    refine XS.iand X0.here hx rfl (hb hby at_58) rfl ?_
    exact kt
  obtain ⟨_, ⟨j67_s0, rfl, rfl⟩, st_M67⟩ : own_Lead p.tables e below (s₁.setTop (mkF m 59 #[.val (.long q0), .second, .val (.long q1), .second, .val (.long q2), .second, .val (.int p3), .val (.int p4), .val (.long v5), .second, .val (.long v14), .second, .val (.long j39_s0), .second, .val (.int (own_b (¬ ((p3 &&& (2 : Int32)) = (0 : Int32))))), .unset, .unset, .unset, .unset, .unset, .unset, .unset, .unset, .unset, .unset, .unset] [(.int (p3 &&& (4 : Int32)))])) (fun B => ∃ (j67_s0 : Int32), B = s₁.setTop (mkF m 67 #[.val (.long q0), .second, .val (.long q1), .second, .val (.long q2), .second, .val (.int p3), .val (.int p4), .val (.long v5), .second, .val (.long v14), .second, .val (.long j39_s0), .second, .val (.int (own_b (¬ ((p3 &&& (2 : Int32)) = (0 : Int32))))), .unset, .unset, .unset, .unset, .unset, .unset, .unset, .unset, .unset, .unset, .unset] [(.int j67_s0)]) ∧ j67_s0 = own_b (¬ ((p3 &&& (4 : Int32)) = (0 : Int32)))) := by
    by_cases c59 : (p3 &&& (4 : Int32)) = (0 : Int32)
    · refine own_st (B := s₁.setTop (mkF m 67 #[.val (.long q0), .second, .val (.long q1), .second, .val (.long q2), .second, .val (.int p3), .val (.int p4), .val (.long v5), .second, .val (.long v14), .second, .val (.long j39_s0), .second, .val (.int (own_b (¬ ((p3 &&& (2 : Int32)) = (0 : Int32))))), .unset, .unset, .unset, .unset, .unset, .unset, .unset, .unset, .unset, .unset, .unset] [(.int (0 : Int32))])) (fun target kt => ?_) ?_
      · show Steps p.tables e below (s₁.setTop (mkF m 59 #[.val (.long q0), .second, .val (.long q1), .second, .val (.long q2), .second, .val (.int p3), .val (.int p4), .val (.long v5), .second, .val (.long v14), .second, .val (.long j39_s0), .second, .val (.int (own_b (¬ ((p3 &&& (2 : Int32)) = (0 : Int32))))), .unset, .unset, .unset, .unset, .unset, .unset, .unset, .unset, .unset, .unset, .unset] [(.int (p3 &&& (4 : Int32)))])) target
        refine XS.ifYes X0.here hx rfl (pc0 := 59) (pc' := 66) rfl (hb hby at_59) rfl ((if0 _ _).trans (teq c59).1) (by decide) (by decide) ?_
        show Steps p.tables e below (s₁.setTop (mkF m 66 #[.val (.long q0), .second, .val (.long q1), .second, .val (.long q2), .second, .val (.int p3), .val (.int p4), .val (.long v5), .second, .val (.long v14), .second, .val (.long j39_s0), .second, .val (.int (own_b (¬ ((p3 &&& (2 : Int32)) = (0 : Int32))))), .unset, .unset, .unset, .unset, .unset, .unset, .unset, .unset, .unset, .unset, .unset] [])) target
        refine XS.iconst X0.here hx rfl (hb hby at_66) ?_
        exact kt
      exact ⟨_, ⟨(0 : Int32), rfl, (own_b0 (fun w => w c59)).symm⟩, fun _ k => k⟩
    · refine own_st (B := s₁.setTop (mkF m 67 #[.val (.long q0), .second, .val (.long q1), .second, .val (.long q2), .second, .val (.int p3), .val (.int p4), .val (.long v5), .second, .val (.long v14), .second, .val (.long j39_s0), .second, .val (.int (own_b (¬ ((p3 &&& (2 : Int32)) = (0 : Int32))))), .unset, .unset, .unset, .unset, .unset, .unset, .unset, .unset, .unset, .unset, .unset] [(.int (1 : Int32))])) (fun target kt => ?_) ?_
      · show Steps p.tables e below (s₁.setTop (mkF m 59 #[.val (.long q0), .second, .val (.long q1), .second, .val (.long q2), .second, .val (.int p3), .val (.int p4), .val (.long v5), .second, .val (.long v14), .second, .val (.long j39_s0), .second, .val (.int (own_b (¬ ((p3 &&& (2 : Int32)) = (0 : Int32))))), .unset, .unset, .unset, .unset, .unset, .unset, .unset, .unset, .unset, .unset, .unset] [(.int (p3 &&& (4 : Int32)))])) target
        refine XS.ifNo X0.here hx rfl (hb hby at_59) rfl ((if0 _ _).trans (feq c59).1) ?_
        show Steps p.tables e below (s₁.setTop (mkF m 62 #[.val (.long q0), .second, .val (.long q1), .second, .val (.long q2), .second, .val (.int p3), .val (.int p4), .val (.long v5), .second, .val (.long v14), .second, .val (.long j39_s0), .second, .val (.int (own_b (¬ ((p3 &&& (2 : Int32)) = (0 : Int32))))), .unset, .unset, .unset, .unset, .unset, .unset, .unset, .unset, .unset, .unset, .unset] [])) target
        refine XS.iconst X0.here hx rfl (hb hby at_62) ?_
        show Steps p.tables e below (s₁.setTop (mkF m 63 #[.val (.long q0), .second, .val (.long q1), .second, .val (.long q2), .second, .val (.int p3), .val (.int p4), .val (.long v5), .second, .val (.long v14), .second, .val (.long j39_s0), .second, .val (.int (own_b (¬ ((p3 &&& (2 : Int32)) = (0 : Int32))))), .unset, .unset, .unset, .unset, .unset, .unset, .unset, .unset, .unset, .unset, .unset] [(.int (1 : Int32))])) target
        refine XS.goto X0.here hx rfl (pc0 := 63) (pc' := 67) rfl (hb hby at_63) (by decide) (by decide) ?_
        exact kt
      exact ⟨_, ⟨(1 : Int32), rfl, (own_b1 c59).symm⟩, fun _ k => k⟩
  refine own_st st_M67 ?_
  refine own_st (B := s₁.setTop (mkF m 74 #[.val (.long q0), .second, .val (.long q1), .second, .val (.long q2), .second, .val (.int p3), .val (.int p4), .val (.long v5), .second, .val (.long v14), .second, .val (.long j39_s0), .second, .val (.int (own_b (¬ ((p3 &&& (2 : Int32)) = (0 : Int32))))), .val (.int (own_b (¬ ((p3 &&& (4 : Int32)) = (0 : Int32))))), .unset, .unset, .unset, .unset, .unset, .unset, .unset, .unset, .unset, .unset] [(.int (p3 &&& (8 : Int32)))])) (fun target kt => ?_) ?_
  · show Steps p.tables e below (s₁.setTop (mkF m 67 #[.val (.long q0), .second, .val (.long q1), .second, .val (.long q2), .second, .val (.int p3), .val (.int p4), .val (.long v5), .second, .val (.long v14), .second, .val (.long j39_s0), .second, .val (.int (own_b (¬ ((p3 &&& (2 : Int32)) = (0 : Int32))))), .unset, .unset, .unset, .unset, .unset, .unset, .unset, .unset, .unset, .unset, .unset] [(.int (own_b (¬ ((p3 &&& (4 : Int32)) = (0 : Int32)))))])) target
    refine XS.istore X0.here hx rfl (hb hby at_67) rfl (l' := #[.val (.long q0), .second, .val (.long q1), .second, .val (.long q2), .second, .val (.int p3), .val (.int p4), .val (.long v5), .second, .val (.long v14), .second, .val (.long j39_s0), .second, .val (.int (own_b (¬ ((p3 &&& (2 : Int32)) = (0 : Int32))))), .val (.int (own_b (¬ ((p3 &&& (4 : Int32)) = (0 : Int32))))), .unset, .unset, .unset, .unset, .unset, .unset, .unset, .unset, .unset, .unset]) rfl ?_
    show Steps p.tables e below (s₁.setTop (mkF m 69 #[.val (.long q0), .second, .val (.long q1), .second, .val (.long q2), .second, .val (.int p3), .val (.int p4), .val (.long v5), .second, .val (.long v14), .second, .val (.long j39_s0), .second, .val (.int (own_b (¬ ((p3 &&& (2 : Int32)) = (0 : Int32))))), .val (.int (own_b (¬ ((p3 &&& (4 : Int32)) = (0 : Int32))))), .unset, .unset, .unset, .unset, .unset, .unset, .unset, .unset, .unset, .unset] [])) target
    refine XS.iload X0.here hx rfl (hb hby at_69) rfl ?_
    show Steps p.tables e below (s₁.setTop (mkF m 71 #[.val (.long q0), .second, .val (.long q1), .second, .val (.long q2), .second, .val (.int p3), .val (.int p4), .val (.long v5), .second, .val (.long v14), .second, .val (.long j39_s0), .second, .val (.int (own_b (¬ ((p3 &&& (2 : Int32)) = (0 : Int32))))), .val (.int (own_b (¬ ((p3 &&& (4 : Int32)) = (0 : Int32))))), .unset, .unset, .unset, .unset, .unset, .unset, .unset, .unset, .unset, .unset] [(.int p3)])) target
    refine XS.bipush X0.here hx rfl (hb hby at_71) ?_
    show Steps p.tables e below (s₁.setTop (mkF m 73 #[.val (.long q0), .second, .val (.long q1), .second, .val (.long q2), .second, .val (.int p3), .val (.int p4), .val (.long v5), .second, .val (.long v14), .second, .val (.long j39_s0), .second, .val (.int (own_b (¬ ((p3 &&& (2 : Int32)) = (0 : Int32))))), .val (.int (own_b (¬ ((p3 &&& (4 : Int32)) = (0 : Int32))))), .unset, .unset, .unset, .unset, .unset, .unset, .unset, .unset, .unset, .unset] [(.int (8 : Int32)), (.int p3)])) target
    refine XS.iand X0.here hx rfl (hb hby at_73) rfl ?_
    exact kt
  obtain ⟨_, ⟨j82_s0, rfl, rfl⟩, st_M82⟩ : own_Lead p.tables e below (s₁.setTop (mkF m 74 #[.val (.long q0), .second, .val (.long q1), .second, .val (.long q2), .second, .val (.int p3), .val (.int p4), .val (.long v5), .second, .val (.long v14), .second, .val (.long j39_s0), .second, .val (.int (own_b (¬ ((p3 &&& (2 : Int32)) = (0 : Int32))))), .val (.int (own_b (¬ ((p3 &&& (4 : Int32)) = (0 : Int32))))), .unset, .unset, .unset, .unset, .unset, .unset, .unset, .unset, .unset, .unset] [(.int (p3 &&& (8 : Int32)))])) (fun B => ∃ (j82_s0 : Int32), B = s₁.setTop (mkF m 82 #[.val (.long q0), .second, .val (.long q1), .second, .val (.long q2), .second, .val (.int p3), .val (.int p4), .val (.long v5), .second, .val (.long v14), .second, .val (.long j39_s0), .second, .val (.int (own_b (¬ ((p3 &&& (2 : Int32)) = (0 : Int32))))), .val (.int (own_b (¬ ((p3 &&& (4 : Int32)) = (0 : Int32))))), .unset, .unset, .unset, .unset, .unset, .unset, .unset, .unset, .unset, .unset] [(.int j82_s0)]) ∧ j82_s0 = own_b (¬ ((p3 &&& (8 : Int32)) = (0 : Int32)))) := by
    by_cases c74 : (p3 &&& (8 : Int32)) = (0 : Int32)
    · refine own_st (B := s₁.setTop (mkF m 82 #[.val (.long q0), .second, .val (.long q1), .second, .val (.long q2), .second, .val (.int p3), .val (.int p4), .val (.long v5), .second, .val (.long v14), .second, .val (.long j39_s0), .second, .val (.int (own_b (¬ ((p3 &&& (2 : Int32)) = (0 : Int32))))), .val (.int (own_b (¬ ((p3 &&& (4 : Int32)) = (0 : Int32))))), .unset, .unset, .unset, .unset, .unset, .unset, .unset, .unset, .unset, .unset] [(.int (0 : Int32))])) (fun target kt => ?_) ?_
      · show Steps p.tables e below (s₁.setTop (mkF m 74 #[.val (.long q0), .second, .val (.long q1), .second, .val (.long q2), .second, .val (.int p3), .val (.int p4), .val (.long v5), .second, .val (.long v14), .second, .val (.long j39_s0), .second, .val (.int (own_b (¬ ((p3 &&& (2 : Int32)) = (0 : Int32))))), .val (.int (own_b (¬ ((p3 &&& (4 : Int32)) = (0 : Int32))))), .unset, .unset, .unset, .unset, .unset, .unset, .unset, .unset, .unset, .unset] [(.int (p3 &&& (8 : Int32)))])) target
        refine XS.ifYes X0.here hx rfl (pc0 := 74) (pc' := 81) rfl (hb hby at_74) rfl ((if0 _ _).trans (teq c74).1) (by decide) (by decide) ?_
        show Steps p.tables e below (s₁.setTop (mkF m 81 #[.val (.long q0), .second, .val (.long q1), .second, .val (.long q2), .second, .val (.int p3), .val (.int p4), .val (.long v5), .second, .val (.long v14), .second, .val (.long j39_s0), .second, .val (.int (own_b (¬ ((p3 &&& (2 : Int32)) = (0 : Int32))))), .val (.int (own_b (¬ ((p3 &&& (4 : Int32)) = (0 : Int32))))), .unset, .unset, .unset, .unset, .unset, .unset, .unset, .unset, .unset, .unset] [])) target
        refine XS.iconst X0.here hx rfl (hb hby at_81) ?_
        exact kt
      exact ⟨_, ⟨(0 : Int32), rfl, (own_b0 (fun w => w c74)).symm⟩, fun _ k => k⟩
    · refine own_st (B := s₁.setTop (mkF m 82 #[.val (.long q0), .second, .val (.long q1), .second, .val (.long q2), .second, .val (.int p3), .val (.int p4), .val (.long v5), .second, .val (.long v14), .second, .val (.long j39_s0), .second, .val (.int (own_b (¬ ((p3 &&& (2 : Int32)) = (0 : Int32))))), .val (.int (own_b (¬ ((p3 &&& (4 : Int32)) = (0 : Int32))))), .unset, .unset, .unset, .unset, .unset, .unset, .unset, .unset, .unset, .unset] [(.int (1 : Int32))])) (fun target kt => ?_) ?_
      · show Steps p.tables e below (s₁.setTop (mkF m 74 #[.val (.long q0), .second, .val (.long q1), .second, .val (.long q2), .second, .val (.int p3), .val (.int p4), .val (.long v5), .second, .val (.long v14), .second, .val (.long j39_s0), .second, .val (.int (own_b (¬ ((p3 &&& (2 : Int32)) = (0 : Int32))))), .val (.int (own_b (¬ ((p3 &&& (4 : Int32)) = (0 : Int32))))), .unset, .unset, .unset, .unset, .unset, .unset, .unset, .unset, .unset, .unset] [(.int (p3 &&& (8 : Int32)))])) target
        refine XS.ifNo X0.here hx rfl (hb hby at_74) rfl ((if0 _ _).trans (feq c74).1) ?_
        show Steps p.tables e below (s₁.setTop (mkF m 77 #[.val (.long q0), .second, .val (.long q1), .second, .val (.long q2), .second, .val (.int p3), .val (.int p4), .val (.long v5), .second, .val (.long v14), .second, .val (.long j39_s0), .second, .val (.int (own_b (¬ ((p3 &&& (2 : Int32)) = (0 : Int32))))), .val (.int (own_b (¬ ((p3 &&& (4 : Int32)) = (0 : Int32))))), .unset, .unset, .unset, .unset, .unset, .unset, .unset, .unset, .unset, .unset] [])) target
        refine XS.iconst X0.here hx rfl (hb hby at_77) ?_
        show Steps p.tables e below (s₁.setTop (mkF m 78 #[.val (.long q0), .second, .val (.long q1), .second, .val (.long q2), .second, .val (.int p3), .val (.int p4), .val (.long v5), .second, .val (.long v14), .second, .val (.long j39_s0), .second, .val (.int (own_b (¬ ((p3 &&& (2 : Int32)) = (0 : Int32))))), .val (.int (own_b (¬ ((p3 &&& (4 : Int32)) = (0 : Int32))))), .unset, .unset, .unset, .unset, .unset, .unset, .unset, .unset, .unset, .unset] [(.int (1 : Int32))])) target
        refine XS.goto X0.here hx rfl (pc0 := 78) (pc' := 82) rfl (hb hby at_78) (by decide) (by decide) ?_
        exact kt
      exact ⟨_, ⟨(1 : Int32), rfl, (own_b1 c74).symm⟩, fun _ k => k⟩
  refine own_st st_M82 ?_
  refine own_st (B := s₁.setTop (mkF m 84 #[.val (.long q0), .second, .val (.long q1), .second, .val (.long q2), .second, .val (.int p3), .val (.int p4), .val (.long v5), .second, .val (.long v14), .second, .val (.long j39_s0), .second, .val (.int (own_b (¬ ((p3 &&& (2 : Int32)) = (0 : Int32))))), .val (.int (own_b (¬ ((p3 &&& (4 : Int32)) = (0 : Int32))))), .val (.int (own_b (¬ ((p3 &&& (8 : Int32)) = (0 : Int32))))), .unset, .unset, .unset, .unset, .unset, .unset, .unset, .unset, .unset] [])) (fun target kt => ?_) ?_
  · show Steps p.tables e below (s₁.setTop (mkF m 82 #[.val (.long q0), .second, .val (.long q1), .second, .val (.long q2), .second, .val (.int p3), .val (.int p4), .val (.long v5), .second, .val (.long v14), .second, .val (.long j39_s0), .second, .val (.int (own_b (¬ ((p3 &&& (2 : Int32)) = (0 : Int32))))), .val (.int (own_b (¬ ((p3 &&& (4 : Int32)) = (0 : Int32))))), .unset, .unset, .unset, .unset, .unset, .unset, .unset, .unset, .unset, .unset] [(.int (own_b (¬ ((p3 &&& (8 : Int32)) = (0 : Int32)))))])) target
    refine XS.istore X0.here hx rfl (hb hby at_82) rfl (l' := #[.val (.long q0), .second, .val (.long q1), .second, .val (.long q2), .second, .val (.int p3), .val (.int p4), .val (.long v5), .second, .val (.long v14), .second, .val (.long j39_s0), .second, .val (.int (own_b (¬ ((p3 &&& (2 : Int32)) = (0 : Int32))))), .val (.int (own_b (¬ ((p3 &&& (4 : Int32)) = (0 : Int32))))), .val (.int (own_b (¬ ((p3 &&& (8 : Int32)) = (0 : Int32))))), .unset, .unset, .unset, .unset, .unset, .unset, .unset, .unset, .unset]) rfl ?_
    exact kt
  obtain ⟨Tg84, hg84, Xg84, eg84, Eg84, Ag84, Dg84, -, stg84⟩ := newO X0 hx hZ hown (hw _ (List.mem_of_getElem? (i := 1) rfl)) (hw _ (List.mem_of_getElem? (i := 2) rfl)) (hw _ (List.mem_of_getElem? (i := 3) rfl)) e0 (g := (mkF m 84 #[.val (.long q0), .second, .val (.long q1), .second, .val (.long q2), .second, .val (.int p3), .val (.int p4), .val (.long v5), .second, .val (.long v14), .second, .val (.long j39_s0), .second, .val (.int (own_b (¬ ((p3 &&& (2 : Int32)) = (0 : Int32))))), .val (.int (own_b (¬ ((p3 &&& (4 : Int32)) = (0 : Int32))))), .val (.int (own_b (¬ ((p3 &&& (8 : Int32)) = (0 : Int32))))), .unset, .unset, .unset, .unset, .unset, .unset, .unset, .unset, .unset] [])) rfl (hb hby at_84) (by decide) (by decide)
  obtain ⟨b84, gg84⟩ : ∃ z, z = h0.size := ⟨_, rfl⟩
  rw [← gg84] at Ag84 Dg84 stg84
  refine own_st stg84 ?_
  have g_b84 : n0 ≤ b84 := Nat.le_trans Z0 (Nat.le_of_eq gg84.symm)
  have Zz : n0 ≤ hg84.size := Nat.le_trans Z0 Eg84.1
  have F : Fld Z hg84 b84 "com/example/evenkeel/evenkeel/FullCycles" "steady" "Z" (.int (0 : Int32)) := Dg84 (Or.inl (hw _ (List.mem_of_getElem? (i := 17) rfl))) (ty := .boolean) (by decide)
  have F_1 : Fld Z hg84 b84 "com/example/evenkeel/evenkeel/FullCycles" "picks" "J" (.long (0 : Int64)) := Dg84 (Or.inl (hw _ (List.mem_of_getElem? (i := 19) rfl))) (ty := .long) (by decide)
  have F_2 : Fld Z hg84 b84 "com/example/evenkeel/evenkeel/FullCycles" "began" "J" (.long (0 : Int64)) := Dg84 (Or.inl (hw _ (List.mem_of_getElem? (i := 25) rfl))) (ty := .long) (by decide)
  have F_3 : Fld Z hg84 b84 "com/example/evenkeel/evenkeel/FullCycles" "made" "J" (.long (0 : Int64)) := Dg84 (Or.inl (hw _ (List.mem_of_getElem? (i := 27) rfl))) (ty := .long) (by decide)
  have F_4 : Fld Z hg84 b84 "com/example/evenkeel/evenkeel/FullCycles" "holding" "Z" (.int (0 : Int32)) := Dg84 (Or.inl (hw _ (List.mem_of_getElem? (i := 29) rfl))) (ty := .boolean) (by decide)
  have F_5 : Fld Z hg84 b84 "com/example/evenkeel/evenkeel/FullCycles" "total" "J" (.long (0 : Int64)) := Dg84 (Or.inl (hw _ (List.mem_of_getElem? (i := 31) rfl))) (ty := .long) (by decide)
  have F_6 : Fld Z hg84 b84 "com/example/evenkeel/evenkeel/FullCycles" "taking" "I" (.int (0 : Int32)) := Dg84 (Or.inl (hw _ (List.mem_of_getElem? (i := 33) rfl))) (ty := .int) (by decide)
  refine own_st (B := Tg84.setTop (mkF m 88 #[.val (.long q0), .second, .val (.long q1), .second, .val (.long q2), .second, .val (.int p3), .val (.int p4), .val (.long v5), .second, .val (.long v14), .second, .val (.long j39_s0), .second, .val (.int (own_b (¬ ((p3 &&& (2 : Int32)) = (0 : Int32))))), .val (.int (own_b (¬ ((p3 &&& (4 : Int32)) = (0 : Int32))))), .val (.int (own_b (¬ ((p3 &&& (8 : Int32)) = (0 : Int32))))), .unset, .unset, .unset, .unset, .unset, .unset, .unset, .unset, .unset] [(.ref b84), (.ref b84)])) (fun target kt => ?_) ?_
  · show Steps p.tables e below (Tg84.setTop (mkF m 87 #[.val (.long q0), .second, .val (.long q1), .second, .val (.long q2), .second, .val (.int p3), .val (.int p4), .val (.long v5), .second, .val (.long v14), .second, .val (.long j39_s0), .second, .val (.int (own_b (¬ ((p3 &&& (2 : Int32)) = (0 : Int32))))), .val (.int (own_b (¬ ((p3 &&& (4 : Int32)) = (0 : Int32))))), .val (.int (own_b (¬ ((p3 &&& (8 : Int32)) = (0 : Int32))))), .unset, .unset, .unset, .unset, .unset, .unset, .unset, .unset, .unset] [(.ref b84)])) target
    refine XS.dup Xg84.here hx rfl (hb hby at_87) rfl rfl ?_
    exact kt
  obtain ⟨_, _, ⟨Tg88, Lg88, kg88, ng88⟩, -, Xg88, ⟨Lcg88, hQg88, lg88, yg88, zg88⟩, stg88⟩ := Xg84.specialBack hx (y := (⟨"com/example/evenkeel/evenkeel/FullCycles", "<init>", "()V"⟩ : MethodName)) rfl hown (mvT hZ (hw _ (List.mem_of_getElem? (i := 4) rfl))) (mvT hZ (hw _ (List.mem_of_getElem? (i := 5) rfl))) (mvT hZ (hw _ (List.mem_of_getElem? (i := 6) rfl))) (by decide) (backOf (W := 1) (own_rm1 l Z a0 hw [] b84 hg84 n0 Zz) hZ (hw _ (List.mem_of_getElem? (i := 6) rfl)) (hw _ (List.mem_of_getElem? (i := 3) rfl)) (by decide) (by decide)) (g := (mkF m 88 #[.val (.long q0), .second, .val (.long q1), .second, .val (.long q2), .second, .val (.int p3), .val (.int p4), .val (.long v5), .second, .val (.long v14), .second, .val (.long j39_s0), .second, .val (.int (own_b (¬ ((p3 &&& (2 : Int32)) = (0 : Int32))))), .val (.int (own_b (¬ ((p3 &&& (4 : Int32)) = (0 : Int32))))), .val (.int (own_b (¬ ((p3 &&& (8 : Int32)) = (0 : Int32))))), .unset, .unset, .unset, .unset, .unset, .unset, .unset, .unset, .unset] [(.ref b84), (.ref b84)])) rfl (by rw [hml]; rfl) (Steps.refl _) (a := b84) (argsL := []) (rest := [(.ref b84)]) (lenOf own_pd1 rfl) rfl (by show 2 * 0 + _ ≤ _; exact Nat.le_of_eq rfl) (hb hby at_88) (fun _ _ => ⟨rfl, eg84, (by decide : 1 + 0 ≤ _), (by decide : 7 + 0 ≤ _)⟩)
  dsimp only [Pt.U, Pt.locs, Pt.cells, Pt.slots] at Xg88 lg88 yg88 zg88 stg88 hQg88
  subst lg88 yg88 zg88
  obtain ⟨rfl, Ng88q, eg88⟩ := hQg88
  have Ng88 := Fr.app N0 Ng88q
  refine own_st (fun _ k => stg88.trans k) ?_
  refine own_st (B := Tg88.setTop (mkF m 101 #[.val (.long q0), .second, .val (.long q1), .second, .val (.long q2), .second, .val (.int p3), .val (.int p4), .val (.long v5), .second, .val (.long v14), .second, .val (.long j39_s0), .second, .val (.int (own_b (¬ ((p3 &&& (2 : Int32)) = (0 : Int32))))), .val (.int (own_b (¬ ((p3 &&& (4 : Int32)) = (0 : Int32))))), .val (.int (own_b (¬ ((p3 &&& (8 : Int32)) = (0 : Int32))))), .val (.ref b84), .unset, .unset, .unset, .unset, .unset, .unset, .unset, .unset] [(.int (1 : Int32)), (.long (9223372036854775807 : Int64)), (.int (0 : Int32)), (.int (0 : Int32)), (.ref b84)])) (fun target kt => ?_) ?_
  · show Steps p.tables e below (Tg88.setTop (mkF m 91 #[.val (.long q0), .second, .val (.long q1), .second, .val (.long q2), .second, .val (.int p3), .val (.int p4), .val (.long v5), .second, .val (.long v14), .second, .val (.long j39_s0), .second, .val (.int (own_b (¬ ((p3 &&& (2 : Int32)) = (0 : Int32))))), .val (.int (own_b (¬ ((p3 &&& (4 : Int32)) = (0 : Int32))))), .val (.int (own_b (¬ ((p3 &&& (8 : Int32)) = (0 : Int32))))), .unset, .unset, .unset, .unset, .unset, .unset, .unset, .unset, .unset] [(.ref b84)])) target
    refine XS.astore Xg88.here hx rfl (hb hby at_91) rfl rfl (l' := #[.val (.long q0), .second, .val (.long q1), .second, .val (.long q2), .second, .val (.int p3), .val (.int p4), .val (.long v5), .second, .val (.long v14), .second, .val (.long j39_s0), .second, .val (.int (own_b (¬ ((p3 &&& (2 : Int32)) = (0 : Int32))))), .val (.int (own_b (¬ ((p3 &&& (4 : Int32)) = (0 : Int32))))), .val (.int (own_b (¬ ((p3 &&& (8 : Int32)) = (0 : Int32))))), .val (.ref b84), .unset, .unset, .unset, .unset, .unset, .unset, .unset, .unset]) rfl ?_
    show Steps p.tables e below (Tg88.setTop (mkF m 93 #[.val (.long q0), .second, .val (.long q1), .second, .val (.long q2), .second, .val (.int p3), .val (.int p4), .val (.long v5), .second, .val (.long v14), .second, .val (.long j39_s0), .second, .val (.int (own_b (¬ ((p3 &&& (2 : Int32)) = (0 : Int32))))), .val (.int (own_b (¬ ((p3 &&& (4 : Int32)) = (0 : Int32))))), .val (.int (own_b (¬ ((p3 &&& (8 : Int32)) = (0 : Int32))))), .val (.ref b84), .unset, .unset, .unset, .unset, .unset, .unset, .unset, .unset] [])) target
    refine XS.aload Xg88.here hx rfl (hb hby at_93) rfl rfl ?_
    show Steps p.tables e below (Tg88.setTop (mkF m 95 #[.val (.long q0), .second, .val (.long q1), .second, .val (.long q2), .second, .val (.int p3), .val (.int p4), .val (.long v5), .second, .val (.long v14), .second, .val (.long j39_s0), .second, .val (.int (own_b (¬ ((p3 &&& (2 : Int32)) = (0 : Int32))))), .val (.int (own_b (¬ ((p3 &&& (4 : Int32)) = (0 : Int32))))), .val (.int (own_b (¬ ((p3 &&& (8 : Int32)) = (0 : Int32))))), .val (.ref b84), .unset, .unset, .unset, .unset, .unset, .unset, .unset, .unset] [(.ref b84)])) target
    refine XS.iconst Xg88.here hx rfl (hb hby at_95) ?_
    show Steps p.tables e below (Tg88.setTop (mkF m 96 #[.val (.long q0), .second, .val (.long q1), .second, .val (.long q2), .second, .val (.int p3), .val (.int p4), .val (.long v5), .second, .val (.long v14), .second, .val (.long j39_s0), .second, .val (.int (own_b (¬ ((p3 &&& (2 : Int32)) = (0 : Int32))))), .val (.int (own_b (¬ ((p3 &&& (4 : Int32)) = (0 : Int32))))), .val (.int (own_b (¬ ((p3 &&& (8 : Int32)) = (0 : Int32))))), .val (.ref b84), .unset, .unset, .unset, .unset, .unset, .unset, .unset, .unset] [(.int (0 : Int32)), (.ref b84)])) target
    refine XS.iconst Xg88.here hx rfl (hb hby at_96) ?_
    show Steps p.tables e below (Tg88.setTop (mkF m 97 #[.val (.long q0), .second, .val (.long q1), .second, .val (.long q2), .second, .val (.int p3), .val (.int p4), .val (.long v5), .second, .val (.long v14), .second, .val (.long j39_s0), .second, .val (.int (own_b (¬ ((p3 &&& (2 : Int32)) = (0 : Int32))))), .val (.int (own_b (¬ ((p3 &&& (4 : Int32)) = (0 : Int32))))), .val (.int (own_b (¬ ((p3 &&& (8 : Int32)) = (0 : Int32))))), .val (.ref b84), .unset, .unset, .unset, .unset, .unset, .unset, .unset, .unset] [(.int (0 : Int32)), (.int (0 : Int32)), (.ref b84)])) target
    refine Xg88.ldc2Long hx hown (mvT hZ (hw _ (List.mem_of_getElem? (i := 10) rfl))) (g := (mkF m 97 #[.val (.long q0), .second, .val (.long q1), .second, .val (.long q2), .second, .val (.int p3), .val (.int p4), .val (.long v5), .second, .val (.long v14), .second, .val (.long j39_s0), .second, .val (.int (own_b (¬ ((p3 &&& (2 : Int32)) = (0 : Int32))))), .val (.int (own_b (¬ ((p3 &&& (4 : Int32)) = (0 : Int32))))), .val (.int (own_b (¬ ((p3 &&& (8 : Int32)) = (0 : Int32))))), .val (.ref b84), .unset, .unset, .unset, .unset, .unset, .unset, .unset, .unset] [(.int (0 : Int32)), (.int (0 : Int32)), (.ref b84)])) rfl (hb hby at_97) _ ?_
    show Steps p.tables e below (Tg88.setTop (mkF m 100 #[.val (.long q0), .second, .val (.long q1), .second, .val (.long q2), .second, .val (.int p3), .val (.int p4), .val (.long v5), .second, .val (.long v14), .second, .val (.long j39_s0), .second, .val (.int (own_b (¬ ((p3 &&& (2 : Int32)) = (0 : Int32))))), .val (.int (own_b (¬ ((p3 &&& (4 : Int32)) = (0 : Int32))))), .val (.int (own_b (¬ ((p3 &&& (8 : Int32)) = (0 : Int32))))), .val (.ref b84), .unset, .unset, .unset, .unset, .unset, .unset, .unset, .unset] [(.long (9223372036854775807 : Int64)), (.int (0 : Int32)), (.int (0 : Int32)), (.ref b84)])) target
    refine XS.iconst Xg88.here hx rfl (hb hby at_100) ?_
    exact kt
  obtain ⟨cqg101, kqg101, qg101a, qg101b, qg101c⟩ := isOf hZ eg88 Ag84
  obtain ⟨_, _, ⟨Tg101, Lg101, kg101, ng101⟩, -, Xg101, ⟨Lcg101, hQg101, lg101, yg101, zg101⟩, stg101⟩ := Xg88.virtualBack hx (y := (⟨"com/example/evenkeel/evenkeel/FullCycles", "enter", "(ZZJI)Z"⟩ : MethodName)) (z := (⟨"com/example/evenkeel/evenkeel/FullCycles", "enter", "(ZZJI)Z"⟩ : MethodName)) hown (mvT hZ (hw _ (List.mem_of_getElem? (i := 11) rfl))) (mvT hZ (hw _ (List.mem_of_getElem? (i := 12) rfl))) (notFace_of_selects (args := #[]) (mvT hZ (hw _ (List.mem_of_getElem? (i := 14) rfl)))) (mvT hZ (hw _ (List.mem_of_getElem? (i := 14) rfl))) (mvT hZ (hw _ (List.mem_of_getElem? (i := 13) rfl))) (by decide) (backOf (W := 0) (own_rm3 l Z a0 hw [] b84 (False) (False) (9223372036854775807 : Int64) (1 : Int32) (0 : Int64) (False) (0 : Int32) (0 : Int64) (0 : Int64) (0 : Int64) (False) hg84 n0 Zz Ag84 F_1 (own_cast (congrArg Value.int (own_b0 (fun h => h)).symm) F) F_6 F_2 F_3 F_5 (own_cast (congrArg Value.int (own_b0 (fun h => h)).symm) F_4) g_b84) hZ (hw _ (List.mem_of_getElem? (i := 15) rfl)) (hw _ (List.mem_of_getElem? (i := 3) rfl)) (by decide) (by decide)) qg101a qg101c (g := (mkF m 101 #[.val (.long q0), .second, .val (.long q1), .second, .val (.long q2), .second, .val (.int p3), .val (.int p4), .val (.long v5), .second, .val (.long v14), .second, .val (.long j39_s0), .second, .val (.int (own_b (¬ ((p3 &&& (2 : Int32)) = (0 : Int32))))), .val (.int (own_b (¬ ((p3 &&& (4 : Int32)) = (0 : Int32))))), .val (.int (own_b (¬ ((p3 &&& (8 : Int32)) = (0 : Int32))))), .val (.ref b84), .unset, .unset, .unset, .unset, .unset, .unset, .unset, .unset] [(.int (1 : Int32)), (.long (9223372036854775807 : Int64)), (.int (0 : Int32)), (.int (0 : Int32)), (.ref b84)])) rfl (by rw [hml]; rfl) (Steps.refl _) (argsL := [(.int (0 : Int32)), (.int (0 : Int32)), (.long (9223372036854775807 : Int64)), (.int (1 : Int32))]) (rest := []) (lenOf own_pd2 rfl) rfl (by show 2 * 0 + _ ≤ _; exact Nat.le_of_eq rfl) (hb hby at_101) (fun _ _ => ⟨rfl, eg88, (by decide : 1 + 0 ≤ _), (by decide : 7 + 0 ≤ _)⟩)
  dsimp only [Pt.U, Pt.locs, Pt.cells, Pt.slots] at Xg101 lg101 yg101 zg101 stg101 hQg101
  subst lg101 yg101 zg101
  obtain ⟨rfl, Ng101q, Kg101, F_7, F_8, F_9, F_10, F_11, F_12, F_13, F_14⟩ := hQg101
  have Zz_1 : n0 ≤ Tg101.heap.size := Nat.le_trans Zz Kg101.1
  obtain ⟨w101_began, hw101_began⟩ : ∃ z : Int64, z = (if (False) then (if (False) then (if (1 : Int32) = (0 : Int32) then (0 : Int64) else ((0 : Int64) + (1 : Int64))) else ((0 : Int64) + (1 : Int64))) else ((0 : Int64) + (1 : Int64))) := ⟨_, rfl⟩
  have F_15 : Fld Z Tg101.heap b84 "com/example/evenkeel/evenkeel/FullCycles" "began" "J" (.long w101_began) := by subst hw101_began; exact F_11
  obtain ⟨w101_made, hw101_made⟩ : ∃ z : Int64, z = (if (False) then (if (False) then (if (1 : Int32) = (0 : Int32) then (0 : Int64) else (0 : Int64)) else (0 : Int64)) else (0 : Int64)) := ⟨_, rfl⟩
  have F_16 : Fld Z Tg101.heap b84 "com/example/evenkeel/evenkeel/FullCycles" "made" "J" (.long w101_made) := by subst hw101_made; exact F_12
  have Ng101 := Fr.app Ng88 Ng101q
  refine own_st (fun _ k => stg101.trans k) ?_
  refine own_st (B := Tg101.setTop (mkF m 109 #[.val (.long q0), .second, .val (.long q1), .second, .val (.long q2), .second, .val (.int p3), .val (.int p4), .val (.long v5), .second, .val (.long v14), .second, .val (.long j39_s0), .second, .val (.int (own_b (¬ ((p3 &&& (2 : Int32)) = (0 : Int32))))), .val (.int (own_b (¬ ((p3 &&& (4 : Int32)) = (0 : Int32))))), .val (.int (own_b (¬ ((p3 &&& (8 : Int32)) = (0 : Int32))))), .val (.ref b84), .unset, .unset, .unset, .unset, .unset, .unset, .unset, .unset] [(.long v5), (.ref b84)])) (fun target kt => ?_) ?_
  · show Steps p.tables e below (Tg101.setTop (mkF m 104 #[.val (.long q0), .second, .val (.long q1), .second, .val (.long q2), .second, .val (.int p3), .val (.int p4), .val (.long v5), .second, .val (.long v14), .second, .val (.long j39_s0), .second, .val (.int (own_b (¬ ((p3 &&& (2 : Int32)) = (0 : Int32))))), .val (.int (own_b (¬ ((p3 &&& (4 : Int32)) = (0 : Int32))))), .val (.int (own_b (¬ ((p3 &&& (8 : Int32)) = (0 : Int32))))), .val (.ref b84), .unset, .unset, .unset, .unset, .unset, .unset, .unset, .unset] [(.int (own_b (¬ (False) ∨ (¬ (False) ∨ (¬ ((1 : Int32) = (0 : Int32)) ∨ (False))))))])) target
    refine XS.pop Xg101.here hx rfl (hb hby at_104) rfl rfl ?_
    show Steps p.tables e below (Tg101.setTop (mkF m 105 #[.val (.long q0), .second, .val (.long q1), .second, .val (.long q2), .second, .val (.int p3), .val (.int p4), .val (.long v5), .second, .val (.long v14), .second, .val (.long j39_s0), .second, .val (.int (own_b (¬ ((p3 &&& (2 : Int32)) = (0 : Int32))))), .val (.int (own_b (¬ ((p3 &&& (4 : Int32)) = (0 : Int32))))), .val (.int (own_b (¬ ((p3 &&& (8 : Int32)) = (0 : Int32))))), .val (.ref b84), .unset, .unset, .unset, .unset, .unset, .unset, .unset, .unset] [])) target
    refine XS.aload Xg101.here hx rfl (hb hby at_105) rfl rfl ?_
    show Steps p.tables e below (Tg101.setTop (mkF m 107 #[.val (.long q0), .second, .val (.long q1), .second, .val (.long q2), .second, .val (.int p3), .val (.int p4), .val (.long v5), .second, .val (.long v14), .second, .val (.long j39_s0), .second, .val (.int (own_b (¬ ((p3 &&& (2 : Int32)) = (0 : Int32))))), .val (.int (own_b (¬ ((p3 &&& (4 : Int32)) = (0 : Int32))))), .val (.int (own_b (¬ ((p3 &&& (8 : Int32)) = (0 : Int32))))), .val (.ref b84), .unset, .unset, .unset, .unset, .unset, .unset, .unset, .unset] [(.ref b84)])) target
    refine XS.lload Xg101.here hx rfl (hb hby at_107) rfl ?_
    exact kt
  obtain ⟨cqg109, kqg109, qg109a, qg109b, qg109c⟩ := isOf hZ rfl F_7
  obtain ⟨_, _, ⟨Tg109, Lg109, kg109, ng109⟩, -, Xg109, ⟨Lcg109, hQg109, lg109, yg109, zg109⟩, stg109⟩ := Xg101.virtualBack hx (y := (⟨"com/example/evenkeel/evenkeel/FullCycles", "skip", "(J)V"⟩ : MethodName)) (z := (⟨"com/example/evenkeel/evenkeel/FullCycles", "skip", "(J)V"⟩ : MethodName)) hown (mvT hZ (hw _ (List.mem_of_getElem? (i := 34) rfl))) (mvT hZ (hw _ (List.mem_of_getElem? (i := 35) rfl))) (notFace_of_selects (args := #[]) (mvT hZ (hw _ (List.mem_of_getElem? (i := 37) rfl)))) (mvT hZ (hw _ (List.mem_of_getElem? (i := 37) rfl))) (mvT hZ (hw _ (List.mem_of_getElem? (i := 36) rfl))) (by decide) (backOf (W := 0) (own_rm5 l Z a0 hw [] b84 v5 (0 : Int64) (False) (1 : Int32) w101_began w101_made (9223372036854775807 : Int64) (¬ (False) ∨ (¬ (False) ∨ (¬ ((1 : Int32) = (0 : Int32)) ∨ (False)))) Tg101.heap n0 Zz_1 F_7 F_8 F_9 F_10 F_15 F_16 F_13 F_14 g_b84) hZ (hw _ (List.mem_of_getElem? (i := 38) rfl)) (hw _ (List.mem_of_getElem? (i := 3) rfl)) (by decide) (by decide)) qg109a qg109c (g := (mkF m 109 #[.val (.long q0), .second, .val (.long q1), .second, .val (.long q2), .second, .val (.int p3), .val (.int p4), .val (.long v5), .second, .val (.long v14), .second, .val (.long j39_s0), .second, .val (.int (own_b (¬ ((p3 &&& (2 : Int32)) = (0 : Int32))))), .val (.int (own_b (¬ ((p3 &&& (4 : Int32)) = (0 : Int32))))), .val (.int (own_b (¬ ((p3 &&& (8 : Int32)) = (0 : Int32))))), .val (.ref b84), .unset, .unset, .unset, .unset, .unset, .unset, .unset, .unset] [(.long v5), (.ref b84)])) rfl (by rw [hml]; rfl) (Steps.refl _) (argsL := [(.long v5)]) (rest := []) (lenOf own_pd0 rfl) rfl (by show 2 * 0 + _ ≤ _; exact Nat.le_of_eq rfl) (hb hby at_109) (fun _ _ => ⟨rfl, rfl, (by decide : 1 + 0 ≤ _), (by decide : 7 + 0 ≤ _)⟩)
  dsimp only [Pt.U, Pt.locs, Pt.cells, Pt.slots] at Xg109 lg109 yg109 zg109 stg109 hQg109
  subst lg109 yg109 zg109
  obtain ⟨rfl, Ng109q, Kg109, F_17, F_18, F_19, F_20, F_21, F_22, F_23, F_24⟩ := hQg109
  have Zz_2 : n0 ≤ Tg109.heap.size := Nat.le_trans Zz_1 Kg109.1
  obtain ⟨w109_picks, hw109_picks⟩ : ∃ z : Int64, z = ((0 : Int64) + v5) := ⟨_, rfl⟩
  have F_25 : Fld Z Tg109.heap b84 "com/example/evenkeel/evenkeel/FullCycles" "picks" "J" (.long w109_picks) := by subst hw109_picks; exact F_18
  obtain ⟨w109_began, hw109_began⟩ : ∃ z : Int64, z = (if (w101_made + v5) < (9223372036854775807 : Int64) then w101_began else ((((0 : Int64) + v5) - (((w101_made + v5)) - (9223372036854775807 : Int64))) + (1 : Int64))) := ⟨_, rfl⟩
  have F_26 : Fld Z Tg109.heap b84 "com/example/evenkeel/evenkeel/FullCycles" "began" "J" (.long w109_began) := by subst hw109_began; exact F_21
  obtain ⟨w109_made, hw109_made⟩ : ∃ z : Int64, z = (if (w101_made + v5) < (9223372036854775807 : Int64) then (w101_made + v5) else (((w101_made + v5)) - (9223372036854775807 : Int64))) := ⟨_, rfl⟩
  have F_27 : Fld Z Tg109.heap b84 "com/example/evenkeel/evenkeel/FullCycles" "made" "J" (.long w109_made) := by subst hw109_made; exact F_22
  have Ng109 := Fr.app Ng101 Ng109q
  refine own_st (fun _ k => stg109.trans k) ?_
  refine own_st (B := Tg109.setTop (mkF m 122 #[.val (.long q0), .second, .val (.long q1), .second, .val (.long q2), .second, .val (.int p3), .val (.int p4), .val (.long v5), .second, .val (.long v14), .second, .val (.long j39_s0), .second, .val (.int (own_b (¬ ((p3 &&& (2 : Int32)) = (0 : Int32))))), .val (.int (own_b (¬ ((p3 &&& (4 : Int32)) = (0 : Int32))))), .val (.int (own_b (¬ ((p3 &&& (8 : Int32)) = (0 : Int32))))), .val (.ref b84), .unset, .unset, .unset, .unset, .unset, .unset, .unset, .unset] [(.int p4), (.long v14), (.int (own_b (¬ ((p3 &&& (4 : Int32)) = (0 : Int32))))), (.int (own_b (¬ ((p3 &&& (2 : Int32)) = (0 : Int32))))), (.ref b84)])) (fun target kt => ?_) ?_
  · show Steps p.tables e below (Tg109.setTop (mkF m 112 #[.val (.long q0), .second, .val (.long q1), .second, .val (.long q2), .second, .val (.int p3), .val (.int p4), .val (.long v5), .second, .val (.long v14), .second, .val (.long j39_s0), .second, .val (.int (own_b (¬ ((p3 &&& (2 : Int32)) = (0 : Int32))))), .val (.int (own_b (¬ ((p3 &&& (4 : Int32)) = (0 : Int32))))), .val (.int (own_b (¬ ((p3 &&& (8 : Int32)) = (0 : Int32))))), .val (.ref b84), .unset, .unset, .unset, .unset, .unset, .unset, .unset, .unset] [])) target
    refine XS.aload Xg109.here hx rfl (hb hby at_112) rfl rfl ?_
    show Steps p.tables e below (Tg109.setTop (mkF m 114 #[.val (.long q0), .second, .val (.long q1), .second, .val (.long q2), .second, .val (.int p3), .val (.int p4), .val (.long v5), .second, .val (.long v14), .second, .val (.long j39_s0), .second, .val (.int (own_b (¬ ((p3 &&& (2 : Int32)) = (0 : Int32))))), .val (.int (own_b (¬ ((p3 &&& (4 : Int32)) = (0 : Int32))))), .val (.int (own_b (¬ ((p3 &&& (8 : Int32)) = (0 : Int32))))), .val (.ref b84), .unset, .unset, .unset, .unset, .unset, .unset, .unset, .unset] [(.ref b84)])) target
    refine XS.iload Xg109.here hx rfl (hb hby at_114) rfl ?_
    show Steps p.tables e below (Tg109.setTop (mkF m 116 #[.val (.long q0), .second, .val (.long q1), .second, .val (.long q2), .second, .val (.int p3), .val (.int p4), .val (.long v5), .second, .val (.long v14), .second, .val (.long j39_s0), .second, .val (.int (own_b (¬ ((p3 &&& (2 : Int32)) = (0 : Int32))))), .val (.int (own_b (¬ ((p3 &&& (4 : Int32)) = (0 : Int32))))), .val (.int (own_b (¬ ((p3 &&& (8 : Int32)) = (0 : Int32))))), .val (.ref b84), .unset, .unset, .unset, .unset, .unset, .unset, .unset, .unset] [(.int (own_b (¬ ((p3 &&& (2 : Int32)) = (0 : Int32))))), (.ref b84)])) target
    refine XS.iload Xg109.here hx rfl (hb hby at_116) rfl ?_
    show Steps p.tables e below (Tg109.setTop (mkF m 118 #[.val (.long q0), .second, .val (.long q1), .second, .val (.long q2), .second, .val (.int p3), .val (.int p4), .val (.long v5), .second, .val (.long v14), .second, .val (.long j39_s0), .second, .val (.int (own_b (¬ ((p3 &&& (2 : Int32)) = (0 : Int32))))), .val (.int (own_b (¬ ((p3 &&& (4 : Int32)) = (0 : Int32))))), .val (.int (own_b (¬ ((p3 &&& (8 : Int32)) = (0 : Int32))))), .val (.ref b84), .unset, .unset, .unset, .unset, .unset, .unset, .unset, .unset] [(.int (own_b (¬ ((p3 &&& (4 : Int32)) = (0 : Int32))))), (.int (own_b (¬ ((p3 &&& (2 : Int32)) = (0 : Int32))))), (.ref b84)])) target
    refine XS.lload Xg109.here hx rfl (hb hby at_118) rfl ?_
    show Steps p.tables e below (Tg109.setTop (mkF m 120 #[.val (.long q0), .second, .val (.long q1), .second, .val (.long q2), .second, .val (.int p3), .val (.int p4), .val (.long v5), .second, .val (.long v14), .second, .val (.long j39_s0), .second, .val (.int (own_b (¬ ((p3 &&& (2 : Int32)) = (0 : Int32))))), .val (.int (own_b (¬ ((p3 &&& (4 : Int32)) = (0 : Int32))))), .val (.int (own_b (¬ ((p3 &&& (8 : Int32)) = (0 : Int32))))), .val (.ref b84), .unset, .unset, .unset, .unset, .unset, .unset, .unset, .unset] [(.long v14), (.int (own_b (¬ ((p3 &&& (4 : Int32)) = (0 : Int32))))), (.int (own_b (¬ ((p3 &&& (2 : Int32)) = (0 : Int32))))), (.ref b84)])) target
    refine XS.iload Xg109.here hx rfl (hb hby at_120) rfl ?_
    exact kt
  obtain ⟨cqg122, kqg122, qg122a, qg122b, qg122c⟩ := isOf hZ rfl F_17
  obtain ⟨_, _, ⟨Tg122, Lg122, kg122, ng122⟩, -, Xg122, ⟨Lcg122, hQg122, lg122, yg122, zg122⟩, stg122⟩ := Xg109.virtualBack hx (y := (⟨"com/example/evenkeel/evenkeel/FullCycles", "enter", "(ZZJI)Z"⟩ : MethodName)) (z := (⟨"com/example/evenkeel/evenkeel/FullCycles", "enter", "(ZZJI)Z"⟩ : MethodName)) hown (mvT hZ (hw _ (List.mem_of_getElem? (i := 11) rfl))) (mvT hZ (hw _ (List.mem_of_getElem? (i := 12) rfl))) (notFace_of_selects (args := #[]) (mvT hZ (hw _ (List.mem_of_getElem? (i := 14) rfl)))) (mvT hZ (hw _ (List.mem_of_getElem? (i := 14) rfl))) (mvT hZ (hw _ (List.mem_of_getElem? (i := 13) rfl))) (by decide) (backOf (W := 0) (own_rm3 l Z a0 hw [] b84 (¬ ((p3 &&& (2 : Int32)) = (0 : Int32))) (¬ ((p3 &&& (4 : Int32)) = (0 : Int32))) v14 p4 w109_picks (False) (1 : Int32) w109_began w109_made (9223372036854775807 : Int64) (¬ (((w101_made + v5)) < (9223372036854775807 : Int64)) ∨ (¬ (False) ∨ (¬ (False) ∨ (¬ ((1 : Int32) = (0 : Int32)) ∨ (False))))) Tg109.heap n0 Zz_2 F_17 F_25 F_19 F_20 F_26 F_27 F_23 F_24 g_b84) hZ (hw _ (List.mem_of_getElem? (i := 15) rfl)) (hw _ (List.mem_of_getElem? (i := 3) rfl)) (by decide) (by decide)) qg122a qg122c (g := (mkF m 122 #[.val (.long q0), .second, .val (.long q1), .second, .val (.long q2), .second, .val (.int p3), .val (.int p4), .val (.long v5), .second, .val (.long v14), .second, .val (.long j39_s0), .second, .val (.int (own_b (¬ ((p3 &&& (2 : Int32)) = (0 : Int32))))), .val (.int (own_b (¬ ((p3 &&& (4 : Int32)) = (0 : Int32))))), .val (.int (own_b (¬ ((p3 &&& (8 : Int32)) = (0 : Int32))))), .val (.ref b84), .unset, .unset, .unset, .unset, .unset, .unset, .unset, .unset] [(.int p4), (.long v14), (.int (own_b (¬ ((p3 &&& (4 : Int32)) = (0 : Int32))))), (.int (own_b (¬ ((p3 &&& (2 : Int32)) = (0 : Int32))))), (.ref b84)])) rfl (by rw [hml]; rfl) (Steps.refl _) (argsL := [(.int (own_b (¬ ((p3 &&& (2 : Int32)) = (0 : Int32))))), (.int (own_b (¬ ((p3 &&& (4 : Int32)) = (0 : Int32))))), (.long v14), (.int p4)]) (rest := []) (lenOf own_pd2 rfl) rfl (by show 2 * 0 + _ ≤ _; exact Nat.le_of_eq rfl) (hb hby at_122) (fun _ _ => ⟨rfl, rfl, (by decide : 1 + 0 ≤ _), (by decide : 7 + 0 ≤ _)⟩)
  dsimp only [Pt.U, Pt.locs, Pt.cells, Pt.slots] at Xg122 lg122 yg122 zg122 stg122 hQg122
  subst lg122 yg122 zg122
  obtain ⟨rfl, Ng122q, Kg122, F_28, F_29, F_30, F_31, F_32, F_33, F_34, F_35⟩ := hQg122
  have Zz_3 : n0 ≤ Tg122.heap.size := Nat.le_trans Zz_2 Kg122.1
  obtain ⟨w122_began, hw122_began⟩ : ∃ z : Int64, z = (if (False) then (if (¬ ((p3 &&& (4 : Int32)) = (0 : Int32))) then (if p4 = (1 : Int32) then w109_began else (w109_picks + (1 : Int64))) else (w109_picks + (1 : Int64))) else (w109_picks + (1 : Int64))) := ⟨_, rfl⟩
  have F_36 : Fld Z Tg122.heap b84 "com/example/evenkeel/evenkeel/FullCycles" "began" "J" (.long w122_began) := by subst hw122_began; exact F_32
  obtain ⟨w122_made, hw122_made⟩ : ∃ z : Int64, z = (if (False) then (if (¬ ((p3 &&& (4 : Int32)) = (0 : Int32))) then (if p4 = (1 : Int32) then w109_made else (0 : Int64)) else (0 : Int64)) else (0 : Int64)) := ⟨_, rfl⟩
  have F_37 : Fld Z Tg122.heap b84 "com/example/evenkeel/evenkeel/FullCycles" "made" "J" (.long w122_made) := by subst hw122_made; exact F_33
  have Ng122 := Fr.app Ng109 Ng122q
  refine own_st (fun _ k => stg122.trans k) ?_
  refine own_st (B := Tg122.setTop (mkF m 130 #[.val (.long q0), .second, .val (.long q1), .second, .val (.long q2), .second, .val (.int p3), .val (.int p4), .val (.long v5), .second, .val (.long v14), .second, .val (.long j39_s0), .second, .val (.int (own_b (¬ ((p3 &&& (2 : Int32)) = (0 : Int32))))), .val (.int (own_b (¬ ((p3 &&& (4 : Int32)) = (0 : Int32))))), .val (.int (own_b (¬ ((p3 &&& (8 : Int32)) = (0 : Int32))))), .val (.ref b84), .unset, .unset, .unset, .unset, .unset, .unset, .unset, .unset] [(.long j39_s0), (.ref b84)])) (fun target kt => ?_) ?_
  · show Steps p.tables e below (Tg122.setTop (mkF m 125 #[.val (.long q0), .second, .val (.long q1), .second, .val (.long q2), .second, .val (.int p3), .val (.int p4), .val (.long v5), .second, .val (.long v14), .second, .val (.long j39_s0), .second, .val (.int (own_b (¬ ((p3 &&& (2 : Int32)) = (0 : Int32))))), .val (.int (own_b (¬ ((p3 &&& (4 : Int32)) = (0 : Int32))))), .val (.int (own_b (¬ ((p3 &&& (8 : Int32)) = (0 : Int32))))), .val (.ref b84), .unset, .unset, .unset, .unset, .unset, .unset, .unset, .unset] [(.int (own_b (¬ (False) ∨ (¬ (¬ ((p3 &&& (4 : Int32)) = (0 : Int32))) ∨ (¬ (p4 = (1 : Int32)) ∨ (¬ (((w101_made + v5)) < (9223372036854775807 : Int64)) ∨ (¬ (False) ∨ (¬ (False) ∨ (¬ ((1 : Int32) = (0 : Int32)) ∨ (False))))))))))])) target
    refine XS.pop Xg122.here hx rfl (hb hby at_125) rfl rfl ?_
    show Steps p.tables e below (Tg122.setTop (mkF m 126 #[.val (.long q0), .second, .val (.long q1), .second, .val (.long q2), .second, .val (.int p3), .val (.int p4), .val (.long v5), .second, .val (.long v14), .second, .val (.long j39_s0), .second, .val (.int (own_b (¬ ((p3 &&& (2 : Int32)) = (0 : Int32))))), .val (.int (own_b (¬ ((p3 &&& (4 : Int32)) = (0 : Int32))))), .val (.int (own_b (¬ ((p3 &&& (8 : Int32)) = (0 : Int32))))), .val (.ref b84), .unset, .unset, .unset, .unset, .unset, .unset, .unset, .unset] [])) target
    refine XS.aload Xg122.here hx rfl (hb hby at_126) rfl rfl ?_
    show Steps p.tables e below (Tg122.setTop (mkF m 128 #[.val (.long q0), .second, .val (.long q1), .second, .val (.long q2), .second, .val (.int p3), .val (.int p4), .val (.long v5), .second, .val (.long v14), .second, .val (.long j39_s0), .second, .val (.int (own_b (¬ ((p3 &&& (2 : Int32)) = (0 : Int32))))), .val (.int (own_b (¬ ((p3 &&& (4 : Int32)) = (0 : Int32))))), .val (.int (own_b (¬ ((p3 &&& (8 : Int32)) = (0 : Int32))))), .val (.ref b84), .unset, .unset, .unset, .unset, .unset, .unset, .unset, .unset] [(.ref b84)])) target
    refine XS.lload Xg122.here hx rfl (hb hby at_128) rfl ?_
    exact kt
  obtain ⟨cqg130, kqg130, qg130a, qg130b, qg130c⟩ := isOf hZ rfl F_28
  obtain ⟨_, _, ⟨Tg130, Lg130, kg130, ng130⟩, -, Xg130, ⟨Lcg130, hQg130, lg130, yg130, zg130⟩, stg130⟩ := Xg122.virtualBack hx (y := (⟨"com/example/evenkeel/evenkeel/FullCycles", "skip", "(J)V"⟩ : MethodName)) (z := (⟨"com/example/evenkeel/evenkeel/FullCycles", "skip", "(J)V"⟩ : MethodName)) hown (mvT hZ (hw _ (List.mem_of_getElem? (i := 34) rfl))) (mvT hZ (hw _ (List.mem_of_getElem? (i := 35) rfl))) (notFace_of_selects (args := #[]) (mvT hZ (hw _ (List.mem_of_getElem? (i := 37) rfl)))) (mvT hZ (hw _ (List.mem_of_getElem? (i := 37) rfl))) (mvT hZ (hw _ (List.mem_of_getElem? (i := 36) rfl))) (by decide) (backOf (W := 0) (own_rm5 l Z a0 hw [] b84 j39_s0 w109_picks (¬ ((p3 &&& (2 : Int32)) = (0 : Int32))) p4 w122_began w122_made v14 (¬ (False) ∨ (¬ (¬ ((p3 &&& (4 : Int32)) = (0 : Int32))) ∨ (¬ (p4 = (1 : Int32)) ∨ (¬ (((w101_made + v5)) < (9223372036854775807 : Int64)) ∨ (¬ (False) ∨ (¬ (False) ∨ (¬ ((1 : Int32) = (0 : Int32)) ∨ (False)))))))) Tg122.heap n0 Zz_3 F_28 F_29 F_30 F_31 F_36 F_37 F_34 F_35 g_b84) hZ (hw _ (List.mem_of_getElem? (i := 38) rfl)) (hw _ (List.mem_of_getElem? (i := 3) rfl)) (by decide) (by decide)) qg130a qg130c (g := (mkF m 130 #[.val (.long q0), .second, .val (.long q1), .second, .val (.long q2), .second, .val (.int p3), .val (.int p4), .val (.long v5), .second, .val (.long v14), .second, .val (.long j39_s0), .second, .val (.int (own_b (¬ ((p3 &&& (2 : Int32)) = (0 : Int32))))), .val (.int (own_b (¬ ((p3 &&& (4 : Int32)) = (0 : Int32))))), .val (.int (own_b (¬ ((p3 &&& (8 : Int32)) = (0 : Int32))))), .val (.ref b84), .unset, .unset, .unset, .unset, .unset, .unset, .unset, .unset] [(.long j39_s0), (.ref b84)])) rfl (by rw [hml]; rfl) (Steps.refl _) (argsL := [(.long j39_s0)]) (rest := []) (lenOf own_pd0 rfl) rfl (by show 2 * 0 + _ ≤ _; exact Nat.le_of_eq rfl) (hb hby at_130) (fun _ _ => ⟨rfl, rfl, (by decide : 1 + 0 ≤ _), (by decide : 7 + 0 ≤ _)⟩)
  dsimp only [Pt.U, Pt.locs, Pt.cells, Pt.slots] at Xg130 lg130 yg130 zg130 stg130 hQg130
  subst lg130 yg130 zg130
  obtain ⟨rfl, Ng130q, Kg130, F_38, F_39, F_40, F_41, F_42, F_43, F_44, F_45⟩ := hQg130
  have Zz_4 : n0 ≤ Tg130.heap.size := Nat.le_trans Zz_3 Kg130.1
  obtain ⟨w130_picks, hw130_picks⟩ : ∃ z : Int64, z = (w109_picks + j39_s0) := ⟨_, rfl⟩
  have F_46 : Fld Z Tg130.heap b84 "com/example/evenkeel/evenkeel/FullCycles" "picks" "J" (.long w130_picks) := by subst hw130_picks; exact F_39
  obtain ⟨w130_began, hw130_began⟩ : ∃ z : Int64, z = (if (w122_made + j39_s0) < v14 then w122_began else (((w109_picks + j39_s0) - (((w122_made + j39_s0)) - v14)) + (1 : Int64))) := ⟨_, rfl⟩
  have F_47 : Fld Z Tg130.heap b84 "com/example/evenkeel/evenkeel/FullCycles" "began" "J" (.long w130_began) := by subst hw130_began; exact F_42
  obtain ⟨w130_made, hw130_made⟩ : ∃ z : Int64, z = (if (w122_made + j39_s0) < v14 then (w122_made + j39_s0) else (((w122_made + j39_s0)) - v14)) := ⟨_, rfl⟩
  have F_48 : Fld Z Tg130.heap b84 "com/example/evenkeel/evenkeel/FullCycles" "made" "J" (.long w130_made) := by subst hw130_made; exact F_43
  have Ng130 := Fr.app Ng122 Ng130q
  refine own_st (fun _ k => stg130.trans k) ?_
  refine own_st (B := Tg130.setTop (mkF m 135 #[.val (.long q0), .second, .val (.long q1), .second, .val (.long q2), .second, .val (.int p3), .val (.int p4), .val (.long v5), .second, .val (.long v14), .second, .val (.long j39_s0), .second, .val (.int (own_b (¬ ((p3 &&& (2 : Int32)) = (0 : Int32))))), .val (.int (own_b (¬ ((p3 &&& (4 : Int32)) = (0 : Int32))))), .val (.int (own_b (¬ ((p3 &&& (8 : Int32)) = (0 : Int32))))), .val (.ref b84), .unset, .unset, .unset, .unset, .unset, .unset, .unset, .unset] [(.int (own_b (¬ ((p3 &&& (8 : Int32)) = (0 : Int32)))))])) (fun target kt => ?_) ?_
  · show Steps p.tables e below (Tg130.setTop (mkF m 133 #[.val (.long q0), .second, .val (.long q1), .second, .val (.long q2), .second, .val (.int p3), .val (.int p4), .val (.long v5), .second, .val (.long v14), .second, .val (.long j39_s0), .second, .val (.int (own_b (¬ ((p3 &&& (2 : Int32)) = (0 : Int32))))), .val (.int (own_b (¬ ((p3 &&& (4 : Int32)) = (0 : Int32))))), .val (.int (own_b (¬ ((p3 &&& (8 : Int32)) = (0 : Int32))))), .val (.ref b84), .unset, .unset, .unset, .unset, .unset, .unset, .unset, .unset] [])) target
    refine XS.iload Xg130.here hx rfl (hb hby at_133) rfl ?_
    exact kt
  obtain ⟨_, ⟨T_M143, h_M143, lc_M143, j143_f_b84_holding, rfl, X_M143, e_M143, N_M143, Z_M143, F_57, F_58, F_59, F_60, F_61, F_62, F_63, F_64, rfl⟩, st_M143⟩ : own_Lead p.tables e below (Tg130.setTop (mkF m 135 #[.val (.long q0), .second, .val (.long q1), .second, .val (.long q2), .second, .val (.int p3), .val (.int p4), .val (.long v5), .second, .val (.long v14), .second, .val (.long j39_s0), .second, .val (.int (own_b (¬ ((p3 &&& (2 : Int32)) = (0 : Int32))))), .val (.int (own_b (¬ ((p3 &&& (4 : Int32)) = (0 : Int32))))), .val (.int (own_b (¬ ((p3 &&& (8 : Int32)) = (0 : Int32))))), .val (.ref b84), .unset, .unset, .unset, .unset, .unset, .unset, .unset, .unset] [(.int (own_b (¬ ((p3 &&& (8 : Int32)) = (0 : Int32)))))])) (fun B => ∃ (T_M143 : State) (h_M143 : Heap) (lc_M143 : List Loc) (j143_f_b84_holding : Int32), B = T_M143.setTop (mkF m 143 #[.val (.long q0), .second, .val (.long q1), .second, .val (.long q2), .second, .val (.int p3), .val (.int p4), .val (.long v5), .second, .val (.long v14), .second, .val (.long j39_s0), .second, .val (.int (own_b (¬ ((p3 &&& (2 : Int32)) = (0 : Int32))))), .val (.int (own_b (¬ ((p3 &&& (4 : Int32)) = (0 : Int32))))), .val (.int (own_b (¬ ((p3 &&& (8 : Int32)) = (0 : Int32))))), .val (.ref b84), .unset, .unset, .unset, .unset, .unset, .unset, .unset, .unset] []) ∧ Stand p l e room_1 s m #[(.long q0), (.long q1), (.long q2), (.int p3), (.int p4)] below meth c T_M143 lc_M143 1 7 ∧ T_M143.heap = h_M143 ∧ Fr n0 lc_M143 ∧ n0 ≤ h_M143.size ∧ Exa Z h_M143 b84 "com/example/evenkeel/evenkeel/FullCycles" ∧ Fld Z h_M143 b84 "com/example/evenkeel/evenkeel/FullCycles" "steady" "Z" (.int (own_b (¬ ((p3 &&& (2 : Int32)) = (0 : Int32))))) ∧ Fld Z h_M143 b84 "com/example/evenkeel/evenkeel/FullCycles" "picks" "J" (.long w130_picks) ∧ Fld Z h_M143 b84 "com/example/evenkeel/evenkeel/FullCycles" "began" "J" (.long w130_began) ∧ Fld Z h_M143 b84 "com/example/evenkeel/evenkeel/FullCycles" "made" "J" (.long w130_made) ∧ Fld Z h_M143 b84 "com/example/evenkeel/evenkeel/FullCycles" "holding" "Z" (.int j143_f_b84_holding) ∧ Fld Z h_M143 b84 "com/example/evenkeel/evenkeel/FullCycles" "total" "J" (.long v14) ∧ Fld Z h_M143 b84 "com/example/evenkeel/evenkeel/FullCycles" "taking" "I" (.int p4) ∧ j143_f_b84_holding = own_b ((¬ (¬ ((p3 &&& (8 : Int32)) = (0 : Int32))) ∧ (¬ (((w122_made + j39_s0)) < v14) ∨ (¬ (False) ∨ (¬ (¬ ((p3 &&& (4 : Int32)) = (0 : Int32))) ∨ (¬ (p4 = (1 : Int32)) ∨ (¬ (((w101_made + v5)) < (9223372036854775807 : Int64)) ∨ (¬ (False) ∨ (¬ (False) ∨ (¬ ((1 : Int32) = (0 : Int32)) ∨ (False)))))))))))) := by
    by_cases c135 : ¬ ((p3 &&& (8 : Int32)) = (0 : Int32))
    · refine own_st (B := Tg130.setTop (mkF m 140 #[.val (.long q0), .second, .val (.long q1), .second, .val (.long q2), .second, .val (.int p3), .val (.int p4), .val (.long v5), .second, .val (.long v14), .second, .val (.long j39_s0), .second, .val (.int (own_b (¬ ((p3 &&& (2 : Int32)) = (0 : Int32))))), .val (.int (own_b (¬ ((p3 &&& (4 : Int32)) = (0 : Int32))))), .val (.int (own_b (¬ ((p3 &&& (8 : Int32)) = (0 : Int32))))), .val (.ref b84), .unset, .unset, .unset, .unset, .unset, .unset, .unset, .unset] [(.ref b84)])) (fun target kt => ?_) ?_
      · show Steps p.tables e below (Tg130.setTop (mkF m 135 #[.val (.long q0), .second, .val (.long q1), .second, .val (.long q2), .second, .val (.int p3), .val (.int p4), .val (.long v5), .second, .val (.long v14), .second, .val (.long j39_s0), .second, .val (.int (own_b (¬ ((p3 &&& (2 : Int32)) = (0 : Int32))))), .val (.int (own_b (¬ ((p3 &&& (4 : Int32)) = (0 : Int32))))), .val (.int (own_b (¬ ((p3 &&& (8 : Int32)) = (0 : Int32))))), .val (.ref b84), .unset, .unset, .unset, .unset, .unset, .unset, .unset, .unset] [(.int (own_b (¬ ((p3 &&& (8 : Int32)) = (0 : Int32)))))])) target
        refine XS.ifNo Xg130.here hx rfl (hb hby at_135) rfl ((if0 _ _).trans (feq (own_bn0 rfl c135)).1) ?_
        show Steps p.tables e below (Tg130.setTop (mkF m 138 #[.val (.long q0), .second, .val (.long q1), .second, .val (.long q2), .second, .val (.int p3), .val (.int p4), .val (.long v5), .second, .val (.long v14), .second, .val (.long j39_s0), .second, .val (.int (own_b (¬ ((p3 &&& (2 : Int32)) = (0 : Int32))))), .val (.int (own_b (¬ ((p3 &&& (4 : Int32)) = (0 : Int32))))), .val (.int (own_b (¬ ((p3 &&& (8 : Int32)) = (0 : Int32))))), .val (.ref b84), .unset, .unset, .unset, .unset, .unset, .unset, .unset, .unset] [])) target
        refine XS.aload Xg130.here hx rfl (hb hby at_138) rfl rfl ?_
        exact kt
      obtain ⟨cqg140, kqg140, qg140a, qg140b, qg140c⟩ := isOf hZ rfl F_38
      obtain ⟨_, _, ⟨Tg140, Lg140, kg140, ng140⟩, -, Xg140, ⟨Lcg140, hQg140, lg140, yg140, zg140⟩, stg140⟩ := Xg130.virtualBack hx (y := (⟨"com/example/evenkeel/evenkeel/FullCycles", "giveUp", "()V"⟩ : MethodName)) (z := (⟨"com/example/evenkeel/evenkeel/FullCycles", "giveUp", "()V"⟩ : MethodName)) hown (mvT hZ (hw _ (List.mem_of_getElem? (i := 76) rfl))) (mvT hZ (hw _ (List.mem_of_getElem? (i := 77) rfl))) (notFace_of_selects (args := #[]) (mvT hZ (hw _ (List.mem_of_getElem? (i := 79) rfl)))) (mvT hZ (hw _ (List.mem_of_getElem? (i := 79) rfl))) (mvT hZ (hw _ (List.mem_of_getElem? (i := 78) rfl))) (by decide) (backOf (W := 0) (own_rm12 l Z a0 hw [] b84 w130_picks (¬ ((p3 &&& (2 : Int32)) = (0 : Int32))) p4 w130_began w130_made v14 (¬ (((w122_made + j39_s0)) < v14) ∨ (¬ (False) ∨ (¬ (¬ ((p3 &&& (4 : Int32)) = (0 : Int32))) ∨ (¬ (p4 = (1 : Int32)) ∨ (¬ (((w101_made + v5)) < (9223372036854775807 : Int64)) ∨ (¬ (False) ∨ (¬ (False) ∨ (¬ ((1 : Int32) = (0 : Int32)) ∨ (False))))))))) Tg130.heap n0 Zz_4 F_38 F_46 F_40 F_41 F_47 F_48 F_44 F_45 g_b84) hZ (hw _ (List.mem_of_getElem? (i := 80) rfl)) (hw _ (List.mem_of_getElem? (i := 3) rfl)) (by decide) (by decide)) qg140a qg140c (g := (mkF m 140 #[.val (.long q0), .second, .val (.long q1), .second, .val (.long q2), .second, .val (.int p3), .val (.int p4), .val (.long v5), .second, .val (.long v14), .second, .val (.long j39_s0), .second, .val (.int (own_b (¬ ((p3 &&& (2 : Int32)) = (0 : Int32))))), .val (.int (own_b (¬ ((p3 &&& (4 : Int32)) = (0 : Int32))))), .val (.int (own_b (¬ ((p3 &&& (8 : Int32)) = (0 : Int32))))), .val (.ref b84), .unset, .unset, .unset, .unset, .unset, .unset, .unset, .unset] [(.ref b84)])) rfl (by rw [hml]; rfl) (Steps.refl _) (argsL := []) (rest := []) (lenOf own_pd1 rfl) rfl (by show 2 * 0 + _ ≤ _; exact Nat.le_of_eq rfl) (hb hby at_140) (fun _ _ => ⟨rfl, rfl, (by decide : 1 + 0 ≤ _), (by decide : 7 + 0 ≤ _)⟩)
      dsimp only [Pt.U, Pt.locs, Pt.cells, Pt.slots] at Xg140 lg140 yg140 zg140 stg140 hQg140
      subst lg140 yg140 zg140
      obtain ⟨rfl, Ng140q, Kg140, F_49, F_50, F_51, F_52, F_53, F_54, F_55, F_56⟩ := hQg140
      have Zz_5 : n0 ≤ Tg140.heap.size := Nat.le_trans Zz_4 Kg140.1
      have Ng140 := Fr.app Ng130 Ng140q
      refine own_st (fun _ k => stg140.trans k) ?_
      exact ⟨_, ⟨Tg140, Tg140.heap, _, (0 : Int32), rfl, Xg140, rfl, Ng140, Zz_5, F_49, F_51, F_50, F_53, F_54, F_56, F_55, F_52, (own_b0 (fun w => w.1 c135)).symm⟩, fun _ k => k⟩
    · refine own_st (B := Tg130.setTop (mkF m 143 #[.val (.long q0), .second, .val (.long q1), .second, .val (.long q2), .second, .val (.int p3), .val (.int p4), .val (.long v5), .second, .val (.long v14), .second, .val (.long j39_s0), .second, .val (.int (own_b (¬ ((p3 &&& (2 : Int32)) = (0 : Int32))))), .val (.int (own_b (¬ ((p3 &&& (4 : Int32)) = (0 : Int32))))), .val (.int (own_b (¬ ((p3 &&& (8 : Int32)) = (0 : Int32))))), .val (.ref b84), .unset, .unset, .unset, .unset, .unset, .unset, .unset, .unset] [])) (fun target kt => ?_) ?_
      · show Steps p.tables e below (Tg130.setTop (mkF m 135 #[.val (.long q0), .second, .val (.long q1), .second, .val (.long q2), .second, .val (.int p3), .val (.int p4), .val (.long v5), .second, .val (.long v14), .second, .val (.long j39_s0), .second, .val (.int (own_b (¬ ((p3 &&& (2 : Int32)) = (0 : Int32))))), .val (.int (own_b (¬ ((p3 &&& (4 : Int32)) = (0 : Int32))))), .val (.int (own_b (¬ ((p3 &&& (8 : Int32)) = (0 : Int32))))), .val (.ref b84), .unset, .unset, .unset, .unset, .unset, .unset, .unset, .unset] [(.int (own_b (¬ ((p3 &&& (8 : Int32)) = (0 : Int32)))))])) target
        refine XS.ifYes Xg130.here hx rfl (pc0 := 135) (pc' := 143) rfl (hb hby at_135) rfl ((if0 _ _).trans (teq (own_b00 rfl c135)).1) (by decide) (by decide) ?_
        exact kt
      exact ⟨_, ⟨Tg130, Tg130.heap, _, (own_b (¬ (((w122_made + j39_s0)) < v14) ∨ (¬ (False) ∨ (¬ (¬ ((p3 &&& (4 : Int32)) = (0 : Int32))) ∨ (¬ (p4 = (1 : Int32)) ∨ (¬ (((w101_made + v5)) < (9223372036854775807 : Int64)) ∨ (¬ (False) ∨ (¬ (False) ∨ (¬ ((1 : Int32) = (0 : Int32)) ∨ (False)))))))))), rfl, Xg130, rfl, Ng130, Zz_4, F_38, F_40, F_46, F_47, F_48, F_45, F_44, F_41, (own_bj rfl (fun q => ⟨c135, q⟩) (fun q => (fun w => q w.2)))⟩, fun _ k => k⟩
  refine own_st st_M143 ?_
  refine own_st (B := T_M143.setTop (mkF m 145 #[.val (.long q0), .second, .val (.long q1), .second, .val (.long q2), .second, .val (.int p3), .val (.int p4), .val (.long v5), .second, .val (.long v14), .second, .val (.long j39_s0), .second, .val (.int (own_b (¬ ((p3 &&& (2 : Int32)) = (0 : Int32))))), .val (.int (own_b (¬ ((p3 &&& (4 : Int32)) = (0 : Int32))))), .val (.int (own_b (¬ ((p3 &&& (8 : Int32)) = (0 : Int32))))), .val (.ref b84), .unset, .unset, .unset, .unset, .unset, .unset, .unset, .unset] [(.ref b84)])) (fun target kt => ?_) ?_
  · show Steps p.tables e below (T_M143.setTop (mkF m 143 #[.val (.long q0), .second, .val (.long q1), .second, .val (.long q2), .second, .val (.int p3), .val (.int p4), .val (.long v5), .second, .val (.long v14), .second, .val (.long j39_s0), .second, .val (.int (own_b (¬ ((p3 &&& (2 : Int32)) = (0 : Int32))))), .val (.int (own_b (¬ ((p3 &&& (4 : Int32)) = (0 : Int32))))), .val (.int (own_b (¬ ((p3 &&& (8 : Int32)) = (0 : Int32))))), .val (.ref b84), .unset, .unset, .unset, .unset, .unset, .unset, .unset, .unset] [])) target
    refine XS.aload X_M143.here hx rfl (hb hby at_143) rfl rfl ?_
    exact kt
  obtain ⟨cqg145, kqg145, qg145a, qg145b, qg145c⟩ := isOf hZ e_M143 F_57
  obtain ⟨_, _, ⟨Tg145, Lg145, kg145, ng145⟩, -, Xg145, ⟨Lcg145, hQg145, lg145, yg145, zg145⟩, stg145⟩ := X_M143.virtualBack hx (y := (⟨"com/example/evenkeel/evenkeel/FullCycles", "picked", "()Z"⟩ : MethodName)) (z := (⟨"com/example/evenkeel/evenkeel/FullCycles", "picked", "()Z"⟩ : MethodName)) hown (mvT hZ (hw _ (List.mem_of_getElem? (i := 39) rfl))) (mvT hZ (hw _ (List.mem_of_getElem? (i := 40) rfl))) (notFace_of_selects (args := #[]) (mvT hZ (hw _ (List.mem_of_getElem? (i := 42) rfl)))) (mvT hZ (hw _ (List.mem_of_getElem? (i := 42) rfl))) (mvT hZ (hw _ (List.mem_of_getElem? (i := 41) rfl))) (by decide) (backOf (W := 0) (own_rm6 l Z a0 hw [] b84 w130_picks (¬ ((p3 &&& (2 : Int32)) = (0 : Int32))) p4 w130_began w130_made v14 (¬ (¬ ((p3 &&& (8 : Int32)) = (0 : Int32))) ∧ (¬ (((w122_made + j39_s0)) < v14) ∨ (¬ (False) ∨ (¬ (¬ ((p3 &&& (4 : Int32)) = (0 : Int32))) ∨ (¬ (p4 = (1 : Int32)) ∨ (¬ (((w101_made + v5)) < (9223372036854775807 : Int64)) ∨ (¬ (False) ∨ (¬ (False) ∨ (¬ ((1 : Int32) = (0 : Int32)) ∨ (False)))))))))) h_M143 n0 Z_M143 F_57 F_59 F_58 F_64 F_60 F_61 F_63 F_62 g_b84) hZ (hw _ (List.mem_of_getElem? (i := 43) rfl)) (hw _ (List.mem_of_getElem? (i := 3) rfl)) (by decide) (by decide)) qg145a qg145c (g := (mkF m 145 #[.val (.long q0), .second, .val (.long q1), .second, .val (.long q2), .second, .val (.int p3), .val (.int p4), .val (.long v5), .second, .val (.long v14), .second, .val (.long j39_s0), .second, .val (.int (own_b (¬ ((p3 &&& (2 : Int32)) = (0 : Int32))))), .val (.int (own_b (¬ ((p3 &&& (4 : Int32)) = (0 : Int32))))), .val (.int (own_b (¬ ((p3 &&& (8 : Int32)) = (0 : Int32))))), .val (.ref b84), .unset, .unset, .unset, .unset, .unset, .unset, .unset, .unset] [(.ref b84)])) rfl (by rw [hml]; rfl) (Steps.refl _) (argsL := []) (rest := []) (lenOf own_pd3 rfl) rfl (by show 2 * 0 + _ ≤ _; exact Nat.le_of_eq rfl) (hb hby at_145) (fun _ _ => ⟨rfl, e_M143, (by decide : 1 + 0 ≤ _), (by decide : 7 + 0 ≤ _)⟩)
  dsimp only [Pt.U, Pt.locs, Pt.cells, Pt.slots] at Xg145 lg145 yg145 zg145 stg145 hQg145
  subst lg145 yg145 zg145
  obtain ⟨rfl, Ng145q, Kg145, F_65, F_66, F_67, F_68, F_69, F_70, F_71, F_72⟩ := hQg145
  have Zz_6 : n0 ≤ Tg145.heap.size := Nat.le_trans Z_M143 Kg145.1
  obtain ⟨w145_picks, hw145_picks⟩ : ∃ z : Int64, z = (w130_picks + (1 : Int64)) := ⟨_, rfl⟩
  have F_73 : Fld Z Tg145.heap b84 "com/example/evenkeel/evenkeel/FullCycles" "picks" "J" (.long w145_picks) := by subst hw145_picks; exact F_66
  obtain ⟨w145_began, hw145_began⟩ : ∃ z : Int64, z = (w130_began + (((((w130_picks + (1 : Int64))) + (1 : Int64)) - w130_began) * ((1 : Int64) - (((((w130_made + (1 : Int64))) - v14).toUInt64 >>> ((63 : Int32) &&& 0x3f).toInt64.toUInt64).toInt64)))) := ⟨_, rfl⟩
  have F_74 : Fld Z Tg145.heap b84 "com/example/evenkeel/evenkeel/FullCycles" "began" "J" (.long w145_began) := by subst hw145_began; exact F_69
  obtain ⟨w145_made, hw145_made⟩ : ∃ z : Int64, z = (((w130_made + (1 : Int64))) * (((((w130_made + (1 : Int64))) - v14).toUInt64 >>> ((63 : Int32) &&& 0x3f).toInt64.toUInt64).toInt64)) := ⟨_, rfl⟩
  have F_75 : Fld Z Tg145.heap b84 "com/example/evenkeel/evenkeel/FullCycles" "made" "J" (.long w145_made) := by subst hw145_made; exact F_70
  have Ng145 := Fr.app N_M143 Ng145q
  refine own_st (fun _ k => stg145.trans k) ?_
  refine own_st (B := Tg145.setTop (mkF m 150 #[.val (.long q0), .second, .val (.long q1), .second, .val (.long q2), .second, .val (.int p3), .val (.int p4), .val (.long v5), .second, .val (.long v14), .second, .val (.long j39_s0), .second, .val (.int (own_b (¬ ((p3 &&& (2 : Int32)) = (0 : Int32))))), .val (.int (own_b (¬ ((p3 &&& (4 : Int32)) = (0 : Int32))))), .val (.int (own_b (¬ ((p3 &&& (8 : Int32)) = (0 : Int32))))), .val (.ref b84), .val (.int (own_b ((((((w130_made + (1 : Int64))) - v14).toUInt64 >>> ((63 : Int32) &&& 0x3f).toInt64.toUInt64).toInt64) = (0 : Int64)))), .unset, .unset, .unset, .unset, .unset, .unset, .unset] [])) (fun target kt => ?_) ?_
  · show Steps p.tables e below (Tg145.setTop (mkF m 148 #[.val (.long q0), .second, .val (.long q1), .second, .val (.long q2), .second, .val (.int p3), .val (.int p4), .val (.long v5), .second, .val (.long v14), .second, .val (.long j39_s0), .second, .val (.int (own_b (¬ ((p3 &&& (2 : Int32)) = (0 : Int32))))), .val (.int (own_b (¬ ((p3 &&& (4 : Int32)) = (0 : Int32))))), .val (.int (own_b (¬ ((p3 &&& (8 : Int32)) = (0 : Int32))))), .val (.ref b84), .unset, .unset, .unset, .unset, .unset, .unset, .unset, .unset] [(.int (own_b ((((((w130_made + (1 : Int64))) - v14).toUInt64 >>> ((63 : Int32) &&& 0x3f).toInt64.toUInt64).toInt64) = (0 : Int64))))])) target
    refine XS.istore Xg145.here hx rfl (hb hby at_148) rfl (l' := #[.val (.long q0), .second, .val (.long q1), .second, .val (.long q2), .second, .val (.int p3), .val (.int p4), .val (.long v5), .second, .val (.long v14), .second, .val (.long j39_s0), .second, .val (.int (own_b (¬ ((p3 &&& (2 : Int32)) = (0 : Int32))))), .val (.int (own_b (¬ ((p3 &&& (4 : Int32)) = (0 : Int32))))), .val (.int (own_b (¬ ((p3 &&& (8 : Int32)) = (0 : Int32))))), .val (.ref b84), .val (.int (own_b ((((((w130_made + (1 : Int64))) - v14).toUInt64 >>> ((63 : Int32) &&& 0x3f).toInt64.toUInt64).toInt64) = (0 : Int64)))), .unset, .unset, .unset, .unset, .unset, .unset, .unset]) rfl ?_
    exact kt
  obtain ⟨Tg150, hg150, Xg150, eg150, Eg150, Ag150, Dg150, -, stg150⟩ := newO Xg145 hx hZ hown (hw _ (List.mem_of_getElem? (i := 44) rfl)) (hw _ (List.mem_of_getElem? (i := 45) rfl)) (hw _ (List.mem_of_getElem? (i := 46) rfl)) rfl (g := (mkF m 150 #[.val (.long q0), .second, .val (.long q1), .second, .val (.long q2), .second, .val (.int p3), .val (.int p4), .val (.long v5), .second, .val (.long v14), .second, .val (.long j39_s0), .second, .val (.int (own_b (¬ ((p3 &&& (2 : Int32)) = (0 : Int32))))), .val (.int (own_b (¬ ((p3 &&& (4 : Int32)) = (0 : Int32))))), .val (.int (own_b (¬ ((p3 &&& (8 : Int32)) = (0 : Int32))))), .val (.ref b84), .val (.int (own_b ((((((w130_made + (1 : Int64))) - v14).toUInt64 >>> ((63 : Int32) &&& 0x3f).toInt64.toUInt64).toInt64) = (0 : Int64)))), .unset, .unset, .unset, .unset, .unset, .unset, .unset] [])) rfl (hb hby at_150) (by decide) (by decide)
  obtain ⟨b150, gg150⟩ : ∃ z, z = Tg145.heap.size := ⟨_, rfl⟩
  rw [← gg150] at Ag150 Dg150 stg150
  refine own_st stg150 ?_
  have ne_b84_b150 : b84 ≠ b150 := Nat.ne_of_lt (Nat.lt_of_lt_of_le F_65.lt (Nat.le_of_eq gg150.symm))
  have g_b150 : n0 ≤ b150 := Nat.le_trans Zz_6 (Nat.le_of_eq gg150.symm)
  have F_76 := F_65.ext Eg150
  have F_77 := F_67.ext Eg150
  have F_78 := F_73.ext Eg150
  have F_79 := F_74.ext Eg150
  have F_80 := F_75.ext Eg150
  have F_81 := F_72.ext Eg150
  have F_82 := F_71.ext Eg150
  have F_83 := F_68.ext Eg150
  have Zz_7 : n0 ≤ hg150.size := Nat.le_trans Zz_6 Eg150.1
  have F_84 : Fld Z hg150 b150 "com/example/evenkeel/evenkeel/CurrentValue" "seen" "J" (.long (0 : Int64)) := Dg150 (Or.inl (hw _ (List.mem_of_getElem? (i := 57) rfl))) (ty := .long) (by decide)
  have F_85 : Fld Z hg150 b150 "com/example/evenkeel/evenkeel/CurrentValue" "seenWeight" "I" (.int (0 : Int32)) := Dg150 (Or.inl (hw _ (List.mem_of_getElem? (i := 59) rfl))) (ty := .int) (by decide)
  refine own_st (B := Tg150.setTop (mkF m 154 #[.val (.long q0), .second, .val (.long q1), .second, .val (.long q2), .second, .val (.int p3), .val (.int p4), .val (.long v5), .second, .val (.long v14), .second, .val (.long j39_s0), .second, .val (.int (own_b (¬ ((p3 &&& (2 : Int32)) = (0 : Int32))))), .val (.int (own_b (¬ ((p3 &&& (4 : Int32)) = (0 : Int32))))), .val (.int (own_b (¬ ((p3 &&& (8 : Int32)) = (0 : Int32))))), .val (.ref b84), .val (.int (own_b ((((((w130_made + (1 : Int64))) - v14).toUInt64 >>> ((63 : Int32) &&& 0x3f).toInt64.toUInt64).toInt64) = (0 : Int64)))), .unset, .unset, .unset, .unset, .unset, .unset, .unset] [(.ref b150), (.ref b150)])) (fun target kt => ?_) ?_
  · show Steps p.tables e below (Tg150.setTop (mkF m 153 #[.val (.long q0), .second, .val (.long q1), .second, .val (.long q2), .second, .val (.int p3), .val (.int p4), .val (.long v5), .second, .val (.long v14), .second, .val (.long j39_s0), .second, .val (.int (own_b (¬ ((p3 &&& (2 : Int32)) = (0 : Int32))))), .val (.int (own_b (¬ ((p3 &&& (4 : Int32)) = (0 : Int32))))), .val (.int (own_b (¬ ((p3 &&& (8 : Int32)) = (0 : Int32))))), .val (.ref b84), .val (.int (own_b ((((((w130_made + (1 : Int64))) - v14).toUInt64 >>> ((63 : Int32) &&& 0x3f).toInt64.toUInt64).toInt64) = (0 : Int64)))), .unset, .unset, .unset, .unset, .unset, .unset, .unset] [(.ref b150)])) target
    refine XS.dup Xg150.here hx rfl (hb hby at_153) rfl rfl ?_
    exact kt
  obtain ⟨_, _, ⟨Tg154, Lg154, kg154, ng154⟩, -, Xg154, ⟨Lcg154, hQg154, lg154, yg154, zg154⟩, stg154⟩ := Xg150.specialBack hx (y := (⟨"com/example/evenkeel/evenkeel/CurrentValue", "<init>", "()V"⟩ : MethodName)) rfl hown (mvT hZ (hw _ (List.mem_of_getElem? (i := 47) rfl))) (mvT hZ (hw _ (List.mem_of_getElem? (i := 48) rfl))) (mvT hZ (hw _ (List.mem_of_getElem? (i := 49) rfl))) (by decide) (backOf (W := 1) (own_rm7 l Z a0 hw [] b150 hg150 n0 Zz_7) hZ (hw _ (List.mem_of_getElem? (i := 49) rfl)) (hw _ (List.mem_of_getElem? (i := 46) rfl)) (by decide) (by decide)) (g := (mkF m 154 #[.val (.long q0), .second, .val (.long q1), .second, .val (.long q2), .second, .val (.int p3), .val (.int p4), .val (.long v5), .second, .val (.long v14), .second, .val (.long j39_s0), .second, .val (.int (own_b (¬ ((p3 &&& (2 : Int32)) = (0 : Int32))))), .val (.int (own_b (¬ ((p3 &&& (4 : Int32)) = (0 : Int32))))), .val (.int (own_b (¬ ((p3 &&& (8 : Int32)) = (0 : Int32))))), .val (.ref b84), .val (.int (own_b ((((((w130_made + (1 : Int64))) - v14).toUInt64 >>> ((63 : Int32) &&& 0x3f).toInt64.toUInt64).toInt64) = (0 : Int64)))), .unset, .unset, .unset, .unset, .unset, .unset, .unset] [(.ref b150), (.ref b150)])) rfl (by rw [hml]; rfl) (Steps.refl _) (a := b150) (argsL := []) (rest := [(.ref b150)]) (lenOf own_pd1 rfl) rfl (by show 2 * 0 + _ ≤ _; exact Nat.le_of_eq rfl) (hb hby at_154) (fun _ _ => ⟨rfl, eg150, (by decide : 2 + 0 ≤ _), (by decide : 13 + 0 ≤ _)⟩)
  dsimp only [Pt.U, Pt.locs, Pt.cells, Pt.slots] at Xg154 lg154 yg154 zg154 stg154 hQg154
  subst lg154 yg154 zg154
  obtain ⟨rfl, Ng154q, eg154⟩ := hQg154
  have Ng154 := Fr.app Ng145 Ng154q
  refine own_st (fun _ k => stg154.trans k) ?_
  refine own_st (B := Tg154.setTop (mkF m 164 #[.val (.long q0), .second, .val (.long q1), .second, .val (.long q2), .second, .val (.int p3), .val (.int p4), .val (.long v5), .second, .val (.long v14), .second, .val (.long j39_s0), .second, .val (.int (own_b (¬ ((p3 &&& (2 : Int32)) = (0 : Int32))))), .val (.int (own_b (¬ ((p3 &&& (4 : Int32)) = (0 : Int32))))), .val (.int (own_b (¬ ((p3 &&& (8 : Int32)) = (0 : Int32))))), .val (.ref b84), .val (.int (own_b ((((((w130_made + (1 : Int64))) - v14).toUInt64 >>> ((63 : Int32) &&& 0x3f).toInt64.toUInt64).toInt64) = (0 : Int64)))), .val (.ref b150), .unset, .unset, .unset, .unset, .unset, .unset] [(.int (1 : Int32)), (.ref b150), (.ref b84)])) (fun target kt => ?_) ?_
  · show Steps p.tables e below (Tg154.setTop (mkF m 157 #[.val (.long q0), .second, .val (.long q1), .second, .val (.long q2), .second, .val (.int p3), .val (.int p4), .val (.long v5), .second, .val (.long v14), .second, .val (.long j39_s0), .second, .val (.int (own_b (¬ ((p3 &&& (2 : Int32)) = (0 : Int32))))), .val (.int (own_b (¬ ((p3 &&& (4 : Int32)) = (0 : Int32))))), .val (.int (own_b (¬ ((p3 &&& (8 : Int32)) = (0 : Int32))))), .val (.ref b84), .val (.int (own_b ((((((w130_made + (1 : Int64))) - v14).toUInt64 >>> ((63 : Int32) &&& 0x3f).toInt64.toUInt64).toInt64) = (0 : Int64)))), .unset, .unset, .unset, .unset, .unset, .unset, .unset] [(.ref b150)])) target
    refine XS.astore Xg154.here hx rfl (hb hby at_157) rfl rfl (l' := #[.val (.long q0), .second, .val (.long q1), .second, .val (.long q2), .second, .val (.int p3), .val (.int p4), .val (.long v5), .second, .val (.long v14), .second, .val (.long j39_s0), .second, .val (.int (own_b (¬ ((p3 &&& (2 : Int32)) = (0 : Int32))))), .val (.int (own_b (¬ ((p3 &&& (4 : Int32)) = (0 : Int32))))), .val (.int (own_b (¬ ((p3 &&& (8 : Int32)) = (0 : Int32))))), .val (.ref b84), .val (.int (own_b ((((((w130_made + (1 : Int64))) - v14).toUInt64 >>> ((63 : Int32) &&& 0x3f).toInt64.toUInt64).toInt64) = (0 : Int64)))), .val (.ref b150), .unset, .unset, .unset, .unset, .unset, .unset]) rfl ?_
    show Steps p.tables e below (Tg154.setTop (mkF m 159 #[.val (.long q0), .second, .val (.long q1), .second, .val (.long q2), .second, .val (.int p3), .val (.int p4), .val (.long v5), .second, .val (.long v14), .second, .val (.long j39_s0), .second, .val (.int (own_b (¬ ((p3 &&& (2 : Int32)) = (0 : Int32))))), .val (.int (own_b (¬ ((p3 &&& (4 : Int32)) = (0 : Int32))))), .val (.int (own_b (¬ ((p3 &&& (8 : Int32)) = (0 : Int32))))), .val (.ref b84), .val (.int (own_b ((((((w130_made + (1 : Int64))) - v14).toUInt64 >>> ((63 : Int32) &&& 0x3f).toInt64.toUInt64).toInt64) = (0 : Int64)))), .val (.ref b150), .unset, .unset, .unset, .unset, .unset, .unset] [])) target
    refine XS.aload Xg154.here hx rfl (hb hby at_159) rfl rfl ?_
    show Steps p.tables e below (Tg154.setTop (mkF m 161 #[.val (.long q0), .second, .val (.long q1), .second, .val (.long q2), .second, .val (.int p3), .val (.int p4), .val (.long v5), .second, .val (.long v14), .second, .val (.long j39_s0), .second, .val (.int (own_b (¬ ((p3 &&& (2 : Int32)) = (0 : Int32))))), .val (.int (own_b (¬ ((p3 &&& (4 : Int32)) = (0 : Int32))))), .val (.int (own_b (¬ ((p3 &&& (8 : Int32)) = (0 : Int32))))), .val (.ref b84), .val (.int (own_b ((((((w130_made + (1 : Int64))) - v14).toUInt64 >>> ((63 : Int32) &&& 0x3f).toInt64.toUInt64).toInt64) = (0 : Int64)))), .val (.ref b150), .unset, .unset, .unset, .unset, .unset, .unset] [(.ref b84)])) target
    refine XS.aload Xg154.here hx rfl (hb hby at_161) rfl rfl ?_
    show Steps p.tables e below (Tg154.setTop (mkF m 163 #[.val (.long q0), .second, .val (.long q1), .second, .val (.long q2), .second, .val (.int p3), .val (.int p4), .val (.long v5), .second, .val (.long v14), .second, .val (.long j39_s0), .second, .val (.int (own_b (¬ ((p3 &&& (2 : Int32)) = (0 : Int32))))), .val (.int (own_b (¬ ((p3 &&& (4 : Int32)) = (0 : Int32))))), .val (.int (own_b (¬ ((p3 &&& (8 : Int32)) = (0 : Int32))))), .val (.ref b84), .val (.int (own_b ((((((w130_made + (1 : Int64))) - v14).toUInt64 >>> ((63 : Int32) &&& 0x3f).toInt64.toUInt64).toInt64) = (0 : Int64)))), .val (.ref b150), .unset, .unset, .unset, .unset, .unset, .unset] [(.ref b150), (.ref b84)])) target
    refine XS.iconst Xg154.here hx rfl (hb hby at_163) ?_
    exact kt
  obtain ⟨cqg164, kqg164, qg164a, qg164b, qg164c⟩ := isOf hZ eg154 F_76
  obtain ⟨_, _, ⟨Tg164, Lg164, kg164, ng164⟩, -, Xg164, ⟨Lcg164, hQg164, lg164, yg164, zg164⟩, stg164⟩ := Xg154.virtualBack hx (y := (⟨"com/example/evenkeel/evenkeel/FullCycles", "tookPart", "(Lcom/example/evenkeel/evenkeel/CurrentValue;I)V"⟩ : MethodName)) (z := (⟨"com/example/evenkeel/evenkeel/FullCycles", "tookPart", "(Lcom/example/evenkeel/evenkeel/CurrentValue;I)V"⟩ : MethodName)) hown (mvT hZ (hw _ (List.mem_of_getElem? (i := 51) rfl))) (mvT hZ (hw _ (List.mem_of_getElem? (i := 52) rfl))) (notFace_of_selects (args := #[]) (mvT hZ (hw _ (List.mem_of_getElem? (i := 54) rfl)))) (mvT hZ (hw _ (List.mem_of_getElem? (i := 54) rfl))) (mvT hZ (hw _ (List.mem_of_getElem? (i := 53) rfl))) (by decide) (backOf (W := 0) (own_rm8 l Z a0 hw [] b84 b150 (1 : Int32) w145_picks (0 : Int64) (0 : Int32) hg150 n0 Zz_7 F_78 Ag150 F_84 F_85 g_b150 ne_b84_b150) hZ (hw _ (List.mem_of_getElem? (i := 55) rfl)) (hw _ (List.mem_of_getElem? (i := 3) rfl)) (by decide) (by decide)) qg164a qg164c (g := (mkF m 164 #[.val (.long q0), .second, .val (.long q1), .second, .val (.long q2), .second, .val (.int p3), .val (.int p4), .val (.long v5), .second, .val (.long v14), .second, .val (.long j39_s0), .second, .val (.int (own_b (¬ ((p3 &&& (2 : Int32)) = (0 : Int32))))), .val (.int (own_b (¬ ((p3 &&& (4 : Int32)) = (0 : Int32))))), .val (.int (own_b (¬ ((p3 &&& (8 : Int32)) = (0 : Int32))))), .val (.ref b84), .val (.int (own_b ((((((w130_made + (1 : Int64))) - v14).toUInt64 >>> ((63 : Int32) &&& 0x3f).toInt64.toUInt64).toInt64) = (0 : Int64)))), .val (.ref b150), .unset, .unset, .unset, .unset, .unset, .unset] [(.int (1 : Int32)), (.ref b150), (.ref b84)])) rfl (by rw [hml]; rfl) (Steps.refl _) (argsL := [(.ref b150), (.int (1 : Int32))]) (rest := []) (lenOf own_pd4 rfl) rfl (by show 2 * 0 + _ ≤ _; exact Nat.le_of_eq rfl) (hb hby at_164) (fun _ _ => ⟨rfl, eg154, (by decide : 2 + 0 ≤ _), (by decide : 13 + 0 ≤ _)⟩)
  dsimp only [Pt.U, Pt.locs, Pt.cells, Pt.slots] at Xg164 lg164 yg164 zg164 stg164 hQg164
  subst lg164 yg164 zg164
  obtain ⟨rfl, Ng164q, Kg164, F_86, F_87, F_88⟩ := hQg164
  have F_89 := F_76.keep Kg164
  have F_90 := F_77.keep Kg164 (ninS ne_b84_b150 nin0)
  have F_91 := F_78.keep Kg164 (ninS ne_b84_b150 nin0)
  have F_92 := F_79.keep Kg164 (ninS ne_b84_b150 nin0)
  have F_93 := F_80.keep Kg164 (ninS ne_b84_b150 nin0)
  have F_94 := F_81.keep Kg164 (ninS ne_b84_b150 nin0)
  have F_95 := F_82.keep Kg164 (ninS ne_b84_b150 nin0)
  have F_96 := F_83.keep Kg164 (ninS ne_b84_b150 nin0)
  have Zz_8 : n0 ≤ Tg164.heap.size := Nat.le_trans Zz_7 Kg164.1
  have Ng164 := Fr.app Ng154 Ng164q
  refine own_st (fun _ k => stg164.trans k) ?_
  refine own_st (B := Tg164.setTop (mkF m 174 #[.val (.long q0), .second, .val (.long q1), .second, .val (.long q2), .second, .val (.int p3), .val (.int p4), .val (.long v5), .second, .val (.long v14), .second, .val (.long j39_s0), .second, .val (.int (own_b (¬ ((p3 &&& (2 : Int32)) = (0 : Int32))))), .val (.int (own_b (¬ ((p3 &&& (4 : Int32)) = (0 : Int32))))), .val (.int (own_b (¬ ((p3 &&& (8 : Int32)) = (0 : Int32))))), .val (.ref b84), .val (.int (own_b ((((((w130_made + (1 : Int64))) - v14).toUInt64 >>> ((63 : Int32) &&& 0x3f).toInt64.toUInt64).toInt64) = (0 : Int64)))), .val (.ref b150), .unset, .unset, .unset, .unset, .unset, .unset] [(.int (lcmpW (j39_s0 + (1 : Int64)) v14))])) (fun target kt => ?_) ?_
  · show Steps p.tables e below (Tg164.setTop (mkF m 167 #[.val (.long q0), .second, .val (.long q1), .second, .val (.long q2), .second, .val (.int p3), .val (.int p4), .val (.long v5), .second, .val (.long v14), .second, .val (.long j39_s0), .second, .val (.int (own_b (¬ ((p3 &&& (2 : Int32)) = (0 : Int32))))), .val (.int (own_b (¬ ((p3 &&& (4 : Int32)) = (0 : Int32))))), .val (.int (own_b (¬ ((p3 &&& (8 : Int32)) = (0 : Int32))))), .val (.ref b84), .val (.int (own_b ((((((w130_made + (1 : Int64))) - v14).toUInt64 >>> ((63 : Int32) &&& 0x3f).toInt64.toUInt64).toInt64) = (0 : Int64)))), .val (.ref b150), .unset, .unset, .unset, .unset, .unset, .unset] [])) target
    refine XS.lload Xg164.here hx rfl (hb hby at_167) rfl ?_
    show Steps p.tables e below (Tg164.setTop (mkF m 169 #[.val (.long q0), .second, .val (.long q1), .second, .val (.long q2), .second, .val (.int p3), .val (.int p4), .val (.long v5), .second, .val (.long v14), .second, .val (.long j39_s0), .second, .val (.int (own_b (¬ ((p3 &&& (2 : Int32)) = (0 : Int32))))), .val (.int (own_b (¬ ((p3 &&& (4 : Int32)) = (0 : Int32))))), .val (.int (own_b (¬ ((p3 &&& (8 : Int32)) = (0 : Int32))))), .val (.ref b84), .val (.int (own_b ((((((w130_made + (1 : Int64))) - v14).toUInt64 >>> ((63 : Int32) &&& 0x3f).toInt64.toUInt64).toInt64) = (0 : Int64)))), .val (.ref b150), .unset, .unset, .unset, .unset, .unset, .unset] [(.long j39_s0)])) target
    refine XS.lconst Xg164.here hx rfl (hb hby at_169) ?_
    show Steps p.tables e below (Tg164.setTop (mkF m 170 #[.val (.long q0), .second, .val (.long q1), .second, .val (.long q2), .second, .val (.int p3), .val (.int p4), .val (.long v5), .second, .val (.long v14), .second, .val (.long j39_s0), .second, .val (.int (own_b (¬ ((p3 &&& (2 : Int32)) = (0 : Int32))))), .val (.int (own_b (¬ ((p3 &&& (4 : Int32)) = (0 : Int32))))), .val (.int (own_b (¬ ((p3 &&& (8 : Int32)) = (0 : Int32))))), .val (.ref b84), .val (.int (own_b ((((((w130_made + (1 : Int64))) - v14).toUInt64 >>> ((63 : Int32) &&& 0x3f).toInt64.toUInt64).toInt64) = (0 : Int64)))), .val (.ref b150), .unset, .unset, .unset, .unset, .unset, .unset] [(.long (1 : Int64)), (.long j39_s0)])) target
    refine XS.ladd Xg164.here hx rfl (hb hby at_170) rfl ?_
    show Steps p.tables e below (Tg164.setTop (mkF m 171 #[.val (.long q0), .second, .val (.long q1), .second, .val (.long q2), .second, .val (.int p3), .val (.int p4), .val (.long v5), .second, .val (.long v14), .second, .val (.long j39_s0), .second, .val (.int (own_b (¬ ((p3 &&& (2 : Int32)) = (0 : Int32))))), .val (.int (own_b (¬ ((p3 &&& (4 : Int32)) = (0 : Int32))))), .val (.int (own_b (¬ ((p3 &&& (8 : Int32)) = (0 : Int32))))), .val (.ref b84), .val (.int (own_b ((((((w130_made + (1 : Int64))) - v14).toUInt64 >>> ((63 : Int32) &&& 0x3f).toInt64.toUInt64).toInt64) = (0 : Int64)))), .val (.ref b150), .unset, .unset, .unset, .unset, .unset, .unset] [(.long (j39_s0 + (1 : Int64)))])) target
    refine XS.lload Xg164.here hx rfl (hb hby at_171) rfl ?_
    show Steps p.tables e below (Tg164.setTop (mkF m 173 #[.val (.long q0), .second, .val (.long q1), .second, .val (.long q2), .second, .val (.int p3), .val (.int p4), .val (.long v5), .second, .val (.long v14), .second, .val (.long j39_s0), .second, .val (.int (own_b (¬ ((p3 &&& (2 : Int32)) = (0 : Int32))))), .val (.int (own_b (¬ ((p3 &&& (4 : Int32)) = (0 : Int32))))), .val (.int (own_b (¬ ((p3 &&& (8 : Int32)) = (0 : Int32))))), .val (.ref b84), .val (.int (own_b ((((((w130_made + (1 : Int64))) - v14).toUInt64 >>> ((63 : Int32) &&& 0x3f).toInt64.toUInt64).toInt64) = (0 : Int64)))), .val (.ref b150), .unset, .unset, .unset, .unset, .unset, .unset] [(.long v14), (.long (j39_s0 + (1 : Int64)))])) target
    refine XS.lcmp Xg164.here hx rfl (hb hby at_173) rfl ?_
    exact kt
  obtain ⟨_, ⟨j182_s0, rfl, rfl⟩, st_M182⟩ : own_Lead p.tables e below (Tg164.setTop (mkF m 174 #[.val (.long q0), .second, .val (.long q1), .second, .val (.long q2), .second, .val (.int p3), .val (.int p4), .val (.long v5), .second, .val (.long v14), .second, .val (.long j39_s0), .second, .val (.int (own_b (¬ ((p3 &&& (2 : Int32)) = (0 : Int32))))), .val (.int (own_b (¬ ((p3 &&& (4 : Int32)) = (0 : Int32))))), .val (.int (own_b (¬ ((p3 &&& (8 : Int32)) = (0 : Int32))))), .val (.ref b84), .val (.int (own_b ((((((w130_made + (1 : Int64))) - v14).toUInt64 >>> ((63 : Int32) &&& 0x3f).toInt64.toUInt64).toInt64) = (0 : Int64)))), .val (.ref b150), .unset, .unset, .unset, .unset, .unset, .unset] [(.int (lcmpW (j39_s0 + (1 : Int64)) v14))])) (fun B => ∃ (j182_s0 : Int32), B = Tg164.setTop (mkF m 182 #[.val (.long q0), .second, .val (.long q1), .second, .val (.long q2), .second, .val (.int p3), .val (.int p4), .val (.long v5), .second, .val (.long v14), .second, .val (.long j39_s0), .second, .val (.int (own_b (¬ ((p3 &&& (2 : Int32)) = (0 : Int32))))), .val (.int (own_b (¬ ((p3 &&& (4 : Int32)) = (0 : Int32))))), .val (.int (own_b (¬ ((p3 &&& (8 : Int32)) = (0 : Int32))))), .val (.ref b84), .val (.int (own_b ((((((w130_made + (1 : Int64))) - v14).toUInt64 >>> ((63 : Int32) &&& 0x3f).toInt64.toUInt64).toInt64) = (0 : Int64)))), .val (.ref b150), .unset, .unset, .unset, .unset, .unset, .unset] [(.int j182_s0)]) ∧ j182_s0 = own_b ((j39_s0 + (1 : Int64)) = v14)) := by
    by_cases c174 : (j39_s0 + (1 : Int64)) = v14
    · refine own_st (B := Tg164.setTop (mkF m 182 #[.val (.long q0), .second, .val (.long q1), .second, .val (.long q2), .second, .val (.int p3), .val (.int p4), .val (.long v5), .second, .val (.long v14), .second, .val (.long j39_s0), .second, .val (.int (own_b (¬ ((p3 &&& (2 : Int32)) = (0 : Int32))))), .val (.int (own_b (¬ ((p3 &&& (4 : Int32)) = (0 : Int32))))), .val (.int (own_b (¬ ((p3 &&& (8 : Int32)) = (0 : Int32))))), .val (.ref b84), .val (.int (own_b ((((((w130_made + (1 : Int64))) - v14).toUInt64 >>> ((63 : Int32) &&& 0x3f).toInt64.toUInt64).toInt64) = (0 : Int64)))), .val (.ref b150), .unset, .unset, .unset, .unset, .unset, .unset] [(.int (1 : Int32))])) (fun target kt => ?_) ?_
      · show Steps p.tables e below (Tg164.setTop (mkF m 174 #[.val (.long q0), .second, .val (.long q1), .second, .val (.long q2), .second, .val (.int p3), .val (.int p4), .val (.long v5), .second, .val (.long v14), .second, .val (.long j39_s0), .second, .val (.int (own_b (¬ ((p3 &&& (2 : Int32)) = (0 : Int32))))), .val (.int (own_b (¬ ((p3 &&& (4 : Int32)) = (0 : Int32))))), .val (.int (own_b (¬ ((p3 &&& (8 : Int32)) = (0 : Int32))))), .val (.ref b84), .val (.int (own_b ((((((w130_made + (1 : Int64))) - v14).toUInt64 >>> ((63 : Int32) &&& 0x3f).toInt64.toUInt64).toInt64) = (0 : Int64)))), .val (.ref b150), .unset, .unset, .unset, .unset, .unset, .unset] [(.int (lcmpW (j39_s0 + (1 : Int64)) v14))])) target
        refine XS.ifNo Xg164.here hx rfl (hb hby at_174) rfl ((if0 _ _).trans (teq ((lw_eq (j39_s0 + (1 : Int64)) v14).mpr c174)).2) ?_
        show Steps p.tables e below (Tg164.setTop (mkF m 177 #[.val (.long q0), .second, .val (.long q1), .second, .val (.long q2), .second, .val (.int p3), .val (.int p4), .val (.long v5), .second, .val (.long v14), .second, .val (.long j39_s0), .second, .val (.int (own_b (¬ ((p3 &&& (2 : Int32)) = (0 : Int32))))), .val (.int (own_b (¬ ((p3 &&& (4 : Int32)) = (0 : Int32))))), .val (.int (own_b (¬ ((p3 &&& (8 : Int32)) = (0 : Int32))))), .val (.ref b84), .val (.int (own_b ((((((w130_made + (1 : Int64))) - v14).toUInt64 >>> ((63 : Int32) &&& 0x3f).toInt64.toUInt64).toInt64) = (0 : Int64)))), .val (.ref b150), .unset, .unset, .unset, .unset, .unset, .unset] [])) target
        refine XS.iconst Xg164.here hx rfl (hb hby at_177) ?_
        show Steps p.tables e below (Tg164.setTop (mkF m 178 #[.val (.long q0), .second, .val (.long q1), .second, .val (.long q2), .second, .val (.int p3), .val (.int p4), .val (.long v5), .second, .val (.long v14), .second, .val (.long j39_s0), .second, .val (.int (own_b (¬ ((p3 &&& (2 : Int32)) = (0 : Int32))))), .val (.int (own_b (¬ ((p3 &&& (4 : Int32)) = (0 : Int32))))), .val (.int (own_b (¬ ((p3 &&& (8 : Int32)) = (0 : Int32))))), .val (.ref b84), .val (.int (own_b ((((((w130_made + (1 : Int64))) - v14).toUInt64 >>> ((63 : Int32) &&& 0x3f).toInt64.toUInt64).toInt64) = (0 : Int64)))), .val (.ref b150), .unset, .unset, .unset, .unset, .unset, .unset] [(.int (1 : Int32))])) target
        refine XS.goto Xg164.here hx rfl (pc0 := 178) (pc' := 182) rfl (hb hby at_178) (by decide) (by decide) ?_
        exact kt
      exact ⟨_, ⟨(1 : Int32), rfl, (own_b1 c174).symm⟩, fun _ k => k⟩
    · refine own_st (B := Tg164.setTop (mkF m 182 #[.val (.long q0), .second, .val (.long q1), .second, .val (.long q2), .second, .val (.int p3), .val (.int p4), .val (.long v5), .second, .val (.long v14), .second, .val (.long j39_s0), .second, .val (.int (own_b (¬ ((p3 &&& (2 : Int32)) = (0 : Int32))))), .val (.int (own_b (¬ ((p3 &&& (4 : Int32)) = (0 : Int32))))), .val (.int (own_b (¬ ((p3 &&& (8 : Int32)) = (0 : Int32))))), .val (.ref b84), .val (.int (own_b ((((((w130_made + (1 : Int64))) - v14).toUInt64 >>> ((63 : Int32) &&& 0x3f).toInt64.toUInt64).toInt64) = (0 : Int64)))), .val (.ref b150), .unset, .unset, .unset, .unset, .unset, .unset] [(.int (0 : Int32))])) (fun target kt => ?_) ?_
      · show Steps p.tables e below (Tg164.setTop (mkF m 174 #[.val (.long q0), .second, .val (.long q1), .second, .val (.long q2), .second, .val (.int p3), .val (.int p4), .val (.long v5), .second, .val (.long v14), .second, .val (.long j39_s0), .second, .val (.int (own_b (¬ ((p3 &&& (2 : Int32)) = (0 : Int32))))), .val (.int (own_b (¬ ((p3 &&& (4 : Int32)) = (0 : Int32))))), .val (.int (own_b (¬ ((p3 &&& (8 : Int32)) = (0 : Int32))))), .val (.ref b84), .val (.int (own_b ((((((w130_made + (1 : Int64))) - v14).toUInt64 >>> ((63 : Int32) &&& 0x3f).toInt64.toUInt64).toInt64) = (0 : Int64)))), .val (.ref b150), .unset, .unset, .unset, .unset, .unset, .unset] [(.int (lcmpW (j39_s0 + (1 : Int64)) v14))])) target
        refine XS.ifYes Xg164.here hx rfl (pc0 := 174) (pc' := 181) rfl (hb hby at_174) rfl ((if0 _ _).trans (feq (fun q => c174 ((lw_eq (j39_s0 + (1 : Int64)) v14).mp q))).2) (by decide) (by decide) ?_
        show Steps p.tables e below (Tg164.setTop (mkF m 181 #[.val (.long q0), .second, .val (.long q1), .second, .val (.long q2), .second, .val (.int p3), .val (.int p4), .val (.long v5), .second, .val (.long v14), .second, .val (.long j39_s0), .second, .val (.int (own_b (¬ ((p3 &&& (2 : Int32)) = (0 : Int32))))), .val (.int (own_b (¬ ((p3 &&& (4 : Int32)) = (0 : Int32))))), .val (.int (own_b (¬ ((p3 &&& (8 : Int32)) = (0 : Int32))))), .val (.ref b84), .val (.int (own_b ((((((w130_made + (1 : Int64))) - v14).toUInt64 >>> ((63 : Int32) &&& 0x3f).toInt64.toUInt64).toInt64) = (0 : Int64)))), .val (.ref b150), .unset, .unset, .unset, .unset, .unset, .unset] [])) target
        refine XS.iconst Xg164.here hx rfl (hb hby at_181) ?_
        exact kt
      exact ⟨_, ⟨(0 : Int32), rfl, (own_b0 c174).symm⟩, fun _ k => k⟩
  refine own_st st_M182 ?_
  refine own_st (B := Tg164.setTop (mkF m 186 #[.val (.long q0), .second, .val (.long q1), .second, .val (.long q2), .second, .val (.int p3), .val (.int p4), .val (.long v5), .second, .val (.long v14), .second, .val (.long j39_s0), .second, .val (.int (own_b (¬ ((p3 &&& (2 : Int32)) = (0 : Int32))))), .val (.int (own_b (¬ ((p3 &&& (4 : Int32)) = (0 : Int32))))), .val (.int (own_b (¬ ((p3 &&& (8 : Int32)) = (0 : Int32))))), .val (.ref b84), .val (.int (own_b ((((((w130_made + (1 : Int64))) - v14).toUInt64 >>> ((63 : Int32) &&& 0x3f).toInt64.toUInt64).toInt64) = (0 : Int64)))), .val (.ref b150), .val (.int (own_b ((j39_s0 + (1 : Int64)) = v14))), .unset, .unset, .unset, .unset, .unset] [(.int (own_b ((j39_s0 + (1 : Int64)) = v14)))])) (fun target kt => ?_) ?_
  · show Steps p.tables e below (Tg164.setTop (mkF m 182 #[.val (.long q0), .second, .val (.long q1), .second, .val (.long q2), .second, .val (.int p3), .val (.int p4), .val (.long v5), .second, .val (.long v14), .second, .val (.long j39_s0), .second, .val (.int (own_b (¬ ((p3 &&& (2 : Int32)) = (0 : Int32))))), .val (.int (own_b (¬ ((p3 &&& (4 : Int32)) = (0 : Int32))))), .val (.int (own_b (¬ ((p3 &&& (8 : Int32)) = (0 : Int32))))), .val (.ref b84), .val (.int (own_b ((((((w130_made + (1 : Int64))) - v14).toUInt64 >>> ((63 : Int32) &&& 0x3f).toInt64.toUInt64).toInt64) = (0 : Int64)))), .val (.ref b150), .unset, .unset, .unset, .unset, .unset, .unset] [(.int (own_b ((j39_s0 + (1 : Int64)) = v14)))])) target
    refine XS.istore Xg164.here hx rfl (hb hby at_182) rfl (l' := #[.val (.long q0), .second, .val (.long q1), .second, .val (.long q2), .second, .val (.int p3), .val (.int p4), .val (.long v5), .second, .val (.long v14), .second, .val (.long j39_s0), .second, .val (.int (own_b (¬ ((p3 &&& (2 : Int32)) = (0 : Int32))))), .val (.int (own_b (¬ ((p3 &&& (4 : Int32)) = (0 : Int32))))), .val (.int (own_b (¬ ((p3 &&& (8 : Int32)) = (0 : Int32))))), .val (.ref b84), .val (.int (own_b ((((((w130_made + (1 : Int64))) - v14).toUInt64 >>> ((63 : Int32) &&& 0x3f).toInt64.toUInt64).toInt64) = (0 : Int64)))), .val (.ref b150), .val (.int (own_b ((j39_s0 + (1 : Int64)) = v14))), .unset, .unset, .unset, .unset, .unset]) rfl ?_
    show Steps p.tables e below (Tg164.setTop (mkF m 184 #[.val (.long q0), .second, .val (.long q1), .second, .val (.long q2), .second, .val (.int p3), .val (.int p4), .val (.long v5), .second, .val (.long v14), .second, .val (.long j39_s0), .second, .val (.int (own_b (¬ ((p3 &&& (2 : Int32)) = (0 : Int32))))), .val (.int (own_b (¬ ((p3 &&& (4 : Int32)) = (0 : Int32))))), .val (.int (own_b (¬ ((p3 &&& (8 : Int32)) = (0 : Int32))))), .val (.ref b84), .val (.int (own_b ((((((w130_made + (1 : Int64))) - v14).toUInt64 >>> ((63 : Int32) &&& 0x3f).toInt64.toUInt64).toInt64) = (0 : Int64)))), .val (.ref b150), .val (.int (own_b ((j39_s0 + (1 : Int64)) = v14))), .unset, .unset, .unset, .unset, .unset] [])) target
    refine XS.iload Xg164.here hx rfl (hb hby at_184) rfl ?_
    exact kt
  obtain ⟨_, ⟨j205_s0, rfl, hj205_s0⟩, st_M205⟩ : own_Lead p.tables e below (Tg164.setTop (mkF m 186 #[.val (.long q0), .second, .val (.long q1), .second, .val (.long q2), .second, .val (.int p3), .val (.int p4), .val (.long v5), .second, .val (.long v14), .second, .val (.long j39_s0), .second, .val (.int (own_b (¬ ((p3 &&& (2 : Int32)) = (0 : Int32))))), .val (.int (own_b (¬ ((p3 &&& (4 : Int32)) = (0 : Int32))))), .val (.int (own_b (¬ ((p3 &&& (8 : Int32)) = (0 : Int32))))), .val (.ref b84), .val (.int (own_b ((((((w130_made + (1 : Int64))) - v14).toUInt64 >>> ((63 : Int32) &&& 0x3f).toInt64.toUInt64).toInt64) = (0 : Int64)))), .val (.ref b150), .val (.int (own_b ((j39_s0 + (1 : Int64)) = v14))), .unset, .unset, .unset, .unset, .unset] [(.int (own_b ((j39_s0 + (1 : Int64)) = v14)))])) (fun B => ∃ (j205_s0 : Int64), B = Tg164.setTop (mkF m 205 #[.val (.long q0), .second, .val (.long q1), .second, .val (.long q2), .second, .val (.int p3), .val (.int p4), .val (.long v5), .second, .val (.long v14), .second, .val (.long j39_s0), .second, .val (.int (own_b (¬ ((p3 &&& (2 : Int32)) = (0 : Int32))))), .val (.int (own_b (¬ ((p3 &&& (4 : Int32)) = (0 : Int32))))), .val (.int (own_b (¬ ((p3 &&& (8 : Int32)) = (0 : Int32))))), .val (.ref b84), .val (.int (own_b ((((((w130_made + (1 : Int64))) - v14).toUInt64 >>> ((63 : Int32) &&& 0x3f).toInt64.toUInt64).toInt64) = (0 : Int64)))), .val (.ref b150), .val (.int (own_b ((j39_s0 + (1 : Int64)) = v14))), .unset, .unset, .unset, .unset, .unset] [(.long j205_s0)]) ∧ j205_s0 = (if (j39_s0 + (1 : Int64)) = v14 then ((v5 + j39_s0) + (2 : Int64)) else (v5 + (1 : Int64)))) := by
    by_cases c186 : (j39_s0 + (1 : Int64)) = v14
    · refine own_st (B := Tg164.setTop (mkF m 205 #[.val (.long q0), .second, .val (.long q1), .second, .val (.long q2), .second, .val (.int p3), .val (.int p4), .val (.long v5), .second, .val (.long v14), .second, .val (.long j39_s0), .second, .val (.int (own_b (¬ ((p3 &&& (2 : Int32)) = (0 : Int32))))), .val (.int (own_b (¬ ((p3 &&& (4 : Int32)) = (0 : Int32))))), .val (.int (own_b (¬ ((p3 &&& (8 : Int32)) = (0 : Int32))))), .val (.ref b84), .val (.int (own_b ((((((w130_made + (1 : Int64))) - v14).toUInt64 >>> ((63 : Int32) &&& 0x3f).toInt64.toUInt64).toInt64) = (0 : Int64)))), .val (.ref b150), .val (.int (own_b ((j39_s0 + (1 : Int64)) = v14))), .unset, .unset, .unset, .unset, .unset] [(.long ((v5 + j39_s0) + (2 : Int64)))])) (fun target kt => ?_) ?_
      · show Steps p.tables e below (Tg164.setTop (mkF m 186 #[.val (.long q0), .second, .val (.long q1), .second, .val (.long q2), .second, .val (.int p3), .val (.int p4), .val (.long v5), .second, .val (.long v14), .second, .val (.long j39_s0), .second, .val (.int (own_b (¬ ((p3 &&& (2 : Int32)) = (0 : Int32))))), .val (.int (own_b (¬ ((p3 &&& (4 : Int32)) = (0 : Int32))))), .val (.int (own_b (¬ ((p3 &&& (8 : Int32)) = (0 : Int32))))), .val (.ref b84), .val (.int (own_b ((((((w130_made + (1 : Int64))) - v14).toUInt64 >>> ((63 : Int32) &&& 0x3f).toInt64.toUInt64).toInt64) = (0 : Int64)))), .val (.ref b150), .val (.int (own_b ((j39_s0 + (1 : Int64)) = v14))), .unset, .unset, .unset, .unset, .unset] [(.int (own_b ((j39_s0 + (1 : Int64)) = v14)))])) target
        refine XS.ifNo Xg164.here hx rfl (hb hby at_186) rfl ((if0 _ _).trans (feq (own_bn0 rfl c186)).1) ?_
        show Steps p.tables e below (Tg164.setTop (mkF m 189 #[.val (.long q0), .second, .val (.long q1), .second, .val (.long q2), .second, .val (.int p3), .val (.int p4), .val (.long v5), .second, .val (.long v14), .second, .val (.long j39_s0), .second, .val (.int (own_b (¬ ((p3 &&& (2 : Int32)) = (0 : Int32))))), .val (.int (own_b (¬ ((p3 &&& (4 : Int32)) = (0 : Int32))))), .val (.int (own_b (¬ ((p3 &&& (8 : Int32)) = (0 : Int32))))), .val (.ref b84), .val (.int (own_b ((((((w130_made + (1 : Int64))) - v14).toUInt64 >>> ((63 : Int32) &&& 0x3f).toInt64.toUInt64).toInt64) = (0 : Int64)))), .val (.ref b150), .val (.int (own_b ((j39_s0 + (1 : Int64)) = v14))), .unset, .unset, .unset, .unset, .unset] [])) target
        refine XS.lload Xg164.here hx rfl (hb hby at_189) rfl ?_
        show Steps p.tables e below (Tg164.setTop (mkF m 191 #[.val (.long q0), .second, .val (.long q1), .second, .val (.long q2), .second, .val (.int p3), .val (.int p4), .val (.long v5), .second, .val (.long v14), .second, .val (.long j39_s0), .second, .val (.int (own_b (¬ ((p3 &&& (2 : Int32)) = (0 : Int32))))), .val (.int (own_b (¬ ((p3 &&& (4 : Int32)) = (0 : Int32))))), .val (.int (own_b (¬ ((p3 &&& (8 : Int32)) = (0 : Int32))))), .val (.ref b84), .val (.int (own_b ((((((w130_made + (1 : Int64))) - v14).toUInt64 >>> ((63 : Int32) &&& 0x3f).toInt64.toUInt64).toInt64) = (0 : Int64)))), .val (.ref b150), .val (.int (own_b ((j39_s0 + (1 : Int64)) = v14))), .unset, .unset, .unset, .unset, .unset] [(.long v5)])) target
        refine XS.lload Xg164.here hx rfl (hb hby at_191) rfl ?_
        show Steps p.tables e below (Tg164.setTop (mkF m 193 #[.val (.long q0), .second, .val (.long q1), .second, .val (.long q2), .second, .val (.int p3), .val (.int p4), .val (.long v5), .second, .val (.long v14), .second, .val (.long j39_s0), .second, .val (.int (own_b (¬ ((p3 &&& (2 : Int32)) = (0 : Int32))))), .val (.int (own_b (¬ ((p3 &&& (4 : Int32)) = (0 : Int32))))), .val (.int (own_b (¬ ((p3 &&& (8 : Int32)) = (0 : Int32))))), .val (.ref b84), .val (.int (own_b ((((((w130_made + (1 : Int64))) - v14).toUInt64 >>> ((63 : Int32) &&& 0x3f).toInt64.toUInt64).toInt64) = (0 : Int64)))), .val (.ref b150), .val (.int (own_b ((j39_s0 + (1 : Int64)) = v14))), .unset, .unset, .unset, .unset, .unset] [(.long j39_s0), (.long v5)])) target
        refine XS.ladd Xg164.here hx rfl (hb hby at_193) rfl ?_
        show Steps p.tables e below (Tg164.setTop (mkF m 194 #[.val (.long q0), .second, .val (.long q1), .second, .val (.long q2), .second, .val (.int p3), .val (.int p4), .val (.long v5), .second, .val (.long v14), .second, .val (.long j39_s0), .second, .val (.int (own_b (¬ ((p3 &&& (2 : Int32)) = (0 : Int32))))), .val (.int (own_b (¬ ((p3 &&& (4 : Int32)) = (0 : Int32))))), .val (.int (own_b (¬ ((p3 &&& (8 : Int32)) = (0 : Int32))))), .val (.ref b84), .val (.int (own_b ((((((w130_made + (1 : Int64))) - v14).toUInt64 >>> ((63 : Int32) &&& 0x3f).toInt64.toUInt64).toInt64) = (0 : Int64)))), .val (.ref b150), .val (.int (own_b ((j39_s0 + (1 : Int64)) = v14))), .unset, .unset, .unset, .unset, .unset] [(.long (v5 + j39_s0))])) target
        refine Xg164.ldc2Long hx hown (mvT hZ (hw _ (List.mem_of_getElem? (i := 81) rfl))) (g := (mkF m 194 #[.val (.long q0), .second, .val (.long q1), .second, .val (.long q2), .second, .val (.int p3), .val (.int p4), .val (.long v5), .second, .val (.long v14), .second, .val (.long j39_s0), .second, .val (.int (own_b (¬ ((p3 &&& (2 : Int32)) = (0 : Int32))))), .val (.int (own_b (¬ ((p3 &&& (4 : Int32)) = (0 : Int32))))), .val (.int (own_b (¬ ((p3 &&& (8 : Int32)) = (0 : Int32))))), .val (.ref b84), .val (.int (own_b ((((((w130_made + (1 : Int64))) - v14).toUInt64 >>> ((63 : Int32) &&& 0x3f).toInt64.toUInt64).toInt64) = (0 : Int64)))), .val (.ref b150), .val (.int (own_b ((j39_s0 + (1 : Int64)) = v14))), .unset, .unset, .unset, .unset, .unset] [(.long (v5 + j39_s0))])) rfl (hb hby at_194) _ ?_
        show Steps p.tables e below (Tg164.setTop (mkF m 197 #[.val (.long q0), .second, .val (.long q1), .second, .val (.long q2), .second, .val (.int p3), .val (.int p4), .val (.long v5), .second, .val (.long v14), .second, .val (.long j39_s0), .second, .val (.int (own_b (¬ ((p3 &&& (2 : Int32)) = (0 : Int32))))), .val (.int (own_b (¬ ((p3 &&& (4 : Int32)) = (0 : Int32))))), .val (.int (own_b (¬ ((p3 &&& (8 : Int32)) = (0 : Int32))))), .val (.ref b84), .val (.int (own_b ((((((w130_made + (1 : Int64))) - v14).toUInt64 >>> ((63 : Int32) &&& 0x3f).toInt64.toUInt64).toInt64) = (0 : Int64)))), .val (.ref b150), .val (.int (own_b ((j39_s0 + (1 : Int64)) = v14))), .unset, .unset, .unset, .unset, .unset] [(.long (2 : Int64)), (.long (v5 + j39_s0))])) target
        refine XS.ladd Xg164.here hx rfl (hb hby at_197) rfl ?_
        show Steps p.tables e below (Tg164.setTop (mkF m 198 #[.val (.long q0), .second, .val (.long q1), .second, .val (.long q2), .second, .val (.int p3), .val (.int p4), .val (.long v5), .second, .val (.long v14), .second, .val (.long j39_s0), .second, .val (.int (own_b (¬ ((p3 &&& (2 : Int32)) = (0 : Int32))))), .val (.int (own_b (¬ ((p3 &&& (4 : Int32)) = (0 : Int32))))), .val (.int (own_b (¬ ((p3 &&& (8 : Int32)) = (0 : Int32))))), .val (.ref b84), .val (.int (own_b ((((((w130_made + (1 : Int64))) - v14).toUInt64 >>> ((63 : Int32) &&& 0x3f).toInt64.toUInt64).toInt64) = (0 : Int64)))), .val (.ref b150), .val (.int (own_b ((j39_s0 + (1 : Int64)) = v14))), .unset, .unset, .unset, .unset, .unset] [(.long ((v5 + j39_s0) + (2 : Int64)))])) target
        refine XS.goto Xg164.here hx rfl (pc0 := 198) (pc' := 205) rfl (hb hby at_198) (by decide) (by decide) ?_
        exact kt
      exact ⟨_, ⟨((v5 + j39_s0) + (2 : Int64)), rfl, (if_pos c186).symm⟩, fun _ k => k⟩
    · refine own_st (B := Tg164.setTop (mkF m 205 #[.val (.long q0), .second, .val (.long q1), .second, .val (.long q2), .second, .val (.int p3), .val (.int p4), .val (.long v5), .second, .val (.long v14), .second, .val (.long j39_s0), .second, .val (.int (own_b (¬ ((p3 &&& (2 : Int32)) = (0 : Int32))))), .val (.int (own_b (¬ ((p3 &&& (4 : Int32)) = (0 : Int32))))), .val (.int (own_b (¬ ((p3 &&& (8 : Int32)) = (0 : Int32))))), .val (.ref b84), .val (.int (own_b ((((((w130_made + (1 : Int64))) - v14).toUInt64 >>> ((63 : Int32) &&& 0x3f).toInt64.toUInt64).toInt64) = (0 : Int64)))), .val (.ref b150), .val (.int (own_b ((j39_s0 + (1 : Int64)) = v14))), .unset, .unset, .unset, .unset, .unset] [(.long (v5 + (1 : Int64)))])) (fun target kt => ?_) ?_
      · show Steps p.tables e below (Tg164.setTop (mkF m 186 #[.val (.long q0), .second, .val (.long q1), .second, .val (.long q2), .second, .val (.int p3), .val (.int p4), .val (.long v5), .second, .val (.long v14), .second, .val (.long j39_s0), .second, .val (.int (own_b (¬ ((p3 &&& (2 : Int32)) = (0 : Int32))))), .val (.int (own_b (¬ ((p3 &&& (4 : Int32)) = (0 : Int32))))), .val (.int (own_b (¬ ((p3 &&& (8 : Int32)) = (0 : Int32))))), .val (.ref b84), .val (.int (own_b ((((((w130_made + (1 : Int64))) - v14).toUInt64 >>> ((63 : Int32) &&& 0x3f).toInt64.toUInt64).toInt64) = (0 : Int64)))), .val (.ref b150), .val (.int (own_b ((j39_s0 + (1 : Int64)) = v14))), .unset, .unset, .unset, .unset, .unset] [(.int (own_b ((j39_s0 + (1 : Int64)) = v14)))])) target
        refine XS.ifYes Xg164.here hx rfl (pc0 := 186) (pc' := 201) rfl (hb hby at_186) rfl ((if0 _ _).trans (teq (own_b00 rfl c186)).1) (by decide) (by decide) ?_
        show Steps p.tables e below (Tg164.setTop (mkF m 201 #[.val (.long q0), .second, .val (.long q1), .second, .val (.long q2), .second, .val (.int p3), .val (.int p4), .val (.long v5), .second, .val (.long v14), .second, .val (.long j39_s0), .second, .val (.int (own_b (¬ ((p3 &&& (2 : Int32)) = (0 : Int32))))), .val (.int (own_b (¬ ((p3 &&& (4 : Int32)) = (0 : Int32))))), .val (.int (own_b (¬ ((p3 &&& (8 : Int32)) = (0 : Int32))))), .val (.ref b84), .val (.int (own_b ((((((w130_made + (1 : Int64))) - v14).toUInt64 >>> ((63 : Int32) &&& 0x3f).toInt64.toUInt64).toInt64) = (0 : Int64)))), .val (.ref b150), .val (.int (own_b ((j39_s0 + (1 : Int64)) = v14))), .unset, .unset, .unset, .unset, .unset] [])) target
        refine XS.lload Xg164.here hx rfl (hb hby at_201) rfl ?_
        show Steps p.tables e below (Tg164.setTop (mkF m 203 #[.val (.long q0), .second, .val (.long q1), .second, .val (.long q2), .second, .val (.int p3), .val (.int p4), .val (.long v5), .second, .val (.long v14), .second, .val (.long j39_s0), .second, .val (.int (own_b (¬ ((p3 &&& (2 : Int32)) = (0 : Int32))))), .val (.int (own_b (¬ ((p3 &&& (4 : Int32)) = (0 : Int32))))), .val (.int (own_b (¬ ((p3 &&& (8 : Int32)) = (0 : Int32))))), .val (.ref b84), .val (.int (own_b ((((((w130_made + (1 : Int64))) - v14).toUInt64 >>> ((63 : Int32) &&& 0x3f).toInt64.toUInt64).toInt64) = (0 : Int64)))), .val (.ref b150), .val (.int (own_b ((j39_s0 + (1 : Int64)) = v14))), .unset, .unset, .unset, .unset, .unset] [(.long v5)])) target
        refine XS.lconst Xg164.here hx rfl (hb hby at_203) ?_
        show Steps p.tables e below (Tg164.setTop (mkF m 204 #[.val (.long q0), .second, .val (.long q1), .second, .val (.long q2), .second, .val (.int p3), .val (.int p4), .val (.long v5), .second, .val (.long v14), .second, .val (.long j39_s0), .second, .val (.int (own_b (¬ ((p3 &&& (2 : Int32)) = (0 : Int32))))), .val (.int (own_b (¬ ((p3 &&& (4 : Int32)) = (0 : Int32))))), .val (.int (own_b (¬ ((p3 &&& (8 : Int32)) = (0 : Int32))))), .val (.ref b84), .val (.int (own_b ((((((w130_made + (1 : Int64))) - v14).toUInt64 >>> ((63 : Int32) &&& 0x3f).toInt64.toUInt64).toInt64) = (0 : Int64)))), .val (.ref b150), .val (.int (own_b ((j39_s0 + (1 : Int64)) = v14))), .unset, .unset, .unset, .unset, .unset] [(.long (1 : Int64)), (.long v5)])) target
        refine XS.ladd Xg164.here hx rfl (hb hby at_204) rfl ?_
        exact kt
      exact ⟨_, ⟨(v5 + (1 : Int64)), rfl, (if_neg c186).symm⟩, fun _ k => k⟩
  refine own_st st_M205 ?_
  refine own_st (B := Tg164.setTop (mkF m 209 #[.val (.long q0), .second, .val (.long q1), .second, .val (.long q2), .second, .val (.int p3), .val (.int p4), .val (.long v5), .second, .val (.long v14), .second, .val (.long j39_s0), .second, .val (.int (own_b (¬ ((p3 &&& (2 : Int32)) = (0 : Int32))))), .val (.int (own_b (¬ ((p3 &&& (4 : Int32)) = (0 : Int32))))), .val (.int (own_b (¬ ((p3 &&& (8 : Int32)) = (0 : Int32))))), .val (.ref b84), .val (.int (own_b ((((((w130_made + (1 : Int64))) - v14).toUInt64 >>> ((63 : Int32) &&& 0x3f).toInt64.toUInt64).toInt64) = (0 : Int64)))), .val (.ref b150), .val (.int (own_b ((j39_s0 + (1 : Int64)) = v14))), .val (.long j205_s0), .second, .unset, .unset, .unset] [(.int (own_b ((j39_s0 + (1 : Int64)) = v14)))])) (fun target kt => ?_) ?_
  · show Steps p.tables e below (Tg164.setTop (mkF m 205 #[.val (.long q0), .second, .val (.long q1), .second, .val (.long q2), .second, .val (.int p3), .val (.int p4), .val (.long v5), .second, .val (.long v14), .second, .val (.long j39_s0), .second, .val (.int (own_b (¬ ((p3 &&& (2 : Int32)) = (0 : Int32))))), .val (.int (own_b (¬ ((p3 &&& (4 : Int32)) = (0 : Int32))))), .val (.int (own_b (¬ ((p3 &&& (8 : Int32)) = (0 : Int32))))), .val (.ref b84), .val (.int (own_b ((((((w130_made + (1 : Int64))) - v14).toUInt64 >>> ((63 : Int32) &&& 0x3f).toInt64.toUInt64).toInt64) = (0 : Int64)))), .val (.ref b150), .val (.int (own_b ((j39_s0 + (1 : Int64)) = v14))), .unset, .unset, .unset, .unset, .unset] [(.long j205_s0)])) target
    refine XS.lstore Xg164.here hx rfl (hb hby at_205) rfl (l' := #[.val (.long q0), .second, .val (.long q1), .second, .val (.long q2), .second, .val (.int p3), .val (.int p4), .val (.long v5), .second, .val (.long v14), .second, .val (.long j39_s0), .second, .val (.int (own_b (¬ ((p3 &&& (2 : Int32)) = (0 : Int32))))), .val (.int (own_b (¬ ((p3 &&& (4 : Int32)) = (0 : Int32))))), .val (.int (own_b (¬ ((p3 &&& (8 : Int32)) = (0 : Int32))))), .val (.ref b84), .val (.int (own_b ((((((w130_made + (1 : Int64))) - v14).toUInt64 >>> ((63 : Int32) &&& 0x3f).toInt64.toUInt64).toInt64) = (0 : Int64)))), .val (.ref b150), .val (.int (own_b ((j39_s0 + (1 : Int64)) = v14))), .val (.long j205_s0), .second, .unset, .unset, .unset]) rfl ?_
    show Steps p.tables e below (Tg164.setTop (mkF m 207 #[.val (.long q0), .second, .val (.long q1), .second, .val (.long q2), .second, .val (.int p3), .val (.int p4), .val (.long v5), .second, .val (.long v14), .second, .val (.long j39_s0), .second, .val (.int (own_b (¬ ((p3 &&& (2 : Int32)) = (0 : Int32))))), .val (.int (own_b (¬ ((p3 &&& (4 : Int32)) = (0 : Int32))))), .val (.int (own_b (¬ ((p3 &&& (8 : Int32)) = (0 : Int32))))), .val (.ref b84), .val (.int (own_b ((((((w130_made + (1 : Int64))) - v14).toUInt64 >>> ((63 : Int32) &&& 0x3f).toInt64.toUInt64).toInt64) = (0 : Int64)))), .val (.ref b150), .val (.int (own_b ((j39_s0 + (1 : Int64)) = v14))), .val (.long j205_s0), .second, .unset, .unset, .unset] [])) target
    refine XS.iload Xg164.here hx rfl (hb hby at_207) rfl ?_
    exact kt
  obtain ⟨_, ⟨j224_s0, rfl, hj224_s0⟩, st_M224⟩ : own_Lead p.tables e below (Tg164.setTop (mkF m 209 #[.val (.long q0), .second, .val (.long q1), .second, .val (.long q2), .second, .val (.int p3), .val (.int p4), .val (.long v5), .second, .val (.long v14), .second, .val (.long j39_s0), .second, .val (.int (own_b (¬ ((p3 &&& (2 : Int32)) = (0 : Int32))))), .val (.int (own_b (¬ ((p3 &&& (4 : Int32)) = (0 : Int32))))), .val (.int (own_b (¬ ((p3 &&& (8 : Int32)) = (0 : Int32))))), .val (.ref b84), .val (.int (own_b ((((((w130_made + (1 : Int64))) - v14).toUInt64 >>> ((63 : Int32) &&& 0x3f).toInt64.toUInt64).toInt64) = (0 : Int64)))), .val (.ref b150), .val (.int (own_b ((j39_s0 + (1 : Int64)) = v14))), .val (.long j205_s0), .second, .unset, .unset, .unset] [(.int (own_b ((j39_s0 + (1 : Int64)) = v14)))])) (fun B => ∃ (j224_s0 : Int64), B = Tg164.setTop (mkF m 224 #[.val (.long q0), .second, .val (.long q1), .second, .val (.long q2), .second, .val (.int p3), .val (.int p4), .val (.long v5), .second, .val (.long v14), .second, .val (.long j39_s0), .second, .val (.int (own_b (¬ ((p3 &&& (2 : Int32)) = (0 : Int32))))), .val (.int (own_b (¬ ((p3 &&& (4 : Int32)) = (0 : Int32))))), .val (.int (own_b (¬ ((p3 &&& (8 : Int32)) = (0 : Int32))))), .val (.ref b84), .val (.int (own_b ((((((w130_made + (1 : Int64))) - v14).toUInt64 >>> ((63 : Int32) &&& 0x3f).toInt64.toUInt64).toInt64) = (0 : Int64)))), .val (.ref b150), .val (.int (own_b ((j39_s0 + (1 : Int64)) = v14))), .val (.long j205_s0), .second, .unset, .unset, .unset] [(.long j224_s0)]) ∧ j224_s0 = (if (j39_s0 + (1 : Int64)) = v14 then v14 else ((v14 - j39_s0) - (1 : Int64)))) := by
    by_cases c209 : (j39_s0 + (1 : Int64)) = v14
    · refine own_st (B := Tg164.setTop (mkF m 224 #[.val (.long q0), .second, .val (.long q1), .second, .val (.long q2), .second, .val (.int p3), .val (.int p4), .val (.long v5), .second, .val (.long v14), .second, .val (.long j39_s0), .second, .val (.int (own_b (¬ ((p3 &&& (2 : Int32)) = (0 : Int32))))), .val (.int (own_b (¬ ((p3 &&& (4 : Int32)) = (0 : Int32))))), .val (.int (own_b (¬ ((p3 &&& (8 : Int32)) = (0 : Int32))))), .val (.ref b84), .val (.int (own_b ((((((w130_made + (1 : Int64))) - v14).toUInt64 >>> ((63 : Int32) &&& 0x3f).toInt64.toUInt64).toInt64) = (0 : Int64)))), .val (.ref b150), .val (.int (own_b ((j39_s0 + (1 : Int64)) = v14))), .val (.long j205_s0), .second, .unset, .unset, .unset] [(.long v14)])) (fun target kt => ?_) ?_
      · show Steps p.tables e below (Tg164.setTop (mkF m 209 #[.val (.long q0), .second, .val (.long q1), .second, .val (.long q2), .second, .val (.int p3), .val (.int p4), .val (.long v5), .second, .val (.long v14), .second, .val (.long j39_s0), .second, .val (.int (own_b (¬ ((p3 &&& (2 : Int32)) = (0 : Int32))))), .val (.int (own_b (¬ ((p3 &&& (4 : Int32)) = (0 : Int32))))), .val (.int (own_b (¬ ((p3 &&& (8 : Int32)) = (0 : Int32))))), .val (.ref b84), .val (.int (own_b ((((((w130_made + (1 : Int64))) - v14).toUInt64 >>> ((63 : Int32) &&& 0x3f).toInt64.toUInt64).toInt64) = (0 : Int64)))), .val (.ref b150), .val (.int (own_b ((j39_s0 + (1 : Int64)) = v14))), .val (.long j205_s0), .second, .unset, .unset, .unset] [(.int (own_b ((j39_s0 + (1 : Int64)) = v14)))])) target
        refine XS.ifNo Xg164.here hx rfl (hb hby at_209) rfl ((if0 _ _).trans (feq (own_bn0 rfl c209)).1) ?_
        show Steps p.tables e below (Tg164.setTop (mkF m 212 #[.val (.long q0), .second, .val (.long q1), .second, .val (.long q2), .second, .val (.int p3), .val (.int p4), .val (.long v5), .second, .val (.long v14), .second, .val (.long j39_s0), .second, .val (.int (own_b (¬ ((p3 &&& (2 : Int32)) = (0 : Int32))))), .val (.int (own_b (¬ ((p3 &&& (4 : Int32)) = (0 : Int32))))), .val (.int (own_b (¬ ((p3 &&& (8 : Int32)) = (0 : Int32))))), .val (.ref b84), .val (.int (own_b ((((((w130_made + (1 : Int64))) - v14).toUInt64 >>> ((63 : Int32) &&& 0x3f).toInt64.toUInt64).toInt64) = (0 : Int64)))), .val (.ref b150), .val (.int (own_b ((j39_s0 + (1 : Int64)) = v14))), .val (.long j205_s0), .second, .unset, .unset, .unset] [])) target
        refine XS.lload Xg164.here hx rfl (hb hby at_212) rfl ?_
        show Steps p.tables e below (Tg164.setTop (mkF m 214 #[.val (.long q0), .second, .val (.long q1), .second, .val (.long q2), .second, .val (.int p3), .val (.int p4), .val (.long v5), .second, .val (.long v14), .second, .val (.long j39_s0), .second, .val (.int (own_b (¬ ((p3 &&& (2 : Int32)) = (0 : Int32))))), .val (.int (own_b (¬ ((p3 &&& (4 : Int32)) = (0 : Int32))))), .val (.int (own_b (¬ ((p3 &&& (8 : Int32)) = (0 : Int32))))), .val (.ref b84), .val (.int (own_b ((((((w130_made + (1 : Int64))) - v14).toUInt64 >>> ((63 : Int32) &&& 0x3f).toInt64.toUInt64).toInt64) = (0 : Int64)))), .val (.ref b150), .val (.int (own_b ((j39_s0 + (1 : Int64)) = v14))), .val (.long j205_s0), .second, .unset, .unset, .unset] [(.long v14)])) target
        refine XS.goto Xg164.here hx rfl (pc0 := 214) (pc' := 224) rfl (hb hby at_214) (by decide) (by decide) ?_
        exact kt
      exact ⟨_, ⟨v14, rfl, (if_pos c209).symm⟩, fun _ k => k⟩
    · refine own_st (B := Tg164.setTop (mkF m 224 #[.val (.long q0), .second, .val (.long q1), .second, .val (.long q2), .second, .val (.int p3), .val (.int p4), .val (.long v5), .second, .val (.long v14), .second, .val (.long j39_s0), .second, .val (.int (own_b (¬ ((p3 &&& (2 : Int32)) = (0 : Int32))))), .val (.int (own_b (¬ ((p3 &&& (4 : Int32)) = (0 : Int32))))), .val (.int (own_b (¬ ((p3 &&& (8 : Int32)) = (0 : Int32))))), .val (.ref b84), .val (.int (own_b ((((((w130_made + (1 : Int64))) - v14).toUInt64 >>> ((63 : Int32) &&& 0x3f).toInt64.toUInt64).toInt64) = (0 : Int64)))), .val (.ref b150), .val (.int (own_b ((j39_s0 + (1 : Int64)) = v14))), .val (.long j205_s0), .second, .unset, .unset, .unset] [(.long ((v14 - j39_s0) - (1 : Int64)))])) (fun target kt => ?_) ?_
      · show Steps p.tables e below (Tg164.setTop (mkF m 209 #[.val (.long q0), .second, .val (.long q1), .second, .val (.long q2), .second, .val (.int p3), .val (.int p4), .val (.long v5), .second, .val (.long v14), .second, .val (.long j39_s0), .second, .val (.int (own_b (¬ ((p3 &&& (2 : Int32)) = (0 : Int32))))), .val (.int (own_b (¬ ((p3 &&& (4 : Int32)) = (0 : Int32))))), .val (.int (own_b (¬ ((p3 &&& (8 : Int32)) = (0 : Int32))))), .val (.ref b84), .val (.int (own_b ((((((w130_made + (1 : Int64))) - v14).toUInt64 >>> ((63 : Int32) &&& 0x3f).toInt64.toUInt64).toInt64) = (0 : Int64)))), .val (.ref b150), .val (.int (own_b ((j39_s0 + (1 : Int64)) = v14))), .val (.long j205_s0), .second, .unset, .unset, .unset] [(.int (own_b ((j39_s0 + (1 : Int64)) = v14)))])) target
        refine XS.ifYes Xg164.here hx rfl (pc0 := 209) (pc' := 217) rfl (hb hby at_209) rfl ((if0 _ _).trans (teq (own_b00 rfl c209)).1) (by decide) (by decide) ?_
        show Steps p.tables e below (Tg164.setTop (mkF m 217 #[.val (.long q0), .second, .val (.long q1), .second, .val (.long q2), .second, .val (.int p3), .val (.int p4), .val (.long v5), .second, .val (.long v14), .second, .val (.long j39_s0), .second, .val (.int (own_b (¬ ((p3 &&& (2 : Int32)) = (0 : Int32))))), .val (.int (own_b (¬ ((p3 &&& (4 : Int32)) = (0 : Int32))))), .val (.int (own_b (¬ ((p3 &&& (8 : Int32)) = (0 : Int32))))), .val (.ref b84), .val (.int (own_b ((((((w130_made + (1 : Int64))) - v14).toUInt64 >>> ((63 : Int32) &&& 0x3f).toInt64.toUInt64).toInt64) = (0 : Int64)))), .val (.ref b150), .val (.int (own_b ((j39_s0 + (1 : Int64)) = v14))), .val (.long j205_s0), .second, .unset, .unset, .unset] [])) target
        refine XS.lload Xg164.here hx rfl (hb hby at_217) rfl ?_
        show Steps p.tables e below (Tg164.setTop (mkF m 219 #[.val (.long q0), .second, .val (.long q1), .second, .val (.long q2), .second, .val (.int p3), .val (.int p4), .val (.long v5), .second, .val (.long v14), .second, .val (.long j39_s0), .second, .val (.int (own_b (¬ ((p3 &&& (2 : Int32)) = (0 : Int32))))), .val (.int (own_b (¬ ((p3 &&& (4 : Int32)) = (0 : Int32))))), .val (.int (own_b (¬ ((p3 &&& (8 : Int32)) = (0 : Int32))))), .val (.ref b84), .val (.int (own_b ((((((w130_made + (1 : Int64))) - v14).toUInt64 >>> ((63 : Int32) &&& 0x3f).toInt64.toUInt64).toInt64) = (0 : Int64)))), .val (.ref b150), .val (.int (own_b ((j39_s0 + (1 : Int64)) = v14))), .val (.long j205_s0), .second, .unset, .unset, .unset] [(.long v14)])) target
        refine XS.lload Xg164.here hx rfl (hb hby at_219) rfl ?_
        show Steps p.tables e below (Tg164.setTop (mkF m 221 #[.val (.long q0), .second, .val (.long q1), .second, .val (.long q2), .second, .val (.int p3), .val (.int p4), .val (.long v5), .second, .val (.long v14), .second, .val (.long j39_s0), .second, .val (.int (own_b (¬ ((p3 &&& (2 : Int32)) = (0 : Int32))))), .val (.int (own_b (¬ ((p3 &&& (4 : Int32)) = (0 : Int32))))), .val (.int (own_b (¬ ((p3 &&& (8 : Int32)) = (0 : Int32))))), .val (.ref b84), .val (.int (own_b ((((((w130_made + (1 : Int64))) - v14).toUInt64 >>> ((63 : Int32) &&& 0x3f).toInt64.toUInt64).toInt64) = (0 : Int64)))), .val (.ref b150), .val (.int (own_b ((j39_s0 + (1 : Int64)) = v14))), .val (.long j205_s0), .second, .unset, .unset, .unset] [(.long j39_s0), (.long v14)])) target
        refine XS.lsub Xg164.here hx rfl (hb hby at_221) rfl ?_
        show Steps p.tables e below (Tg164.setTop (mkF m 222 #[.val (.long q0), .second, .val (.long q1), .second, .val (.long q2), .second, .val (.int p3), .val (.int p4), .val (.long v5), .second, .val (.long v14), .second, .val (.long j39_s0), .second, .val (.int (own_b (¬ ((p3 &&& (2 : Int32)) = (0 : Int32))))), .val (.int (own_b (¬ ((p3 &&& (4 : Int32)) = (0 : Int32))))), .val (.int (own_b (¬ ((p3 &&& (8 : Int32)) = (0 : Int32))))), .val (.ref b84), .val (.int (own_b ((((((w130_made + (1 : Int64))) - v14).toUInt64 >>> ((63 : Int32) &&& 0x3f).toInt64.toUInt64).toInt64) = (0 : Int64)))), .val (.ref b150), .val (.int (own_b ((j39_s0 + (1 : Int64)) = v14))), .val (.long j205_s0), .second, .unset, .unset, .unset] [(.long (v14 - j39_s0))])) target
        refine XS.lconst Xg164.here hx rfl (hb hby at_222) ?_
        show Steps p.tables e below (Tg164.setTop (mkF m 223 #[.val (.long q0), .second, .val (.long q1), .second, .val (.long q2), .second, .val (.int p3), .val (.int p4), .val (.long v5), .second, .val (.long v14), .second, .val (.long j39_s0), .second, .val (.int (own_b (¬ ((p3 &&& (2 : Int32)) = (0 : Int32))))), .val (.int (own_b (¬ ((p3 &&& (4 : Int32)) = (0 : Int32))))), .val (.int (own_b (¬ ((p3 &&& (8 : Int32)) = (0 : Int32))))), .val (.ref b84), .val (.int (own_b ((((((w130_made + (1 : Int64))) - v14).toUInt64 >>> ((63 : Int32) &&& 0x3f).toInt64.toUInt64).toInt64) = (0 : Int64)))), .val (.ref b150), .val (.int (own_b ((j39_s0 + (1 : Int64)) = v14))), .val (.long j205_s0), .second, .unset, .unset, .unset] [(.long (1 : Int64)), (.long (v14 - j39_s0))])) target
        refine XS.lsub Xg164.here hx rfl (hb hby at_223) rfl ?_
        exact kt
      exact ⟨_, ⟨((v14 - j39_s0) - (1 : Int64)), rfl, (if_neg c209).symm⟩, fun _ k => k⟩
  refine own_st st_M224 ?_
  refine own_st (B := Tg164.setTop (mkF m 228 #[.val (.long q0), .second, .val (.long q1), .second, .val (.long q2), .second, .val (.int p3), .val (.int p4), .val (.long v5), .second, .val (.long v14), .second, .val (.long j39_s0), .second, .val (.int (own_b (¬ ((p3 &&& (2 : Int32)) = (0 : Int32))))), .val (.int (own_b (¬ ((p3 &&& (4 : Int32)) = (0 : Int32))))), .val (.int (own_b (¬ ((p3 &&& (8 : Int32)) = (0 : Int32))))), .val (.ref b84), .val (.int (own_b ((((((w130_made + (1 : Int64))) - v14).toUInt64 >>> ((63 : Int32) &&& 0x3f).toInt64.toUInt64).toInt64) = (0 : Int64)))), .val (.ref b150), .val (.int (own_b ((j39_s0 + (1 : Int64)) = v14))), .val (.long j205_s0), .second, .val (.long j224_s0), .second, .unset] [(.int (own_b ((j39_s0 + (1 : Int64)) = v14)))])) (fun target kt => ?_) ?_
  · show Steps p.tables e below (Tg164.setTop (mkF m 224 #[.val (.long q0), .second, .val (.long q1), .second, .val (.long q2), .second, .val (.int p3), .val (.int p4), .val (.long v5), .second, .val (.long v14), .second, .val (.long j39_s0), .second, .val (.int (own_b (¬ ((p3 &&& (2 : Int32)) = (0 : Int32))))), .val (.int (own_b (¬ ((p3 &&& (4 : Int32)) = (0 : Int32))))), .val (.int (own_b (¬ ((p3 &&& (8 : Int32)) = (0 : Int32))))), .val (.ref b84), .val (.int (own_b ((((((w130_made + (1 : Int64))) - v14).toUInt64 >>> ((63 : Int32) &&& 0x3f).toInt64.toUInt64).toInt64) = (0 : Int64)))), .val (.ref b150), .val (.int (own_b ((j39_s0 + (1 : Int64)) = v14))), .val (.long j205_s0), .second, .unset, .unset, .unset] [(.long j224_s0)])) target
    refine XS.lstore Xg164.here hx rfl (hb hby at_224) rfl (l' := #[.val (.long q0), .second, .val (.long q1), .second, .val (.long q2), .second, .val (.int p3), .val (.int p4), .val (.long v5), .second, .val (.long v14), .second, .val (.long j39_s0), .second, .val (.int (own_b (¬ ((p3 &&& (2 : Int32)) = (0 : Int32))))), .val (.int (own_b (¬ ((p3 &&& (4 : Int32)) = (0 : Int32))))), .val (.int (own_b (¬ ((p3 &&& (8 : Int32)) = (0 : Int32))))), .val (.ref b84), .val (.int (own_b ((((((w130_made + (1 : Int64))) - v14).toUInt64 >>> ((63 : Int32) &&& 0x3f).toInt64.toUInt64).toInt64) = (0 : Int64)))), .val (.ref b150), .val (.int (own_b ((j39_s0 + (1 : Int64)) = v14))), .val (.long j205_s0), .second, .val (.long j224_s0), .second, .unset]) rfl ?_
    show Steps p.tables e below (Tg164.setTop (mkF m 226 #[.val (.long q0), .second, .val (.long q1), .second, .val (.long q2), .second, .val (.int p3), .val (.int p4), .val (.long v5), .second, .val (.long v14), .second, .val (.long j39_s0), .second, .val (.int (own_b (¬ ((p3 &&& (2 : Int32)) = (0 : Int32))))), .val (.int (own_b (¬ ((p3 &&& (4 : Int32)) = (0 : Int32))))), .val (.int (own_b (¬ ((p3 &&& (8 : Int32)) = (0 : Int32))))), .val (.ref b84), .val (.int (own_b ((((((w130_made + (1 : Int64))) - v14).toUInt64 >>> ((63 : Int32) &&& 0x3f).toInt64.toUInt64).toInt64) = (0 : Int64)))), .val (.ref b150), .val (.int (own_b ((j39_s0 + (1 : Int64)) = v14))), .val (.long j205_s0), .second, .val (.long j224_s0), .second, .unset] [])) target
    refine XS.iload Xg164.here hx rfl (hb hby at_226) rfl ?_
    exact kt
  obtain ⟨_, ⟨j241_s0, rfl, rfl⟩, st_M241⟩ : own_Lead p.tables e below (Tg164.setTop (mkF m 228 #[.val (.long q0), .second, .val (.long q1), .second, .val (.long q2), .second, .val (.int p3), .val (.int p4), .val (.long v5), .second, .val (.long v14), .second, .val (.long j39_s0), .second, .val (.int (own_b (¬ ((p3 &&& (2 : Int32)) = (0 : Int32))))), .val (.int (own_b (¬ ((p3 &&& (4 : Int32)) = (0 : Int32))))), .val (.int (own_b (¬ ((p3 &&& (8 : Int32)) = (0 : Int32))))), .val (.ref b84), .val (.int (own_b ((((((w130_made + (1 : Int64))) - v14).toUInt64 >>> ((63 : Int32) &&& 0x3f).toInt64.toUInt64).toInt64) = (0 : Int64)))), .val (.ref b150), .val (.int (own_b ((j39_s0 + (1 : Int64)) = v14))), .val (.long j205_s0), .second, .val (.long j224_s0), .second, .unset] [(.int (own_b ((j39_s0 + (1 : Int64)) = v14)))])) (fun B => ∃ (j241_s0 : Int32), B = Tg164.setTop (mkF m 241 #[.val (.long q0), .second, .val (.long q1), .second, .val (.long q2), .second, .val (.int p3), .val (.int p4), .val (.long v5), .second, .val (.long v14), .second, .val (.long j39_s0), .second, .val (.int (own_b (¬ ((p3 &&& (2 : Int32)) = (0 : Int32))))), .val (.int (own_b (¬ ((p3 &&& (4 : Int32)) = (0 : Int32))))), .val (.int (own_b (¬ ((p3 &&& (8 : Int32)) = (0 : Int32))))), .val (.ref b84), .val (.int (own_b ((((((w130_made + (1 : Int64))) - v14).toUInt64 >>> ((63 : Int32) &&& 0x3f).toInt64.toUInt64).toInt64) = (0 : Int64)))), .val (.ref b150), .val (.int (own_b ((j39_s0 + (1 : Int64)) = v14))), .val (.long j205_s0), .second, .val (.long j224_s0), .second, .unset] [(.int j241_s0)]) ∧ j241_s0 = own_b ((((j39_s0 + (1 : Int64)) = v14) ∨ (¬ (¬ ((p3 &&& (8 : Int32)) = (0 : Int32))))))) := by
    by_cases c228 : (j39_s0 + (1 : Int64)) = v14
    · refine own_st (B := Tg164.setTop (mkF m 241 #[.val (.long q0), .second, .val (.long q1), .second, .val (.long q2), .second, .val (.int p3), .val (.int p4), .val (.long v5), .second, .val (.long v14), .second, .val (.long j39_s0), .second, .val (.int (own_b (¬ ((p3 &&& (2 : Int32)) = (0 : Int32))))), .val (.int (own_b (¬ ((p3 &&& (4 : Int32)) = (0 : Int32))))), .val (.int (own_b (¬ ((p3 &&& (8 : Int32)) = (0 : Int32))))), .val (.ref b84), .val (.int (own_b ((((((w130_made + (1 : Int64))) - v14).toUInt64 >>> ((63 : Int32) &&& 0x3f).toInt64.toUInt64).toInt64) = (0 : Int64)))), .val (.ref b150), .val (.int (own_b ((j39_s0 + (1 : Int64)) = v14))), .val (.long j205_s0), .second, .val (.long j224_s0), .second, .unset] [(.int (1 : Int32))])) (fun target kt => ?_) ?_
      · show Steps p.tables e below (Tg164.setTop (mkF m 228 #[.val (.long q0), .second, .val (.long q1), .second, .val (.long q2), .second, .val (.int p3), .val (.int p4), .val (.long v5), .second, .val (.long v14), .second, .val (.long j39_s0), .second, .val (.int (own_b (¬ ((p3 &&& (2 : Int32)) = (0 : Int32))))), .val (.int (own_b (¬ ((p3 &&& (4 : Int32)) = (0 : Int32))))), .val (.int (own_b (¬ ((p3 &&& (8 : Int32)) = (0 : Int32))))), .val (.ref b84), .val (.int (own_b ((((((w130_made + (1 : Int64))) - v14).toUInt64 >>> ((63 : Int32) &&& 0x3f).toInt64.toUInt64).toInt64) = (0 : Int64)))), .val (.ref b150), .val (.int (own_b ((j39_s0 + (1 : Int64)) = v14))), .val (.long j205_s0), .second, .val (.long j224_s0), .second, .unset] [(.int (own_b ((j39_s0 + (1 : Int64)) = v14)))])) target
        refine XS.ifYes Xg164.here hx rfl (pc0 := 228) (pc' := 236) rfl (hb hby at_228) rfl ((if0 _ _).trans (feq (own_bn0 rfl c228)).2) (by decide) (by decide) ?_
        show Steps p.tables e below (Tg164.setTop (mkF m 236 #[.val (.long q0), .second, .val (.long q1), .second, .val (.long q2), .second, .val (.int p3), .val (.int p4), .val (.long v5), .second, .val (.long v14), .second, .val (.long j39_s0), .second, .val (.int (own_b (¬ ((p3 &&& (2 : Int32)) = (0 : Int32))))), .val (.int (own_b (¬ ((p3 &&& (4 : Int32)) = (0 : Int32))))), .val (.int (own_b (¬ ((p3 &&& (8 : Int32)) = (0 : Int32))))), .val (.ref b84), .val (.int (own_b ((((((w130_made + (1 : Int64))) - v14).toUInt64 >>> ((63 : Int32) &&& 0x3f).toInt64.toUInt64).toInt64) = (0 : Int64)))), .val (.ref b150), .val (.int (own_b ((j39_s0 + (1 : Int64)) = v14))), .val (.long j205_s0), .second, .val (.long j224_s0), .second, .unset] [])) target
        refine XS.iconst Xg164.here hx rfl (hb hby at_236) ?_
        show Steps p.tables e below (Tg164.setTop (mkF m 237 #[.val (.long q0), .second, .val (.long q1), .second, .val (.long q2), .second, .val (.int p3), .val (.int p4), .val (.long v5), .second, .val (.long v14), .second, .val (.long j39_s0), .second, .val (.int (own_b (¬ ((p3 &&& (2 : Int32)) = (0 : Int32))))), .val (.int (own_b (¬ ((p3 &&& (4 : Int32)) = (0 : Int32))))), .val (.int (own_b (¬ ((p3 &&& (8 : Int32)) = (0 : Int32))))), .val (.ref b84), .val (.int (own_b ((((((w130_made + (1 : Int64))) - v14).toUInt64 >>> ((63 : Int32) &&& 0x3f).toInt64.toUInt64).toInt64) = (0 : Int64)))), .val (.ref b150), .val (.int (own_b ((j39_s0 + (1 : Int64)) = v14))), .val (.long j205_s0), .second, .val (.long j224_s0), .second, .unset] [(.int (1 : Int32))])) target
        refine XS.goto Xg164.here hx rfl (pc0 := 237) (pc' := 241) rfl (hb hby at_237) (by decide) (by decide) ?_
        exact kt
      exact ⟨_, ⟨(1 : Int32), rfl, (own_b1 (Or.inl c228)).symm⟩, fun _ k => k⟩
    · refine own_st (B := Tg164.setTop (mkF m 233 #[.val (.long q0), .second, .val (.long q1), .second, .val (.long q2), .second, .val (.int p3), .val (.int p4), .val (.long v5), .second, .val (.long v14), .second, .val (.long j39_s0), .second, .val (.int (own_b (¬ ((p3 &&& (2 : Int32)) = (0 : Int32))))), .val (.int (own_b (¬ ((p3 &&& (4 : Int32)) = (0 : Int32))))), .val (.int (own_b (¬ ((p3 &&& (8 : Int32)) = (0 : Int32))))), .val (.ref b84), .val (.int (own_b ((((((w130_made + (1 : Int64))) - v14).toUInt64 >>> ((63 : Int32) &&& 0x3f).toInt64.toUInt64).toInt64) = (0 : Int64)))), .val (.ref b150), .val (.int (own_b ((j39_s0 + (1 : Int64)) = v14))), .val (.long j205_s0), .second, .val (.long j224_s0), .second, .unset] [(.int (own_b (¬ ((p3 &&& (8 : Int32)) = (0 : Int32)))))])) (fun target kt => ?_) ?_
      · show Steps p.tables e below (Tg164.setTop (mkF m 228 #[.val (.long q0), .second, .val (.long q1), .second, .val (.long q2), .second, .val (.int p3), .val (.int p4), .val (.long v5), .second, .val (.long v14), .second, .val (.long j39_s0), .second, .val (.int (own_b (¬ ((p3 &&& (2 : Int32)) = (0 : Int32))))), .val (.int (own_b (¬ ((p3 &&& (4 : Int32)) = (0 : Int32))))), .val (.int (own_b (¬ ((p3 &&& (8 : Int32)) = (0 : Int32))))), .val (.ref b84), .val (.int (own_b ((((((w130_made + (1 : Int64))) - v14).toUInt64 >>> ((63 : Int32) &&& 0x3f).toInt64.toUInt64).toInt64) = (0 : Int64)))), .val (.ref b150), .val (.int (own_b ((j39_s0 + (1 : Int64)) = v14))), .val (.long j205_s0), .second, .val (.long j224_s0), .second, .unset] [(.int (own_b ((j39_s0 + (1 : Int64)) = v14)))])) target
        refine XS.ifNo Xg164.here hx rfl (hb hby at_228) rfl ((if0 _ _).trans (teq (own_b00 rfl c228)).2) ?_
        show Steps p.tables e below (Tg164.setTop (mkF m 231 #[.val (.long q0), .second, .val (.long q1), .second, .val (.long q2), .second, .val (.int p3), .val (.int p4), .val (.long v5), .second, .val (.long v14), .second, .val (.long j39_s0), .second, .val (.int (own_b (¬ ((p3 &&& (2 : Int32)) = (0 : Int32))))), .val (.int (own_b (¬ ((p3 &&& (4 : Int32)) = (0 : Int32))))), .val (.int (own_b (¬ ((p3 &&& (8 : Int32)) = (0 : Int32))))), .val (.ref b84), .val (.int (own_b ((((((w130_made + (1 : Int64))) - v14).toUInt64 >>> ((63 : Int32) &&& 0x3f).toInt64.toUInt64).toInt64) = (0 : Int64)))), .val (.ref b150), .val (.int (own_b ((j39_s0 + (1 : Int64)) = v14))), .val (.long j205_s0), .second, .val (.long j224_s0), .second, .unset] [])) target
        refine XS.iload Xg164.here hx rfl (hb hby at_231) rfl ?_
        exact kt
      by_cases c233 : ¬ ((p3 &&& (8 : Int32)) = (0 : Int32))
      · refine own_st (B := Tg164.setTop (mkF m 241 #[.val (.long q0), .second, .val (.long q1), .second, .val (.long q2), .second, .val (.int p3), .val (.int p4), .val (.long v5), .second, .val (.long v14), .second, .val (.long j39_s0), .second, .val (.int (own_b (¬ ((p3 &&& (2 : Int32)) = (0 : Int32))))), .val (.int (own_b (¬ ((p3 &&& (4 : Int32)) = (0 : Int32))))), .val (.int (own_b (¬ ((p3 &&& (8 : Int32)) = (0 : Int32))))), .val (.ref b84), .val (.int (own_b ((((((w130_made + (1 : Int64))) - v14).toUInt64 >>> ((63 : Int32) &&& 0x3f).toInt64.toUInt64).toInt64) = (0 : Int64)))), .val (.ref b150), .val (.int (own_b ((j39_s0 + (1 : Int64)) = v14))), .val (.long j205_s0), .second, .val (.long j224_s0), .second, .unset] [(.int (0 : Int32))])) (fun target kt => ?_) ?_
        · show Steps p.tables e below (Tg164.setTop (mkF m 233 #[.val (.long q0), .second, .val (.long q1), .second, .val (.long q2), .second, .val (.int p3), .val (.int p4), .val (.long v5), .second, .val (.long v14), .second, .val (.long j39_s0), .second, .val (.int (own_b (¬ ((p3 &&& (2 : Int32)) = (0 : Int32))))), .val (.int (own_b (¬ ((p3 &&& (4 : Int32)) = (0 : Int32))))), .val (.int (own_b (¬ ((p3 &&& (8 : Int32)) = (0 : Int32))))), .val (.ref b84), .val (.int (own_b ((((((w130_made + (1 : Int64))) - v14).toUInt64 >>> ((63 : Int32) &&& 0x3f).toInt64.toUInt64).toInt64) = (0 : Int64)))), .val (.ref b150), .val (.int (own_b ((j39_s0 + (1 : Int64)) = v14))), .val (.long j205_s0), .second, .val (.long j224_s0), .second, .unset] [(.int (own_b (¬ ((p3 &&& (8 : Int32)) = (0 : Int32)))))])) target
          refine XS.ifYes Xg164.here hx rfl (pc0 := 233) (pc' := 240) rfl (hb hby at_233) rfl ((if0 _ _).trans (feq (own_bn0 rfl c233)).2) (by decide) (by decide) ?_
          show Steps p.tables e below (Tg164.setTop (mkF m 240 #[.val (.long q0), .second, .val (.long q1), .second, .val (.long q2), .second, .val (.int p3), .val (.int p4), .val (.long v5), .second, .val (.long v14), .second, .val (.long j39_s0), .second, .val (.int (own_b (¬ ((p3 &&& (2 : Int32)) = (0 : Int32))))), .val (.int (own_b (¬ ((p3 &&& (4 : Int32)) = (0 : Int32))))), .val (.int (own_b (¬ ((p3 &&& (8 : Int32)) = (0 : Int32))))), .val (.ref b84), .val (.int (own_b ((((((w130_made + (1 : Int64))) - v14).toUInt64 >>> ((63 : Int32) &&& 0x3f).toInt64.toUInt64).toInt64) = (0 : Int64)))), .val (.ref b150), .val (.int (own_b ((j39_s0 + (1 : Int64)) = v14))), .val (.long j205_s0), .second, .val (.long j224_s0), .second, .unset] [])) target
          refine XS.iconst Xg164.here hx rfl (hb hby at_240) ?_
          exact kt
        exact ⟨_, ⟨(0 : Int32), rfl, (own_b0 (fun w => w.elim c228 (fun w => w c233))).symm⟩, fun _ k => k⟩
      · refine own_st (B := Tg164.setTop (mkF m 241 #[.val (.long q0), .second, .val (.long q1), .second, .val (.long q2), .second, .val (.int p3), .val (.int p4), .val (.long v5), .second, .val (.long v14), .second, .val (.long j39_s0), .second, .val (.int (own_b (¬ ((p3 &&& (2 : Int32)) = (0 : Int32))))), .val (.int (own_b (¬ ((p3 &&& (4 : Int32)) = (0 : Int32))))), .val (.int (own_b (¬ ((p3 &&& (8 : Int32)) = (0 : Int32))))), .val (.ref b84), .val (.int (own_b ((((((w130_made + (1 : Int64))) - v14).toUInt64 >>> ((63 : Int32) &&& 0x3f).toInt64.toUInt64).toInt64) = (0 : Int64)))), .val (.ref b150), .val (.int (own_b ((j39_s0 + (1 : Int64)) = v14))), .val (.long j205_s0), .second, .val (.long j224_s0), .second, .unset] [(.int (1 : Int32))])) (fun target kt => ?_) ?_
        · show Steps p.tables e below (Tg164.setTop (mkF m 233 #[.val (.long q0), .second, .val (.long q1), .second, .val (.long q2), .second, .val (.int p3), .val (.int p4), .val (.long v5), .second, .val (.long v14), .second, .val (.long j39_s0), .second, .val (.int (own_b (¬ ((p3 &&& (2 : Int32)) = (0 : Int32))))), .val (.int (own_b (¬ ((p3 &&& (4 : Int32)) = (0 : Int32))))), .val (.int (own_b (¬ ((p3 &&& (8 : Int32)) = (0 : Int32))))), .val (.ref b84), .val (.int (own_b ((((((w130_made + (1 : Int64))) - v14).toUInt64 >>> ((63 : Int32) &&& 0x3f).toInt64.toUInt64).toInt64) = (0 : Int64)))), .val (.ref b150), .val (.int (own_b ((j39_s0 + (1 : Int64)) = v14))), .val (.long j205_s0), .second, .val (.long j224_s0), .second, .unset] [(.int (own_b (¬ ((p3 &&& (8 : Int32)) = (0 : Int32)))))])) target
          refine XS.ifNo Xg164.here hx rfl (hb hby at_233) rfl ((if0 _ _).trans (teq (own_b00 rfl c233)).2) ?_
          show Steps p.tables e below (Tg164.setTop (mkF m 236 #[.val (.long q0), .second, .val (.long q1), .second, .val (.long q2), .second, .val (.int p3), .val (.int p4), .val (.long v5), .second, .val (.long v14), .second, .val (.long j39_s0), .second, .val (.int (own_b (¬ ((p3 &&& (2 : Int32)) = (0 : Int32))))), .val (.int (own_b (¬ ((p3 &&& (4 : Int32)) = (0 : Int32))))), .val (.int (own_b (¬ ((p3 &&& (8 : Int32)) = (0 : Int32))))), .val (.ref b84), .val (.int (own_b ((((((w130_made + (1 : Int64))) - v14).toUInt64 >>> ((63 : Int32) &&& 0x3f).toInt64.toUInt64).toInt64) = (0 : Int64)))), .val (.ref b150), .val (.int (own_b ((j39_s0 + (1 : Int64)) = v14))), .val (.long j205_s0), .second, .val (.long j224_s0), .second, .unset] [])) target
          refine XS.iconst Xg164.here hx rfl (hb hby at_236) ?_
          show Steps p.tables e below (Tg164.setTop (mkF m 237 #[.val (.long q0), .second, .val (.long q1), .second, .val (.long q2), .second, .val (.int p3), .val (.int p4), .val (.long v5), .second, .val (.long v14), .second, .val (.long j39_s0), .second, .val (.int (own_b (¬ ((p3 &&& (2 : Int32)) = (0 : Int32))))), .val (.int (own_b (¬ ((p3 &&& (4 : Int32)) = (0 : Int32))))), .val (.int (own_b (¬ ((p3 &&& (8 : Int32)) = (0 : Int32))))), .val (.ref b84), .val (.int (own_b ((((((w130_made + (1 : Int64))) - v14).toUInt64 >>> ((63 : Int32) &&& 0x3f).toInt64.toUInt64).toInt64) = (0 : Int64)))), .val (.ref b150), .val (.int (own_b ((j39_s0 + (1 : Int64)) = v14))), .val (.long j205_s0), .second, .val (.long j224_s0), .second, .unset] [(.int (1 : Int32))])) target
          refine XS.goto Xg164.here hx rfl (pc0 := 237) (pc' := 241) rfl (hb hby at_237) (by decide) (by decide) ?_
          exact kt
        exact ⟨_, ⟨(1 : Int32), rfl, (own_b1 (Or.inr c233)).symm⟩, fun _ k => k⟩
  refine own_st st_M241 ?_
  refine own_st (B := Tg164.setTop (mkF m 243 #[.val (.long q0), .second, .val (.long q1), .second, .val (.long q2), .second, .val (.int p3), .val (.int p4), .val (.long v5), .second, .val (.long v14), .second, .val (.long j39_s0), .second, .val (.int (own_b (¬ ((p3 &&& (2 : Int32)) = (0 : Int32))))), .val (.int (own_b (¬ ((p3 &&& (4 : Int32)) = (0 : Int32))))), .val (.int (own_b (¬ ((p3 &&& (8 : Int32)) = (0 : Int32))))), .val (.ref b84), .val (.int (own_b ((((((w130_made + (1 : Int64))) - v14).toUInt64 >>> ((63 : Int32) &&& 0x3f).toInt64.toUInt64).toInt64) = (0 : Int64)))), .val (.ref b150), .val (.int (own_b ((j39_s0 + (1 : Int64)) = v14))), .val (.long j205_s0), .second, .val (.long j224_s0), .second, .val (.int (own_b (((j39_s0 + (1 : Int64)) = v14) ∨ (¬ (¬ ((p3 &&& (8 : Int32)) = (0 : Int32)))))))] [])) (fun target kt => ?_) ?_
  · show Steps p.tables e below (Tg164.setTop (mkF m 241 #[.val (.long q0), .second, .val (.long q1), .second, .val (.long q2), .second, .val (.int p3), .val (.int p4), .val (.long v5), .second, .val (.long v14), .second, .val (.long j39_s0), .second, .val (.int (own_b (¬ ((p3 &&& (2 : Int32)) = (0 : Int32))))), .val (.int (own_b (¬ ((p3 &&& (4 : Int32)) = (0 : Int32))))), .val (.int (own_b (¬ ((p3 &&& (8 : Int32)) = (0 : Int32))))), .val (.ref b84), .val (.int (own_b ((((((w130_made + (1 : Int64))) - v14).toUInt64 >>> ((63 : Int32) &&& 0x3f).toInt64.toUInt64).toInt64) = (0 : Int64)))), .val (.ref b150), .val (.int (own_b ((j39_s0 + (1 : Int64)) = v14))), .val (.long j205_s0), .second, .val (.long j224_s0), .second, .unset] [(.int (own_b (((j39_s0 + (1 : Int64)) = v14) ∨ (¬ (¬ ((p3 &&& (8 : Int32)) = (0 : Int32)))))))])) target
    refine XS.istore Xg164.here hx rfl (hb hby at_241) rfl (l' := #[.val (.long q0), .second, .val (.long q1), .second, .val (.long q2), .second, .val (.int p3), .val (.int p4), .val (.long v5), .second, .val (.long v14), .second, .val (.long j39_s0), .second, .val (.int (own_b (¬ ((p3 &&& (2 : Int32)) = (0 : Int32))))), .val (.int (own_b (¬ ((p3 &&& (4 : Int32)) = (0 : Int32))))), .val (.int (own_b (¬ ((p3 &&& (8 : Int32)) = (0 : Int32))))), .val (.ref b84), .val (.int (own_b ((((((w130_made + (1 : Int64))) - v14).toUInt64 >>> ((63 : Int32) &&& 0x3f).toInt64.toUInt64).toInt64) = (0 : Int64)))), .val (.ref b150), .val (.int (own_b ((j39_s0 + (1 : Int64)) = v14))), .val (.long j205_s0), .second, .val (.long j224_s0), .second, .val (.int (own_b (((j39_s0 + (1 : Int64)) = v14) ∨ (¬ (¬ ((p3 &&& (8 : Int32)) = (0 : Int32)))))))]) rfl ?_
    exact kt
  have hk := own_kk q2 v14 p3 hT.1 j39_s0 hj39_s0
  have hlt : j39_s0 < v14 := by rw [Int64.lt_iff_toInt_lt]; exact hk.2
  have e1 : w122_made = 0 := by rw [hw122_made, if_neg not_false]
  have e2 : w130_made = j39_s0 := by rw [hw130_made, e1, Int64.zero_add, if_pos hlt]
  have p1 : w109_picks = v5 := by rw [hw109_picks, Int64.zero_add]
  have b1 : w122_began = v5 + (1 : Int64) := by rw [hw122_began, if_neg not_false, p1]
  have b2 : w130_began = v5 + (1 : Int64) := by rw [hw130_began, e1, Int64.zero_add, if_pos hlt, b1]
  have p2 : w130_picks = v5 + j39_s0 := by rw [hw130_picks, p1]
  have hS := own_sgn j39_s0 v14 hk.1 hk.2 hT.2
  refine own_st (B := Tg164.setTop (mkF m 247 #[.val (.long q0), .second, .val (.long q1), .second, .val (.long q2), .second, .val (.int p3), .val (.int p4), .val (.long v5), .second, .val (.long v14), .second, .val (.long j39_s0), .second, .val (.int (own_b (¬ ((p3 &&& (2 : Int32)) = (0 : Int32))))), .val (.int (own_b (¬ ((p3 &&& (4 : Int32)) = (0 : Int32))))), .val (.int (own_b (¬ ((p3 &&& (8 : Int32)) = (0 : Int32))))), .val (.ref b84), .val (.int (own_b ((((((w130_made + (1 : Int64))) - v14).toUInt64 >>> ((63 : Int32) &&& 0x3f).toInt64.toUInt64).toInt64) = (0 : Int64)))), .val (.ref b150), .val (.int (own_b ((j39_s0 + (1 : Int64)) = v14))), .val (.long j205_s0), .second, .val (.long j224_s0), .second, .val (.int (own_b (((j39_s0 + (1 : Int64)) = v14) ∨ (¬ (¬ ((p3 &&& (8 : Int32)) = (0 : Int32)))))))] [(.int (own_b ((j39_s0 + (1 : Int64)) = v14))), (.int (own_b ((((((w130_made + (1 : Int64))) - v14).toUInt64 >>> ((63 : Int32) &&& 0x3f).toInt64.toUInt64).toInt64) = (0 : Int64))))])) (fun target kt => ?_) ?_
  · show Steps p.tables e below (Tg164.setTop (mkF m 243 #[.val (.long q0), .second, .val (.long q1), .second, .val (.long q2), .second, .val (.int p3), .val (.int p4), .val (.long v5), .second, .val (.long v14), .second, .val (.long j39_s0), .second, .val (.int (own_b (¬ ((p3 &&& (2 : Int32)) = (0 : Int32))))), .val (.int (own_b (¬ ((p3 &&& (4 : Int32)) = (0 : Int32))))), .val (.int (own_b (¬ ((p3 &&& (8 : Int32)) = (0 : Int32))))), .val (.ref b84), .val (.int (own_b ((((((w130_made + (1 : Int64))) - v14).toUInt64 >>> ((63 : Int32) &&& 0x3f).toInt64.toUInt64).toInt64) = (0 : Int64)))), .val (.ref b150), .val (.int (own_b ((j39_s0 + (1 : Int64)) = v14))), .val (.long j205_s0), .second, .val (.long j224_s0), .second, .val (.int (own_b (((j39_s0 + (1 : Int64)) = v14) ∨ (¬ (¬ ((p3 &&& (8 : Int32)) = (0 : Int32)))))))] [])) target
    refine XS.iload Xg164.here hx rfl (hb hby at_243) rfl ?_
    show Steps p.tables e below (Tg164.setTop (mkF m 245 #[.val (.long q0), .second, .val (.long q1), .second, .val (.long q2), .second, .val (.int p3), .val (.int p4), .val (.long v5), .second, .val (.long v14), .second, .val (.long j39_s0), .second, .val (.int (own_b (¬ ((p3 &&& (2 : Int32)) = (0 : Int32))))), .val (.int (own_b (¬ ((p3 &&& (4 : Int32)) = (0 : Int32))))), .val (.int (own_b (¬ ((p3 &&& (8 : Int32)) = (0 : Int32))))), .val (.ref b84), .val (.int (own_b ((((((w130_made + (1 : Int64))) - v14).toUInt64 >>> ((63 : Int32) &&& 0x3f).toInt64.toUInt64).toInt64) = (0 : Int64)))), .val (.ref b150), .val (.int (own_b ((j39_s0 + (1 : Int64)) = v14))), .val (.long j205_s0), .second, .val (.long j224_s0), .second, .val (.int (own_b (((j39_s0 + (1 : Int64)) = v14) ∨ (¬ (¬ ((p3 &&& (8 : Int32)) = (0 : Int32)))))))] [(.int (own_b ((((((w130_made + (1 : Int64))) - v14).toUInt64 >>> ((63 : Int32) &&& 0x3f).toInt64.toUInt64).toInt64) = (0 : Int64))))])) target
    refine XS.iload Xg164.here hx rfl (hb hby at_245) rfl ?_
    exact kt
  have c247 : ((((((w130_made + (1 : Int64))) - v14).toUInt64 >>> ((63 : Int32) &&& 0x3f).toInt64.toUInt64).toInt64) = (0 : Int64)) ↔ ((j39_s0 + (1 : Int64)) = v14) := by
    rw [e2]
    rcases hS with ⟨hk, hs⟩ | ⟨hk, hs⟩
    · rw [hs]; exact ⟨fun _ => hk, fun _ => rfl⟩
    · rw [hs]; exact ⟨fun h => absurd h (by decide), fun h => absurd h hk⟩
  refine own_st (B := Tg164.setTop (mkF m 252 #[.val (.long q0), .second, .val (.long q1), .second, .val (.long q2), .second, .val (.int p3), .val (.int p4), .val (.long v5), .second, .val (.long v14), .second, .val (.long j39_s0), .second, .val (.int (own_b (¬ ((p3 &&& (2 : Int32)) = (0 : Int32))))), .val (.int (own_b (¬ ((p3 &&& (4 : Int32)) = (0 : Int32))))), .val (.int (own_b (¬ ((p3 &&& (8 : Int32)) = (0 : Int32))))), .val (.ref b84), .val (.int (own_b ((((((w130_made + (1 : Int64))) - v14).toUInt64 >>> ((63 : Int32) &&& 0x3f).toInt64.toUInt64).toInt64) = (0 : Int64)))), .val (.ref b150), .val (.int (own_b ((j39_s0 + (1 : Int64)) = v14))), .val (.long j205_s0), .second, .val (.long j224_s0), .second, .val (.int (own_b (((j39_s0 + (1 : Int64)) = v14) ∨ (¬ (¬ ((p3 &&& (8 : Int32)) = (0 : Int32)))))))] [(.ref b84)])) (fun target kt => ?_) ?_
  · show Steps p.tables e below (Tg164.setTop (mkF m 247 #[.val (.long q0), .second, .val (.long q1), .second, .val (.long q2), .second, .val (.int p3), .val (.int p4), .val (.long v5), .second, .val (.long v14), .second, .val (.long j39_s0), .second, .val (.int (own_b (¬ ((p3 &&& (2 : Int32)) = (0 : Int32))))), .val (.int (own_b (¬ ((p3 &&& (4 : Int32)) = (0 : Int32))))), .val (.int (own_b (¬ ((p3 &&& (8 : Int32)) = (0 : Int32))))), .val (.ref b84), .val (.int (own_b ((((((w130_made + (1 : Int64))) - v14).toUInt64 >>> ((63 : Int32) &&& 0x3f).toInt64.toUInt64).toInt64) = (0 : Int64)))), .val (.ref b150), .val (.int (own_b ((j39_s0 + (1 : Int64)) = v14))), .val (.long j205_s0), .second, .val (.long j224_s0), .second, .val (.int (own_b (((j39_s0 + (1 : Int64)) = v14) ∨ (¬ (¬ ((p3 &&& (8 : Int32)) = (0 : Int32)))))))] [(.int (own_b ((j39_s0 + (1 : Int64)) = v14))), (.int (own_b ((((((w130_made + (1 : Int64))) - v14).toUInt64 >>> ((63 : Int32) &&& 0x3f).toInt64.toUInt64).toInt64) = (0 : Int64))))])) target
    refine XS.icmpNo Xg164.here hx rfl (hb hby at_247) rfl (teq (own_bb rfl rfl c247)).2 ?_
    show Steps p.tables e below (Tg164.setTop (mkF m 250 #[.val (.long q0), .second, .val (.long q1), .second, .val (.long q2), .second, .val (.int p3), .val (.int p4), .val (.long v5), .second, .val (.long v14), .second, .val (.long j39_s0), .second, .val (.int (own_b (¬ ((p3 &&& (2 : Int32)) = (0 : Int32))))), .val (.int (own_b (¬ ((p3 &&& (4 : Int32)) = (0 : Int32))))), .val (.int (own_b (¬ ((p3 &&& (8 : Int32)) = (0 : Int32))))), .val (.ref b84), .val (.int (own_b ((((((w130_made + (1 : Int64))) - v14).toUInt64 >>> ((63 : Int32) &&& 0x3f).toInt64.toUInt64).toInt64) = (0 : Int64)))), .val (.ref b150), .val (.int (own_b ((j39_s0 + (1 : Int64)) = v14))), .val (.long j205_s0), .second, .val (.long j224_s0), .second, .val (.int (own_b (((j39_s0 + (1 : Int64)) = v14) ∨ (¬ (¬ ((p3 &&& (8 : Int32)) = (0 : Int32)))))))] [])) target
    refine XS.aload Xg164.here hx rfl (hb hby at_250) rfl rfl ?_
    exact kt
  obtain ⟨cqg252, kqg252, qg252a, qg252b, qg252c⟩ := isOf hZ rfl F_89
  obtain ⟨_, _, ⟨Tg252, Lg252, kg252, ng252⟩, -, Xg252, ⟨Lcg252, hQg252, lg252, yg252, zg252⟩, stg252⟩ := Xg164.virtualBack hx (y := (⟨"com/example/evenkeel/evenkeel/FullCycles", "cycle", "()J"⟩ : MethodName)) (z := (⟨"com/example/evenkeel/evenkeel/FullCycles", "cycle", "()J"⟩ : MethodName)) hown (mvT hZ (hw _ (List.mem_of_getElem? (i := 60) rfl))) (mvT hZ (hw _ (List.mem_of_getElem? (i := 61) rfl))) (notFace_of_selects (args := #[]) (mvT hZ (hw _ (List.mem_of_getElem? (i := 63) rfl)))) (mvT hZ (hw _ (List.mem_of_getElem? (i := 63) rfl))) (mvT hZ (hw _ (List.mem_of_getElem? (i := 62) rfl))) (by decide) (backOf (W := 0) (own_rm9 l Z a0 hw [] b84 w145_began Tg164.heap n0 Zz_8 F_92) hZ (hw _ (List.mem_of_getElem? (i := 64) rfl)) (hw _ (List.mem_of_getElem? (i := 3) rfl)) (by decide) (by decide)) qg252a qg252c (g := (mkF m 252 #[.val (.long q0), .second, .val (.long q1), .second, .val (.long q2), .second, .val (.int p3), .val (.int p4), .val (.long v5), .second, .val (.long v14), .second, .val (.long j39_s0), .second, .val (.int (own_b (¬ ((p3 &&& (2 : Int32)) = (0 : Int32))))), .val (.int (own_b (¬ ((p3 &&& (4 : Int32)) = (0 : Int32))))), .val (.int (own_b (¬ ((p3 &&& (8 : Int32)) = (0 : Int32))))), .val (.ref b84), .val (.int (own_b ((((((w130_made + (1 : Int64))) - v14).toUInt64 >>> ((63 : Int32) &&& 0x3f).toInt64.toUInt64).toInt64) = (0 : Int64)))), .val (.ref b150), .val (.int (own_b ((j39_s0 + (1 : Int64)) = v14))), .val (.long j205_s0), .second, .val (.long j224_s0), .second, .val (.int (own_b (((j39_s0 + (1 : Int64)) = v14) ∨ (¬ (¬ ((p3 &&& (8 : Int32)) = (0 : Int32)))))))] [(.ref b84)])) rfl (by rw [hml]; rfl) (Steps.refl _) (argsL := []) (rest := []) (lenOf own_pd5 rfl) rfl (by show 2 * 0 + _ ≤ _; exact Nat.le_of_eq rfl) (hb hby at_252) (fun _ _ => ⟨rfl, rfl, (by decide : 2 + 0 ≤ _), (by decide : 13 + 0 ≤ _)⟩)
  dsimp only [Pt.U, Pt.locs, Pt.cells, Pt.slots] at Xg252 lg252 yg252 zg252 stg252 hQg252
  subst lg252 yg252 zg252
  obtain ⟨rfl, Ng252q, eg252⟩ := hQg252
  have Ng252 := Fr.app Ng164 Ng252q
  refine own_st (fun _ k => stg252.trans k) ?_
  refine own_st (B := Tg252.setTop (mkF m 258 #[.val (.long q0), .second, .val (.long q1), .second, .val (.long q2), .second, .val (.int p3), .val (.int p4), .val (.long v5), .second, .val (.long v14), .second, .val (.long j39_s0), .second, .val (.int (own_b (¬ ((p3 &&& (2 : Int32)) = (0 : Int32))))), .val (.int (own_b (¬ ((p3 &&& (4 : Int32)) = (0 : Int32))))), .val (.int (own_b (¬ ((p3 &&& (8 : Int32)) = (0 : Int32))))), .val (.ref b84), .val (.int (own_b ((((((w130_made + (1 : Int64))) - v14).toUInt64 >>> ((63 : Int32) &&& 0x3f).toInt64.toUInt64).toInt64) = (0 : Int64)))), .val (.ref b150), .val (.int (own_b ((j39_s0 + (1 : Int64)) = v14))), .val (.long j205_s0), .second, .val (.long j224_s0), .second, .val (.int (own_b (((j39_s0 + (1 : Int64)) = v14) ∨ (¬ (¬ ((p3 &&& (8 : Int32)) = (0 : Int32)))))))] [(.int (lcmpW w145_began j205_s0))])) (fun target kt => ?_) ?_
  · show Steps p.tables e below (Tg252.setTop (mkF m 255 #[.val (.long q0), .second, .val (.long q1), .second, .val (.long q2), .second, .val (.int p3), .val (.int p4), .val (.long v5), .second, .val (.long v14), .second, .val (.long j39_s0), .second, .val (.int (own_b (¬ ((p3 &&& (2 : Int32)) = (0 : Int32))))), .val (.int (own_b (¬ ((p3 &&& (4 : Int32)) = (0 : Int32))))), .val (.int (own_b (¬ ((p3 &&& (8 : Int32)) = (0 : Int32))))), .val (.ref b84), .val (.int (own_b ((((((w130_made + (1 : Int64))) - v14).toUInt64 >>> ((63 : Int32) &&& 0x3f).toInt64.toUInt64).toInt64) = (0 : Int64)))), .val (.ref b150), .val (.int (own_b ((j39_s0 + (1 : Int64)) = v14))), .val (.long j205_s0), .second, .val (.long j224_s0), .second, .val (.int (own_b (((j39_s0 + (1 : Int64)) = v14) ∨ (¬ (¬ ((p3 &&& (8 : Int32)) = (0 : Int32)))))))] [(.long w145_began)])) target
    refine XS.lload Xg252.here hx rfl (hb hby at_255) rfl ?_
    show Steps p.tables e below (Tg252.setTop (mkF m 257 #[.val (.long q0), .second, .val (.long q1), .second, .val (.long q2), .second, .val (.int p3), .val (.int p4), .val (.long v5), .second, .val (.long v14), .second, .val (.long j39_s0), .second, .val (.int (own_b (¬ ((p3 &&& (2 : Int32)) = (0 : Int32))))), .val (.int (own_b (¬ ((p3 &&& (4 : Int32)) = (0 : Int32))))), .val (.int (own_b (¬ ((p3 &&& (8 : Int32)) = (0 : Int32))))), .val (.ref b84), .val (.int (own_b ((((((w130_made + (1 : Int64))) - v14).toUInt64 >>> ((63 : Int32) &&& 0x3f).toInt64.toUInt64).toInt64) = (0 : Int64)))), .val (.ref b150), .val (.int (own_b ((j39_s0 + (1 : Int64)) = v14))), .val (.long j205_s0), .second, .val (.long j224_s0), .second, .val (.int (own_b (((j39_s0 + (1 : Int64)) = v14) ∨ (¬ (¬ ((p3 &&& (8 : Int32)) = (0 : Int32)))))))] [(.long j205_s0), (.long w145_began)])) target
    refine XS.lcmp Xg252.here hx rfl (hb hby at_257) rfl ?_
    exact kt
  have c258 : w145_began = j205_s0 := by
    rw [hw145_began, e2, b2, p2, hj205_s0]
    rcases hS with ⟨hk, hs⟩ | ⟨hk, hs⟩
    · rw [hs, if_pos hk]; exact own_x1 v5 j39_s0
    · rw [hs, if_neg hk]; exact own_x2 _ _
  refine own_st (B := Tg252.setTop (mkF m 263 #[.val (.long q0), .second, .val (.long q1), .second, .val (.long q2), .second, .val (.int p3), .val (.int p4), .val (.long v5), .second, .val (.long v14), .second, .val (.long j39_s0), .second, .val (.int (own_b (¬ ((p3 &&& (2 : Int32)) = (0 : Int32))))), .val (.int (own_b (¬ ((p3 &&& (4 : Int32)) = (0 : Int32))))), .val (.int (own_b (¬ ((p3 &&& (8 : Int32)) = (0 : Int32))))), .val (.ref b84), .val (.int (own_b ((((((w130_made + (1 : Int64))) - v14).toUInt64 >>> ((63 : Int32) &&& 0x3f).toInt64.toUInt64).toInt64) = (0 : Int64)))), .val (.ref b150), .val (.int (own_b ((j39_s0 + (1 : Int64)) = v14))), .val (.long j205_s0), .second, .val (.long j224_s0), .second, .val (.int (own_b (((j39_s0 + (1 : Int64)) = v14) ∨ (¬ (¬ ((p3 &&& (8 : Int32)) = (0 : Int32)))))))] [(.ref b84)])) (fun target kt => ?_) ?_
  · show Steps p.tables e below (Tg252.setTop (mkF m 258 #[.val (.long q0), .second, .val (.long q1), .second, .val (.long q2), .second, .val (.int p3), .val (.int p4), .val (.long v5), .second, .val (.long v14), .second, .val (.long j39_s0), .second, .val (.int (own_b (¬ ((p3 &&& (2 : Int32)) = (0 : Int32))))), .val (.int (own_b (¬ ((p3 &&& (4 : Int32)) = (0 : Int32))))), .val (.int (own_b (¬ ((p3 &&& (8 : Int32)) = (0 : Int32))))), .val (.ref b84), .val (.int (own_b ((((((w130_made + (1 : Int64))) - v14).toUInt64 >>> ((63 : Int32) &&& 0x3f).toInt64.toUInt64).toInt64) = (0 : Int64)))), .val (.ref b150), .val (.int (own_b ((j39_s0 + (1 : Int64)) = v14))), .val (.long j205_s0), .second, .val (.long j224_s0), .second, .val (.int (own_b (((j39_s0 + (1 : Int64)) = v14) ∨ (¬ (¬ ((p3 &&& (8 : Int32)) = (0 : Int32)))))))] [(.int (lcmpW w145_began j205_s0))])) target
    refine XS.ifNo Xg252.here hx rfl (hb hby at_258) rfl ((if0 _ _).trans (teq ((lw_eq w145_began j205_s0).mpr c258)).2) ?_
    show Steps p.tables e below (Tg252.setTop (mkF m 261 #[.val (.long q0), .second, .val (.long q1), .second, .val (.long q2), .second, .val (.int p3), .val (.int p4), .val (.long v5), .second, .val (.long v14), .second, .val (.long j39_s0), .second, .val (.int (own_b (¬ ((p3 &&& (2 : Int32)) = (0 : Int32))))), .val (.int (own_b (¬ ((p3 &&& (4 : Int32)) = (0 : Int32))))), .val (.int (own_b (¬ ((p3 &&& (8 : Int32)) = (0 : Int32))))), .val (.ref b84), .val (.int (own_b ((((((w130_made + (1 : Int64))) - v14).toUInt64 >>> ((63 : Int32) &&& 0x3f).toInt64.toUInt64).toInt64) = (0 : Int64)))), .val (.ref b150), .val (.int (own_b ((j39_s0 + (1 : Int64)) = v14))), .val (.long j205_s0), .second, .val (.long j224_s0), .second, .val (.int (own_b (((j39_s0 + (1 : Int64)) = v14) ∨ (¬ (¬ ((p3 &&& (8 : Int32)) = (0 : Int32)))))))] [])) target
    refine XS.aload Xg252.here hx rfl (hb hby at_261) rfl rfl ?_
    exact kt
  obtain ⟨cqg263, kqg263, qg263a, qg263b, qg263c⟩ := isOf hZ eg252 F_89
  obtain ⟨_, _, ⟨Tg263, Lg263, kg263, ng263⟩, -, Xg263, ⟨Lcg263, hQg263, lg263, yg263, zg263⟩, stg263⟩ := Xg252.virtualBack hx (y := (⟨"com/example/evenkeel/evenkeel/FullCycles", "left", "()J"⟩ : MethodName)) (z := (⟨"com/example/evenkeel/evenkeel/FullCycles", "left", "()J"⟩ : MethodName)) hown (mvT hZ (hw _ (List.mem_of_getElem? (i := 65) rfl))) (mvT hZ (hw _ (List.mem_of_getElem? (i := 66) rfl))) (notFace_of_selects (args := #[]) (mvT hZ (hw _ (List.mem_of_getElem? (i := 68) rfl)))) (mvT hZ (hw _ (List.mem_of_getElem? (i := 68) rfl))) (mvT hZ (hw _ (List.mem_of_getElem? (i := 67) rfl))) (by decide) (backOf (W := 0) (own_rm10 l Z a0 hw [] b84 v14 w145_made Tg164.heap n0 Zz_8 F_95 F_93) hZ (hw _ (List.mem_of_getElem? (i := 69) rfl)) (hw _ (List.mem_of_getElem? (i := 3) rfl)) (by decide) (by decide)) qg263a qg263c (g := (mkF m 263 #[.val (.long q0), .second, .val (.long q1), .second, .val (.long q2), .second, .val (.int p3), .val (.int p4), .val (.long v5), .second, .val (.long v14), .second, .val (.long j39_s0), .second, .val (.int (own_b (¬ ((p3 &&& (2 : Int32)) = (0 : Int32))))), .val (.int (own_b (¬ ((p3 &&& (4 : Int32)) = (0 : Int32))))), .val (.int (own_b (¬ ((p3 &&& (8 : Int32)) = (0 : Int32))))), .val (.ref b84), .val (.int (own_b ((((((w130_made + (1 : Int64))) - v14).toUInt64 >>> ((63 : Int32) &&& 0x3f).toInt64.toUInt64).toInt64) = (0 : Int64)))), .val (.ref b150), .val (.int (own_b ((j39_s0 + (1 : Int64)) = v14))), .val (.long j205_s0), .second, .val (.long j224_s0), .second, .val (.int (own_b (((j39_s0 + (1 : Int64)) = v14) ∨ (¬ (¬ ((p3 &&& (8 : Int32)) = (0 : Int32)))))))] [(.ref b84)])) rfl (by rw [hml]; rfl) (Steps.refl _) (argsL := []) (rest := []) (lenOf own_pd5 rfl) rfl (by show 2 * 0 + _ ≤ _; exact Nat.le_of_eq rfl) (hb hby at_263) (fun _ _ => ⟨rfl, eg252, (by decide : 2 + 0 ≤ _), (by decide : 13 + 0 ≤ _)⟩)
  dsimp only [Pt.U, Pt.locs, Pt.cells, Pt.slots] at Xg263 lg263 yg263 zg263 stg263 hQg263
  subst lg263 yg263 zg263
  obtain ⟨rfl, Ng263q, eg263⟩ := hQg263
  have Ng263 := Fr.app Ng252 Ng263q
  refine own_st (fun _ k => stg263.trans k) ?_
  refine own_st (B := Tg263.setTop (mkF m 269 #[.val (.long q0), .second, .val (.long q1), .second, .val (.long q2), .second, .val (.int p3), .val (.int p4), .val (.long v5), .second, .val (.long v14), .second, .val (.long j39_s0), .second, .val (.int (own_b (¬ ((p3 &&& (2 : Int32)) = (0 : Int32))))), .val (.int (own_b (¬ ((p3 &&& (4 : Int32)) = (0 : Int32))))), .val (.int (own_b (¬ ((p3 &&& (8 : Int32)) = (0 : Int32))))), .val (.ref b84), .val (.int (own_b ((((((w130_made + (1 : Int64))) - v14).toUInt64 >>> ((63 : Int32) &&& 0x3f).toInt64.toUInt64).toInt64) = (0 : Int64)))), .val (.ref b150), .val (.int (own_b ((j39_s0 + (1 : Int64)) = v14))), .val (.long j205_s0), .second, .val (.long j224_s0), .second, .val (.int (own_b (((j39_s0 + (1 : Int64)) = v14) ∨ (¬ (¬ ((p3 &&& (8 : Int32)) = (0 : Int32)))))))] [(.int (lcmpW (v14 - w145_made) j224_s0))])) (fun target kt => ?_) ?_
  · show Steps p.tables e below (Tg263.setTop (mkF m 266 #[.val (.long q0), .second, .val (.long q1), .second, .val (.long q2), .second, .val (.int p3), .val (.int p4), .val (.long v5), .second, .val (.long v14), .second, .val (.long j39_s0), .second, .val (.int (own_b (¬ ((p3 &&& (2 : Int32)) = (0 : Int32))))), .val (.int (own_b (¬ ((p3 &&& (4 : Int32)) = (0 : Int32))))), .val (.int (own_b (¬ ((p3 &&& (8 : Int32)) = (0 : Int32))))), .val (.ref b84), .val (.int (own_b ((((((w130_made + (1 : Int64))) - v14).toUInt64 >>> ((63 : Int32) &&& 0x3f).toInt64.toUInt64).toInt64) = (0 : Int64)))), .val (.ref b150), .val (.int (own_b ((j39_s0 + (1 : Int64)) = v14))), .val (.long j205_s0), .second, .val (.long j224_s0), .second, .val (.int (own_b (((j39_s0 + (1 : Int64)) = v14) ∨ (¬ (¬ ((p3 &&& (8 : Int32)) = (0 : Int32)))))))] [(.long (v14 - w145_made))])) target
    refine XS.lload Xg263.here hx rfl (hb hby at_266) rfl ?_
    show Steps p.tables e below (Tg263.setTop (mkF m 268 #[.val (.long q0), .second, .val (.long q1), .second, .val (.long q2), .second, .val (.int p3), .val (.int p4), .val (.long v5), .second, .val (.long v14), .second, .val (.long j39_s0), .second, .val (.int (own_b (¬ ((p3 &&& (2 : Int32)) = (0 : Int32))))), .val (.int (own_b (¬ ((p3 &&& (4 : Int32)) = (0 : Int32))))), .val (.int (own_b (¬ ((p3 &&& (8 : Int32)) = (0 : Int32))))), .val (.ref b84), .val (.int (own_b ((((((w130_made + (1 : Int64))) - v14).toUInt64 >>> ((63 : Int32) &&& 0x3f).toInt64.toUInt64).toInt64) = (0 : Int64)))), .val (.ref b150), .val (.int (own_b ((j39_s0 + (1 : Int64)) = v14))), .val (.long j205_s0), .second, .val (.long j224_s0), .second, .val (.int (own_b (((j39_s0 + (1 : Int64)) = v14) ∨ (¬ (¬ ((p3 &&& (8 : Int32)) = (0 : Int32)))))))] [(.long j224_s0), (.long (v14 - w145_made))])) target
    refine XS.lcmp Xg263.here hx rfl (hb hby at_268) rfl ?_
    exact kt
  have c269 : (v14 - w145_made) = j224_s0 := by
    rw [hw145_made, e2, hj224_s0]
    rcases hS with ⟨hk, hs⟩ | ⟨hk, hs⟩
    · rw [hs, if_pos hk, Int64.mul_zero, Int64.sub_zero]
    · rw [hs, if_neg hk, Int64.mul_one]; exact own_x3 _ _
  refine own_st (B := Tg263.setTop (mkF m 274 #[.val (.long q0), .second, .val (.long q1), .second, .val (.long q2), .second, .val (.int p3), .val (.int p4), .val (.long v5), .second, .val (.long v14), .second, .val (.long j39_s0), .second, .val (.int (own_b (¬ ((p3 &&& (2 : Int32)) = (0 : Int32))))), .val (.int (own_b (¬ ((p3 &&& (4 : Int32)) = (0 : Int32))))), .val (.int (own_b (¬ ((p3 &&& (8 : Int32)) = (0 : Int32))))), .val (.ref b84), .val (.int (own_b ((((((w130_made + (1 : Int64))) - v14).toUInt64 >>> ((63 : Int32) &&& 0x3f).toInt64.toUInt64).toInt64) = (0 : Int64)))), .val (.ref b150), .val (.int (own_b ((j39_s0 + (1 : Int64)) = v14))), .val (.long j205_s0), .second, .val (.long j224_s0), .second, .val (.int (own_b (((j39_s0 + (1 : Int64)) = v14) ∨ (¬ (¬ ((p3 &&& (8 : Int32)) = (0 : Int32)))))))] [(.ref b84)])) (fun target kt => ?_) ?_
  · show Steps p.tables e below (Tg263.setTop (mkF m 269 #[.val (.long q0), .second, .val (.long q1), .second, .val (.long q2), .second, .val (.int p3), .val (.int p4), .val (.long v5), .second, .val (.long v14), .second, .val (.long j39_s0), .second, .val (.int (own_b (¬ ((p3 &&& (2 : Int32)) = (0 : Int32))))), .val (.int (own_b (¬ ((p3 &&& (4 : Int32)) = (0 : Int32))))), .val (.int (own_b (¬ ((p3 &&& (8 : Int32)) = (0 : Int32))))), .val (.ref b84), .val (.int (own_b ((((((w130_made + (1 : Int64))) - v14).toUInt64 >>> ((63 : Int32) &&& 0x3f).toInt64.toUInt64).toInt64) = (0 : Int64)))), .val (.ref b150), .val (.int (own_b ((j39_s0 + (1 : Int64)) = v14))), .val (.long j205_s0), .second, .val (.long j224_s0), .second, .val (.int (own_b (((j39_s0 + (1 : Int64)) = v14) ∨ (¬ (¬ ((p3 &&& (8 : Int32)) = (0 : Int32)))))))] [(.int (lcmpW (v14 - w145_made) j224_s0))])) target
    refine XS.ifNo Xg263.here hx rfl (hb hby at_269) rfl ((if0 _ _).trans (teq ((lw_eq (v14 - w145_made) j224_s0).mpr c269)).2) ?_
    show Steps p.tables e below (Tg263.setTop (mkF m 272 #[.val (.long q0), .second, .val (.long q1), .second, .val (.long q2), .second, .val (.int p3), .val (.int p4), .val (.long v5), .second, .val (.long v14), .second, .val (.long j39_s0), .second, .val (.int (own_b (¬ ((p3 &&& (2 : Int32)) = (0 : Int32))))), .val (.int (own_b (¬ ((p3 &&& (4 : Int32)) = (0 : Int32))))), .val (.int (own_b (¬ ((p3 &&& (8 : Int32)) = (0 : Int32))))), .val (.ref b84), .val (.int (own_b ((((((w130_made + (1 : Int64))) - v14).toUInt64 >>> ((63 : Int32) &&& 0x3f).toInt64.toUInt64).toInt64) = (0 : Int64)))), .val (.ref b150), .val (.int (own_b ((j39_s0 + (1 : Int64)) = v14))), .val (.long j205_s0), .second, .val (.long j224_s0), .second, .val (.int (own_b (((j39_s0 + (1 : Int64)) = v14) ∨ (¬ (¬ ((p3 &&& (8 : Int32)) = (0 : Int32)))))))] [])) target
    refine XS.aload Xg263.here hx rfl (hb hby at_272) rfl rfl ?_
    exact kt
  obtain ⟨cqg274, kqg274, qg274a, qg274b, qg274c⟩ := isOf hZ eg263 F_89
  obtain ⟨_, _, ⟨Tg274, Lg274, kg274, ng274⟩, -, Xg274, ⟨Lcg274, hQg274, lg274, yg274, zg274⟩, stg274⟩ := Xg263.virtualBack hx (y := (⟨"com/example/evenkeel/evenkeel/FullCycles", "holds", "()Z"⟩ : MethodName)) (z := (⟨"com/example/evenkeel/evenkeel/FullCycles", "holds", "()Z"⟩ : MethodName)) hown (mvT hZ (hw _ (List.mem_of_getElem? (i := 70) rfl))) (mvT hZ (hw _ (List.mem_of_getElem? (i := 71) rfl))) (notFace_of_selects (args := #[]) (mvT hZ (hw _ (List.mem_of_getElem? (i := 73) rfl)))) (mvT hZ (hw _ (List.mem_of_getElem? (i := 73) rfl))) (mvT hZ (hw _ (List.mem_of_getElem? (i := 72) rfl))) (by decide) (backOf (W := 0) (own_rm11 l Z a0 hw [] b84 (((¬ (¬ ((p3 &&& (8 : Int32)) = (0 : Int32))) ∧ (¬ (((w122_made + j39_s0)) < v14) ∨ (¬ (False) ∨ (¬ (¬ ((p3 &&& (4 : Int32)) = (0 : Int32))) ∨ (¬ (p4 = (1 : Int32)) ∨ (¬ (((w101_made + v5)) < (9223372036854775807 : Int64)) ∨ (¬ (False) ∨ (¬ (False) ∨ (¬ ((1 : Int32) = (0 : Int32)) ∨ (False))))))))))) ∨ (((((((w130_made + (1 : Int64))) - v14).toUInt64 >>> ((63 : Int32) &&& 0x3f).toInt64.toUInt64).toInt64)) = (0 : Int64))) Tg164.heap n0 Zz_8 F_94) hZ (hw _ (List.mem_of_getElem? (i := 74) rfl)) (hw _ (List.mem_of_getElem? (i := 3) rfl)) (by decide) (by decide)) qg274a qg274c (g := (mkF m 274 #[.val (.long q0), .second, .val (.long q1), .second, .val (.long q2), .second, .val (.int p3), .val (.int p4), .val (.long v5), .second, .val (.long v14), .second, .val (.long j39_s0), .second, .val (.int (own_b (¬ ((p3 &&& (2 : Int32)) = (0 : Int32))))), .val (.int (own_b (¬ ((p3 &&& (4 : Int32)) = (0 : Int32))))), .val (.int (own_b (¬ ((p3 &&& (8 : Int32)) = (0 : Int32))))), .val (.ref b84), .val (.int (own_b ((((((w130_made + (1 : Int64))) - v14).toUInt64 >>> ((63 : Int32) &&& 0x3f).toInt64.toUInt64).toInt64) = (0 : Int64)))), .val (.ref b150), .val (.int (own_b ((j39_s0 + (1 : Int64)) = v14))), .val (.long j205_s0), .second, .val (.long j224_s0), .second, .val (.int (own_b (((j39_s0 + (1 : Int64)) = v14) ∨ (¬ (¬ ((p3 &&& (8 : Int32)) = (0 : Int32)))))))] [(.ref b84)])) rfl (by rw [hml]; rfl) (Steps.refl _) (argsL := []) (rest := []) (lenOf own_pd3 rfl) rfl (by show 2 * 0 + _ ≤ _; exact Nat.le_of_eq rfl) (hb hby at_274) (fun _ _ => ⟨rfl, eg263, (by decide : 2 + 0 ≤ _), (by decide : 13 + 0 ≤ _)⟩)
  dsimp only [Pt.U, Pt.locs, Pt.cells, Pt.slots] at Xg274 lg274 yg274 zg274 stg274 hQg274
  subst lg274 yg274 zg274
  obtain ⟨rfl, Ng274q, eg274⟩ := hQg274
  have Ng274 := Fr.app Ng263 Ng274q
  refine own_st (fun _ k => stg274.trans k) ?_
  refine own_st (B := Tg274.setTop (mkF m 279 #[.val (.long q0), .second, .val (.long q1), .second, .val (.long q2), .second, .val (.int p3), .val (.int p4), .val (.long v5), .second, .val (.long v14), .second, .val (.long j39_s0), .second, .val (.int (own_b (¬ ((p3 &&& (2 : Int32)) = (0 : Int32))))), .val (.int (own_b (¬ ((p3 &&& (4 : Int32)) = (0 : Int32))))), .val (.int (own_b (¬ ((p3 &&& (8 : Int32)) = (0 : Int32))))), .val (.ref b84), .val (.int (own_b ((((((w130_made + (1 : Int64))) - v14).toUInt64 >>> ((63 : Int32) &&& 0x3f).toInt64.toUInt64).toInt64) = (0 : Int64)))), .val (.ref b150), .val (.int (own_b ((j39_s0 + (1 : Int64)) = v14))), .val (.long j205_s0), .second, .val (.long j224_s0), .second, .val (.int (own_b (((j39_s0 + (1 : Int64)) = v14) ∨ (¬ (¬ ((p3 &&& (8 : Int32)) = (0 : Int32)))))))] [(.int (own_b (((j39_s0 + (1 : Int64)) = v14) ∨ (¬ (¬ ((p3 &&& (8 : Int32)) = (0 : Int32))))))), (.int (own_b (((¬ (¬ ((p3 &&& (8 : Int32)) = (0 : Int32))) ∧ (¬ (((w122_made + j39_s0)) < v14) ∨ (¬ (False) ∨ (¬ (¬ ((p3 &&& (4 : Int32)) = (0 : Int32))) ∨ (¬ (p4 = (1 : Int32)) ∨ (¬ (((w101_made + v5)) < (9223372036854775807 : Int64)) ∨ (¬ (False) ∨ (¬ (False) ∨ (¬ ((1 : Int32) = (0 : Int32)) ∨ (False))))))))))) ∨ (((((((w130_made + (1 : Int64))) - v14).toUInt64 >>> ((63 : Int32) &&& 0x3f).toInt64.toUInt64).toInt64)) = (0 : Int64)))))])) (fun target kt => ?_) ?_
  · show Steps p.tables e below (Tg274.setTop (mkF m 277 #[.val (.long q0), .second, .val (.long q1), .second, .val (.long q2), .second, .val (.int p3), .val (.int p4), .val (.long v5), .second, .val (.long v14), .second, .val (.long j39_s0), .second, .val (.int (own_b (¬ ((p3 &&& (2 : Int32)) = (0 : Int32))))), .val (.int (own_b (¬ ((p3 &&& (4 : Int32)) = (0 : Int32))))), .val (.int (own_b (¬ ((p3 &&& (8 : Int32)) = (0 : Int32))))), .val (.ref b84), .val (.int (own_b ((((((w130_made + (1 : Int64))) - v14).toUInt64 >>> ((63 : Int32) &&& 0x3f).toInt64.toUInt64).toInt64) = (0 : Int64)))), .val (.ref b150), .val (.int (own_b ((j39_s0 + (1 : Int64)) = v14))), .val (.long j205_s0), .second, .val (.long j224_s0), .second, .val (.int (own_b (((j39_s0 + (1 : Int64)) = v14) ∨ (¬ (¬ ((p3 &&& (8 : Int32)) = (0 : Int32)))))))] [(.int (own_b (((¬ (¬ ((p3 &&& (8 : Int32)) = (0 : Int32))) ∧ (¬ (((w122_made + j39_s0)) < v14) ∨ (¬ (False) ∨ (¬ (¬ ((p3 &&& (4 : Int32)) = (0 : Int32))) ∨ (¬ (p4 = (1 : Int32)) ∨ (¬ (((w101_made + v5)) < (9223372036854775807 : Int64)) ∨ (¬ (False) ∨ (¬ (False) ∨ (¬ ((1 : Int32) = (0 : Int32)) ∨ (False))))))))))) ∨ (((((((w130_made + (1 : Int64))) - v14).toUInt64 >>> ((63 : Int32) &&& 0x3f).toInt64.toUInt64).toInt64)) = (0 : Int64)))))])) target
    refine XS.iload Xg274.here hx rfl (hb hby at_277) rfl ?_
    exact kt
  have c279 : (((¬ (¬ ((p3 &&& (8 : Int32)) = (0 : Int32))) ∧ (¬ (((w122_made + j39_s0)) < v14) ∨ (¬ (False) ∨ (¬ (¬ ((p3 &&& (4 : Int32)) = (0 : Int32))) ∨ (¬ (p4 = (1 : Int32)) ∨ (¬ (((w101_made + v5)) < (9223372036854775807 : Int64)) ∨ (¬ (False) ∨ (¬ (False) ∨ (¬ ((1 : Int32) = (0 : Int32)) ∨ (False))))))))))) ∨ (((((((w130_made + (1 : Int64))) - v14).toUInt64 >>> ((63 : Int32) &&& 0x3f).toInt64.toUInt64).toInt64)) = (0 : Int64))) ↔ (((j39_s0 + (1 : Int64)) = v14) ∨ (¬ (¬ ((p3 &&& (8 : Int32)) = (0 : Int32))))) := by
    rw [e2]
    rcases hS with ⟨hk, hs⟩ | ⟨hk, hs⟩
    · rw [hs]; simp [hk]
    · rw [hs]; simp [hk]
  refine own_st (B := Tg274.setTop (mkF m 284 #[.val (.long q0), .second, .val (.long q1), .second, .val (.long q2), .second, .val (.int p3), .val (.int p4), .val (.long v5), .second, .val (.long v14), .second, .val (.long j39_s0), .second, .val (.int (own_b (¬ ((p3 &&& (2 : Int32)) = (0 : Int32))))), .val (.int (own_b (¬ ((p3 &&& (4 : Int32)) = (0 : Int32))))), .val (.int (own_b (¬ ((p3 &&& (8 : Int32)) = (0 : Int32))))), .val (.ref b84), .val (.int (own_b ((((((w130_made + (1 : Int64))) - v14).toUInt64 >>> ((63 : Int32) &&& 0x3f).toInt64.toUInt64).toInt64) = (0 : Int64)))), .val (.ref b150), .val (.int (own_b ((j39_s0 + (1 : Int64)) = v14))), .val (.long j205_s0), .second, .val (.long j224_s0), .second, .val (.int (own_b (((j39_s0 + (1 : Int64)) = v14) ∨ (¬ (¬ ((p3 &&& (8 : Int32)) = (0 : Int32)))))))] [(.ref b150)])) (fun target kt => ?_) ?_
  · show Steps p.tables e below (Tg274.setTop (mkF m 279 #[.val (.long q0), .second, .val (.long q1), .second, .val (.long q2), .second, .val (.int p3), .val (.int p4), .val (.long v5), .second, .val (.long v14), .second, .val (.long j39_s0), .second, .val (.int (own_b (¬ ((p3 &&& (2 : Int32)) = (0 : Int32))))), .val (.int (own_b (¬ ((p3 &&& (4 : Int32)) = (0 : Int32))))), .val (.int (own_b (¬ ((p3 &&& (8 : Int32)) = (0 : Int32))))), .val (.ref b84), .val (.int (own_b ((((((w130_made + (1 : Int64))) - v14).toUInt64 >>> ((63 : Int32) &&& 0x3f).toInt64.toUInt64).toInt64) = (0 : Int64)))), .val (.ref b150), .val (.int (own_b ((j39_s0 + (1 : Int64)) = v14))), .val (.long j205_s0), .second, .val (.long j224_s0), .second, .val (.int (own_b (((j39_s0 + (1 : Int64)) = v14) ∨ (¬ (¬ ((p3 &&& (8 : Int32)) = (0 : Int32)))))))] [(.int (own_b (((j39_s0 + (1 : Int64)) = v14) ∨ (¬ (¬ ((p3 &&& (8 : Int32)) = (0 : Int32))))))), (.int (own_b (((¬ (¬ ((p3 &&& (8 : Int32)) = (0 : Int32))) ∧ (¬ (((w122_made + j39_s0)) < v14) ∨ (¬ (False) ∨ (¬ (¬ ((p3 &&& (4 : Int32)) = (0 : Int32))) ∨ (¬ (p4 = (1 : Int32)) ∨ (¬ (((w101_made + v5)) < (9223372036854775807 : Int64)) ∨ (¬ (False) ∨ (¬ (False) ∨ (¬ ((1 : Int32) = (0 : Int32)) ∨ (False))))))))))) ∨ (((((((w130_made + (1 : Int64))) - v14).toUInt64 >>> ((63 : Int32) &&& 0x3f).toInt64.toUInt64).toInt64)) = (0 : Int64)))))])) target
    refine XS.icmpNo Xg274.here hx rfl (hb hby at_279) rfl (teq (own_bb rfl rfl c279)).2 ?_
    show Steps p.tables e below (Tg274.setTop (mkF m 282 #[.val (.long q0), .second, .val (.long q1), .second, .val (.long q2), .second, .val (.int p3), .val (.int p4), .val (.long v5), .second, .val (.long v14), .second, .val (.long j39_s0), .second, .val (.int (own_b (¬ ((p3 &&& (2 : Int32)) = (0 : Int32))))), .val (.int (own_b (¬ ((p3 &&& (4 : Int32)) = (0 : Int32))))), .val (.int (own_b (¬ ((p3 &&& (8 : Int32)) = (0 : Int32))))), .val (.ref b84), .val (.int (own_b ((((((w130_made + (1 : Int64))) - v14).toUInt64 >>> ((63 : Int32) &&& 0x3f).toInt64.toUInt64).toInt64) = (0 : Int64)))), .val (.ref b150), .val (.int (own_b ((j39_s0 + (1 : Int64)) = v14))), .val (.long j205_s0), .second, .val (.long j224_s0), .second, .val (.int (own_b (((j39_s0 + (1 : Int64)) = v14) ∨ (¬ (¬ ((p3 &&& (8 : Int32)) = (0 : Int32)))))))] [])) target
    refine XS.aload Xg274.here hx rfl (hb hby at_282) rfl rfl ?_
    exact kt
  obtain ⟨Tg284, Xg284, eg284, stg284⟩ := getF Xg274 hx hZ hown (host := "") (Or.inl (hw _ (List.mem_of_getElem? (i := 75) rfl))) Via.refl eg274 F_87 (g := (mkF m 284 #[.val (.long q0), .second, .val (.long q1), .second, .val (.long q2), .second, .val (.int p3), .val (.int p4), .val (.long v5), .second, .val (.long v14), .second, .val (.long j39_s0), .second, .val (.int (own_b (¬ ((p3 &&& (2 : Int32)) = (0 : Int32))))), .val (.int (own_b (¬ ((p3 &&& (4 : Int32)) = (0 : Int32))))), .val (.int (own_b (¬ ((p3 &&& (8 : Int32)) = (0 : Int32))))), .val (.ref b84), .val (.int (own_b ((((((w130_made + (1 : Int64))) - v14).toUInt64 >>> ((63 : Int32) &&& 0x3f).toInt64.toUInt64).toInt64) = (0 : Int64)))), .val (.ref b150), .val (.int (own_b ((j39_s0 + (1 : Int64)) = v14))), .val (.long j205_s0), .second, .val (.long j224_s0), .second, .val (.int (own_b (((j39_s0 + (1 : Int64)) = v14) ∨ (¬ (¬ ((p3 &&& (8 : Int32)) = (0 : Int32)))))))] [(.ref b150)])) rfl rfl (hb hby at_284)
  refine own_st stg284 ?_
  refine own_st (B := Tg284.setTop (mkF m 295 #[.val (.long q0), .second, .val (.long q1), .second, .val (.long q2), .second, .val (.int p3), .val (.int p4), .val (.long v5), .second, .val (.long v14), .second, .val (.long j39_s0), .second, .val (.int (own_b (¬ ((p3 &&& (2 : Int32)) = (0 : Int32))))), .val (.int (own_b (¬ ((p3 &&& (4 : Int32)) = (0 : Int32))))), .val (.int (own_b (¬ ((p3 &&& (8 : Int32)) = (0 : Int32))))), .val (.ref b84), .val (.int (own_b ((((((w130_made + (1 : Int64))) - v14).toUInt64 >>> ((63 : Int32) &&& 0x3f).toInt64.toUInt64).toInt64) = (0 : Int64)))), .val (.ref b150), .val (.int (own_b ((j39_s0 + (1 : Int64)) = v14))), .val (.long j205_s0), .second, .val (.long j224_s0), .second, .val (.int (own_b (((j39_s0 + (1 : Int64)) = v14) ∨ (¬ (¬ ((p3 &&& (8 : Int32)) = (0 : Int32)))))))] [(.int (lcmpW w145_picks ((v5 + j39_s0) + (1 : Int64))))])) (fun target kt => ?_) ?_
  · show Steps p.tables e below (Tg284.setTop (mkF m 287 #[.val (.long q0), .second, .val (.long q1), .second, .val (.long q2), .second, .val (.int p3), .val (.int p4), .val (.long v5), .second, .val (.long v14), .second, .val (.long j39_s0), .second, .val (.int (own_b (¬ ((p3 &&& (2 : Int32)) = (0 : Int32))))), .val (.int (own_b (¬ ((p3 &&& (4 : Int32)) = (0 : Int32))))), .val (.int (own_b (¬ ((p3 &&& (8 : Int32)) = (0 : Int32))))), .val (.ref b84), .val (.int (own_b ((((((w130_made + (1 : Int64))) - v14).toUInt64 >>> ((63 : Int32) &&& 0x3f).toInt64.toUInt64).toInt64) = (0 : Int64)))), .val (.ref b150), .val (.int (own_b ((j39_s0 + (1 : Int64)) = v14))), .val (.long j205_s0), .second, .val (.long j224_s0), .second, .val (.int (own_b (((j39_s0 + (1 : Int64)) = v14) ∨ (¬ (¬ ((p3 &&& (8 : Int32)) = (0 : Int32)))))))] [(.long w145_picks)])) target
    refine XS.lload Xg284.here hx rfl (hb hby at_287) rfl ?_
    show Steps p.tables e below (Tg284.setTop (mkF m 289 #[.val (.long q0), .second, .val (.long q1), .second, .val (.long q2), .second, .val (.int p3), .val (.int p4), .val (.long v5), .second, .val (.long v14), .second, .val (.long j39_s0), .second, .val (.int (own_b (¬ ((p3 &&& (2 : Int32)) = (0 : Int32))))), .val (.int (own_b (¬ ((p3 &&& (4 : Int32)) = (0 : Int32))))), .val (.int (own_b (¬ ((p3 &&& (8 : Int32)) = (0 : Int32))))), .val (.ref b84), .val (.int (own_b ((((((w130_made + (1 : Int64))) - v14).toUInt64 >>> ((63 : Int32) &&& 0x3f).toInt64.toUInt64).toInt64) = (0 : Int64)))), .val (.ref b150), .val (.int (own_b ((j39_s0 + (1 : Int64)) = v14))), .val (.long j205_s0), .second, .val (.long j224_s0), .second, .val (.int (own_b (((j39_s0 + (1 : Int64)) = v14) ∨ (¬ (¬ ((p3 &&& (8 : Int32)) = (0 : Int32)))))))] [(.long v5), (.long w145_picks)])) target
    refine XS.lload Xg284.here hx rfl (hb hby at_289) rfl ?_
    show Steps p.tables e below (Tg284.setTop (mkF m 291 #[.val (.long q0), .second, .val (.long q1), .second, .val (.long q2), .second, .val (.int p3), .val (.int p4), .val (.long v5), .second, .val (.long v14), .second, .val (.long j39_s0), .second, .val (.int (own_b (¬ ((p3 &&& (2 : Int32)) = (0 : Int32))))), .val (.int (own_b (¬ ((p3 &&& (4 : Int32)) = (0 : Int32))))), .val (.int (own_b (¬ ((p3 &&& (8 : Int32)) = (0 : Int32))))), .val (.ref b84), .val (.int (own_b ((((((w130_made + (1 : Int64))) - v14).toUInt64 >>> ((63 : Int32) &&& 0x3f).toInt64.toUInt64).toInt64) = (0 : Int64)))), .val (.ref b150), .val (.int (own_b ((j39_s0 + (1 : Int64)) = v14))), .val (.long j205_s0), .second, .val (.long j224_s0), .second, .val (.int (own_b (((j39_s0 + (1 : Int64)) = v14) ∨ (¬ (¬ ((p3 &&& (8 : Int32)) = (0 : Int32)))))))] [(.long j39_s0), (.long v5), (.long w145_picks)])) target
    refine XS.ladd Xg284.here hx rfl (hb hby at_291) rfl ?_
    show Steps p.tables e below (Tg284.setTop (mkF m 292 #[.val (.long q0), .second, .val (.long q1), .second, .val (.long q2), .second, .val (.int p3), .val (.int p4), .val (.long v5), .second, .val (.long v14), .second, .val (.long j39_s0), .second, .val (.int (own_b (¬ ((p3 &&& (2 : Int32)) = (0 : Int32))))), .val (.int (own_b (¬ ((p3 &&& (4 : Int32)) = (0 : Int32))))), .val (.int (own_b (¬ ((p3 &&& (8 : Int32)) = (0 : Int32))))), .val (.ref b84), .val (.int (own_b ((((((w130_made + (1 : Int64))) - v14).toUInt64 >>> ((63 : Int32) &&& 0x3f).toInt64.toUInt64).toInt64) = (0 : Int64)))), .val (.ref b150), .val (.int (own_b ((j39_s0 + (1 : Int64)) = v14))), .val (.long j205_s0), .second, .val (.long j224_s0), .second, .val (.int (own_b (((j39_s0 + (1 : Int64)) = v14) ∨ (¬ (¬ ((p3 &&& (8 : Int32)) = (0 : Int32)))))))] [(.long (v5 + j39_s0)), (.long w145_picks)])) target
    refine XS.lconst Xg284.here hx rfl (hb hby at_292) ?_
    show Steps p.tables e below (Tg284.setTop (mkF m 293 #[.val (.long q0), .second, .val (.long q1), .second, .val (.long q2), .second, .val (.int p3), .val (.int p4), .val (.long v5), .second, .val (.long v14), .second, .val (.long j39_s0), .second, .val (.int (own_b (¬ ((p3 &&& (2 : Int32)) = (0 : Int32))))), .val (.int (own_b (¬ ((p3 &&& (4 : Int32)) = (0 : Int32))))), .val (.int (own_b (¬ ((p3 &&& (8 : Int32)) = (0 : Int32))))), .val (.ref b84), .val (.int (own_b ((((((w130_made + (1 : Int64))) - v14).toUInt64 >>> ((63 : Int32) &&& 0x3f).toInt64.toUInt64).toInt64) = (0 : Int64)))), .val (.ref b150), .val (.int (own_b ((j39_s0 + (1 : Int64)) = v14))), .val (.long j205_s0), .second, .val (.long j224_s0), .second, .val (.int (own_b (((j39_s0 + (1 : Int64)) = v14) ∨ (¬ (¬ ((p3 &&& (8 : Int32)) = (0 : Int32)))))))] [(.long (1 : Int64)), (.long (v5 + j39_s0)), (.long w145_picks)])) target
    refine XS.ladd Xg284.here hx rfl (hb hby at_293) rfl ?_
    show Steps p.tables e below (Tg284.setTop (mkF m 294 #[.val (.long q0), .second, .val (.long q1), .second, .val (.long q2), .second, .val (.int p3), .val (.int p4), .val (.long v5), .second, .val (.long v14), .second, .val (.long j39_s0), .second, .val (.int (own_b (¬ ((p3 &&& (2 : Int32)) = (0 : Int32))))), .val (.int (own_b (¬ ((p3 &&& (4 : Int32)) = (0 : Int32))))), .val (.int (own_b (¬ ((p3 &&& (8 : Int32)) = (0 : Int32))))), .val (.ref b84), .val (.int (own_b ((((((w130_made + (1 : Int64))) - v14).toUInt64 >>> ((63 : Int32) &&& 0x3f).toInt64.toUInt64).toInt64) = (0 : Int64)))), .val (.ref b150), .val (.int (own_b ((j39_s0 + (1 : Int64)) = v14))), .val (.long j205_s0), .second, .val (.long j224_s0), .second, .val (.int (own_b (((j39_s0 + (1 : Int64)) = v14) ∨ (¬ (¬ ((p3 &&& (8 : Int32)) = (0 : Int32)))))))] [(.long ((v5 + j39_s0) + (1 : Int64))), (.long w145_picks)])) target
    refine XS.lcmp Xg284.here hx rfl (hb hby at_294) rfl ?_
    exact kt
  have c295 : w145_picks = ((v5 + j39_s0) + (1 : Int64)) := by
    rw [hw145_picks, p2]
  refine own_st (B := Tg284.setTop (mkF m 303 #[.val (.long q0), .second, .val (.long q1), .second, .val (.long q2), .second, .val (.int p3), .val (.int p4), .val (.long v5), .second, .val (.long v14), .second, .val (.long j39_s0), .second, .val (.int (own_b (¬ ((p3 &&& (2 : Int32)) = (0 : Int32))))), .val (.int (own_b (¬ ((p3 &&& (4 : Int32)) = (0 : Int32))))), .val (.int (own_b (¬ ((p3 &&& (8 : Int32)) = (0 : Int32))))), .val (.ref b84), .val (.int (own_b ((((((w130_made + (1 : Int64))) - v14).toUInt64 >>> ((63 : Int32) &&& 0x3f).toInt64.toUInt64).toInt64) = (0 : Int64)))), .val (.ref b150), .val (.int (own_b ((j39_s0 + (1 : Int64)) = v14))), .val (.long j205_s0), .second, .val (.long j224_s0), .second, .val (.int (own_b (((j39_s0 + (1 : Int64)) = v14) ∨ (¬ (¬ ((p3 &&& (8 : Int32)) = (0 : Int32)))))))] [(.int (1 : Int32))])) (fun target kt => ?_) ?_
  · show Steps p.tables e below (Tg284.setTop (mkF m 295 #[.val (.long q0), .second, .val (.long q1), .second, .val (.long q2), .second, .val (.int p3), .val (.int p4), .val (.long v5), .second, .val (.long v14), .second, .val (.long j39_s0), .second, .val (.int (own_b (¬ ((p3 &&& (2 : Int32)) = (0 : Int32))))), .val (.int (own_b (¬ ((p3 &&& (4 : Int32)) = (0 : Int32))))), .val (.int (own_b (¬ ((p3 &&& (8 : Int32)) = (0 : Int32))))), .val (.ref b84), .val (.int (own_b ((((((w130_made + (1 : Int64))) - v14).toUInt64 >>> ((63 : Int32) &&& 0x3f).toInt64.toUInt64).toInt64) = (0 : Int64)))), .val (.ref b150), .val (.int (own_b ((j39_s0 + (1 : Int64)) = v14))), .val (.long j205_s0), .second, .val (.long j224_s0), .second, .val (.int (own_b (((j39_s0 + (1 : Int64)) = v14) ∨ (¬ (¬ ((p3 &&& (8 : Int32)) = (0 : Int32)))))))] [(.int (lcmpW w145_picks ((v5 + j39_s0) + (1 : Int64))))])) target
    refine XS.ifNo Xg284.here hx rfl (hb hby at_295) rfl ((if0 _ _).trans (teq ((lw_eq w145_picks ((v5 + j39_s0) + (1 : Int64))).mpr c295)).2) ?_
    show Steps p.tables e below (Tg284.setTop (mkF m 298 #[.val (.long q0), .second, .val (.long q1), .second, .val (.long q2), .second, .val (.int p3), .val (.int p4), .val (.long v5), .second, .val (.long v14), .second, .val (.long j39_s0), .second, .val (.int (own_b (¬ ((p3 &&& (2 : Int32)) = (0 : Int32))))), .val (.int (own_b (¬ ((p3 &&& (4 : Int32)) = (0 : Int32))))), .val (.int (own_b (¬ ((p3 &&& (8 : Int32)) = (0 : Int32))))), .val (.ref b84), .val (.int (own_b ((((((w130_made + (1 : Int64))) - v14).toUInt64 >>> ((63 : Int32) &&& 0x3f).toInt64.toUInt64).toInt64) = (0 : Int64)))), .val (.ref b150), .val (.int (own_b ((j39_s0 + (1 : Int64)) = v14))), .val (.long j205_s0), .second, .val (.long j224_s0), .second, .val (.int (own_b (((j39_s0 + (1 : Int64)) = v14) ∨ (¬ (¬ ((p3 &&& (8 : Int32)) = (0 : Int32)))))))] [])) target
    refine XS.iconst Xg284.here hx rfl (hb hby at_298) ?_
    show Steps p.tables e below (Tg284.setTop (mkF m 299 #[.val (.long q0), .second, .val (.long q1), .second, .val (.long q2), .second, .val (.int p3), .val (.int p4), .val (.long v5), .second, .val (.long v14), .second, .val (.long j39_s0), .second, .val (.int (own_b (¬ ((p3 &&& (2 : Int32)) = (0 : Int32))))), .val (.int (own_b (¬ ((p3 &&& (4 : Int32)) = (0 : Int32))))), .val (.int (own_b (¬ ((p3 &&& (8 : Int32)) = (0 : Int32))))), .val (.ref b84), .val (.int (own_b ((((((w130_made + (1 : Int64))) - v14).toUInt64 >>> ((63 : Int32) &&& 0x3f).toInt64.toUInt64).toInt64) = (0 : Int64)))), .val (.ref b150), .val (.int (own_b ((j39_s0 + (1 : Int64)) = v14))), .val (.long j205_s0), .second, .val (.long j224_s0), .second, .val (.int (own_b (((j39_s0 + (1 : Int64)) = v14) ∨ (¬ (¬ ((p3 &&& (8 : Int32)) = (0 : Int32)))))))] [(.int (1 : Int32))])) target
    refine XS.goto Xg284.here hx rfl (pc0 := 299) (pc' := 303) rfl (hb hby at_299) (by decide) (by decide) ?_
    exact kt
  obtain ⟨fs, hr, hrun, hended, hW, hsame⟩ := Xg284.leave (v := some (.int (1 : Int32))) (fun h => by rw [Bd.returns] at h; cases h)
  have hend : Steps p.tables e below (Tg284.setTop (mkF m 303 #[.val (.long q0), .second, .val (.long q1), .second, .val (.long q2), .second, .val (.int p3), .val (.int p4), .val (.long v5), .second, .val (.long v14), .second, .val (.long j39_s0), .second, .val (.int (own_b (¬ ((p3 &&& (2 : Int32)) = (0 : Int32))))), .val (.int (own_b (¬ ((p3 &&& (4 : Int32)) = (0 : Int32))))), .val (.int (own_b (¬ ((p3 &&& (8 : Int32)) = (0 : Int32))))), .val (.ref b84), .val (.int (own_b ((((((w130_made + (1 : Int64))) - v14).toUInt64 >>> ((63 : Int32) &&& 0x3f).toInt64.toUInt64).toInt64) = (0 : Int64)))), .val (.ref b150), .val (.int (own_b ((j39_s0 + (1 : Int64)) = v14))), .val (.long j205_s0), .second, .val (.long j224_s0), .second, .val (.int (own_b (((j39_s0 + (1 : Int64)) = v14) ∨ (¬ (¬ ((p3 &&& (8 : Int32)) = (0 : Int32)))))))] [(.int (1 : Int32))])) (Tg284.setFrames fs) := by
    exact retN Xg284 hx (t := .boolean) Bd.returns (by simp) (hb hby at_303) hr
  refine own_fin hend ⟨_, hrun, hended, _, _, rfl, ?_, ⟨_, rfl⟩, hW, hsame.mono (by decide) (by decide)⟩
  show own_Q0 Z q0 q1 q2 p3 p4 h0 n0 _ Tg284.heap _
  rw [eg284]
  exact ⟨rfl, Ng274⟩
set_option maxRecDepth 65536 in
set_option maxHeartbeats 40000000 in
theorem own_comes_1 {Post : Tables → Env → Array Value → State → Outcome → State → Prop} (hpost : ∀ tb e args s v u, (limb_1_1.after args s (.returned v) u = true ∧ limb_1_2.after args s (.returned v) u = true ∧ True) → FrameEnd s (.returned v) u (Jvm.fieldLocs frame_1_writes args s ++ Jvm.arrayLocs frame_1_arrays args s ++ Jvm.staticLocs frame_1_statics s) 16 128 → Post tb e args s (.returned v) u) :
    ArmFor flags0 classFile x code maxLocals ret World_1 tables_1 room_1 Calls_1 rest_1 Pre_1 Post := by
  intro l hfl _ _ p e ha hc hk s m args below hf hA hF happ hP
  obtain ⟨hcalls, hrest, hpre⟩ := hP
  obtain ⟨-, -, -, hnamed, -, -, -, hat⟩ := (Spec.applies_iff hf).mp happ
  obtain ⟨hg, hn⟩ := and_e (Cond.before_iff.mp (show (Jvm.Cond.and given_1 narrow_1).before args s = true from hpre))
  obtain ⟨g1, g2⟩ := and_e hg
  obtain ⟨g3, g4⟩ := and_e g2
  obtain ⟨g5, g6⟩ := and_e g4
  obtain ⟨g7, g8⟩ := and_e g6
  obtain ⟨g9, g10⟩ := and_e g8
  obtain ⟨w0, w1, w2, w3, w4, rfl⟩ : ∃ w0 w1 w2 w3 w4 : Value, args = #[w0, w1, w2, w3, w4] := by
    have hs : args.size = 5 := by simpa [Cond.value, given_1] using g1
    obtain ⟨L⟩ := args
    match L, hs with
    | [w0, w1, w2, w3, w4], _ => exact ⟨w0, w1, w2, w3, w4, rfl⟩
  have hw := fun d (hd : d ∈ tables_1) => atoms_spec (ws := Jvm.Cond.code x code maxLocals ret :: tables_1) hat d (List.mem_cons_of_mem _ hd)
  obtain ⟨i0, ei0⟩ := isL_v g3
  obtain rfl : w0 = (.long i0) := Option.some.inj ei0
  obtain ⟨i1, ei1⟩ := isL_v g5
  obtain rfl : w1 = (.long i1) := Option.some.inj ei1
  obtain ⟨i2, ei2⟩ := isL_v g7
  obtain rfl : w2 = (.long i2) := Option.some.inj ei2
  obtain ⟨i3, ei3⟩ := is_v g9
  obtain rfl : w3 = (.int i3) := Option.some.inj ei3
  obtain ⟨i4, ei4⟩ := is_v g10
  obtain rfl : w4 = (.int i4) := Option.some.inj ei4
  obtain ⟨n, o, h1, h2, h3, _, L, rfl, ⟨rfl, N⟩, hq⟩ := own_rm0 l s _ hw tables_1 i0 i1 i2 i3 i4 s.heap s.heap.size (Nat.le_refl _) p e ha hc hk s m _ below hf ((Spec.applies_iff_loose hf).mp happ).1 ⟨rfl, State.Warmed39.refl s, rfl⟩ trivial
  refine ⟨n, _, h1, h2, h3, hpost _ _ _ _ _ _ ⟨Cond.after_iff.mpr rfl, Cond.after_iff.mpr (eq_i res_at (Term.int_eval (1)) rfl), trivial⟩ ⟨hq.1, hq.2.1, (hq.2.2.sift fun y hy => Or.inr (N y hy)).mono (by decide) (by decide)⟩⟩
theorem main_1_1 : Claimed_1_1 := own_comes_1 fun _ _ _ _ _ _ h hF => ⟨h.1, hF⟩
theorem main_1_2 : Claimed_1_2 := own_comes_1 fun _ _ _ _ _ _ h hF => ⟨h.2.1, hF⟩
end Jvm.Pilot.@@N@@
namespace Jvm.Pilot.@@N@@
open Jvm Jvm.ClassFile Sem Op Lib Jvm.Free Jvm.Stand Jvm.Pilot.@@N@@.Jvm.D
/-! MADE BY PROGRAM (witnessworld.py) out of the Statement's table words and the real class files: 10 classes; the members and pool entries that the words name. The judged class is class 1, her method 1. -/
namespace start1
open Jvm.ClassFile
def u (s : String) : CpInfo := .utf8 (stringToUtf16 s)
/-- a pool by its gaps: so many unusable entries, then the entry; so many at the end -/
def gap : Nat → List CpInfo → List CpInfo
  | 0, r => r
  | n + 1, r => .unusable :: gap n r
def poolList (es : List (Nat × CpInfo)) (last : Nat) : List CpInfo := es.foldr (fun e r => gap e.1 (e.2 :: r)) (gap last [])
def pool (es : List (Nat × CpInfo)) (last : Nat) : Array CpInfo := ⟨poolList es last⟩
def fileOf (pool : Array CpInfo) (this : Nat) (attrs : Array Attribute := #[]) (ms : Array MethodInfo := #[]) (fl : Nat := 33) (sup : Nat := 0) (ifs : Array Nat := #[]) (fds : Array FieldInfo := #[]) : ClassFile where
  minorVersion := 0
  majorVersion := 65
  constantPool := pool
  accessFlags := fl
  thisClass := this
  superClass := sup
  interfaces := ifs
  fields := fds
  methods := ms
  attributes := attrs
def plain (name : String) (sup : Option ClassId) : Class where
  name := name
  kind := .ordinary
  loader := none
  accessFlags := 33
  super := sup
  interfaces := #[]
  cf := none
  fields := #[]
  methods := #[]
  instanceTypes := #[]
  staticTypes := #[]
  resolved := #[]
  callSites := []
  init := .initialized
  statics := none
  mirror := none

def pool0 : Array CpInfo := pool [(5, u "<init>"), (0, u "()V"), (1, .class_ 10), (1, u "java/lang/Object")] 113

def k0c0 : Code := { maxStack := 0, maxLocals := 1, code := object_method_1_code, exceptionTable := #[], attributes := #[] }
def k0m0 : Method := { name := "<init>", desc := "()V", sig := { parameters := [], returnType := none }, accessFlags := 1, code := some k0c0 }
/-- java/lang/Object -/
def k0 : Class := { plain "java/lang/Object" none with
  accessFlags := 33
  interfaces := #[]
  cf := some (fileOf pool0 8 #[] #[{ accessFlags := 1, nameIndex := 5, descriptorIndex := 6, attributes := #[] }] 33 0 #[] #[])
  fields := #[]
  methods := #[k0m0]
  instanceTypes := #[]
  staticTypes := #[]
  resolved := Array.replicate 124 none
  statics := none }

def pool1 : Array CpInfo := pool [(2, .class_ 4), (0, .nameAndType 5 6), (0, u "java/lang/Object"), (0, u "<init>"), (0, u "()V"), (0, .long 2305843009213693951), (1, .class_ 10), (0, u "com/example/evenkeel/evenkeel/FullCycles"), (0, .methodref 9 3), (2, .long 9223372036854775807), (1, .methodref 9 17), (0, .nameAndType 18 19), (0, u "enter"), (0, u "(ZZJI)Z"), (0, .methodref 9 21), (0, .nameAndType 22 23), (0, u "skip"), (0, u "(J)V"), (0, .methodref 9 25), (0, .nameAndType 26 6), (0, u "giveUp"), (0, .methodref 9 28), (0, .nameAndType 29 30), (0, u "picked"), (0, u "()Z"), (0, .class_ 32), (0, u "com/example/evenkeel/evenkeel/CurrentValue"), (0, .methodref 31 3), (0, .methodref 9 35), (0, .nameAndType 36 37), (0, u "tookPart"), (0, u "(Lcom/example/evenkeel/evenkeel/CurrentValue;I)V"), (0, .long 2), (1, .methodref 9 41), (0, .nameAndType 42 43), (0, u "cycle"), (0, u "()J"), (0, .methodref 9 45), (0, .nameAndType 46 43), (0, u "left"), (0, .methodref 9 48), (0, .nameAndType 49 30), (0, u "holds"), (0, .fieldref 31 51), (0, .nameAndType 52 53), (0, u "seen"), (0, u "J"), (0, .class_ 55), (0, u "com/example/evenkeel/evenkeel/FullCyclesPickedPinLaw"), (2, u "law"), (0, u "(JJJII)Z")] 3

def k1m0 : Method := { name := "<init>", desc := "()V", sig := { parameters := [], returnType := none }, accessFlags := 1, code := none }
def k1c1 : Code := { maxStack := 6, maxLocals := 26, code := code, exceptionTable := #[], attributes := #[] }
def k1m1 : Method := { name := "law", desc := "(JJJII)Z", sig := { parameters := [.long, .long, .long, .int, .int], returnType := some .boolean }, accessFlags := 9, code := some k1c1 }
/-- com/example/evenkeel/evenkeel/FullCyclesPickedPinLaw -/
def k1 : Class := { plain "com/example/evenkeel/evenkeel/FullCyclesPickedPinLaw" (some 0) with
  accessFlags := 49
  interfaces := #[]
  cf := some (fileOf pool1 54 #[] #[{ accessFlags := 1, nameIndex := 5, descriptorIndex := 6, attributes := #[] }, { accessFlags := 9, nameIndex := 58, descriptorIndex := 59, attributes := #[] }] 49 2 #[] #[])
  fields := #[]
  methods := #[k1m0, k1m1]
  instanceTypes := #[]
  staticTypes := #[]
  resolved := Array.replicate 63 none
  statics := none }

def pool2 : Array CpInfo := pool [(1, .methodref 2 3), (0, .class_ 4), (0, .nameAndType 5 6), (0, u "java/lang/Object"), (0, u "<init>"), (0, u "()V"), (0, .fieldref 8 9), (0, .class_ 10), (0, .nameAndType 11 12), (0, u "com/example/evenkeel/evenkeel/CurrentValue"), (0, u "seen"), (0, u "J"), (0, .fieldref 14 15), (0, .class_ 16), (0, .nameAndType 17 12), (0, u "com/example/evenkeel/evenkeel/FullCycles"), (0, u "picks"), (0, .fieldref 8 19), (0, .nameAndType 20 21), (0, u "seenWeight"), (0, u "I"), (0, .fieldref 14 23), (0, .nameAndType 24 25), (0, u "steady"), (0, u "Z"), (0, .fieldref 14 27), (0, .nameAndType 28 21), (0, u "taking"), (0, .methodref 14 30), (0, .nameAndType 31 32), (0, u "begin"), (0, u "(J)V"), (0, .fieldref 14 34), (0, .nameAndType 35 12), (0, u "total"), (0, .fieldref 14 37), (0, .nameAndType 38 25), (0, u "holding"), (0, .fieldref 14 40), (0, .nameAndType 41 12), (0, u "began"), (0, .fieldref 14 43), (0, .nameAndType 44 12), (0, u "made"), (5, u "tookPart"), (0, u "(Lcom/example/evenkeel/evenkeel/CurrentValue;I)V"), (0, u "enter"), (0, u "(ZZJI)Z"), (0, u "holds"), (0, u "()Z"), (4, u "cycle"), (0, u "()J"), (0, u "left"), (0, u "skip"), (0, u "giveUp"), (0, u "picked")] 2

def k2c0 : Code := { maxStack := 1, maxLocals := 1, code := prog_34_method_1_code, exceptionTable := #[], attributes := #[] }
def k2m0 : Method := { name := "<init>", desc := "()V", sig := { parameters := [], returnType := none }, accessFlags := 0, code := some k2c0 }
def k2c1 : Code := { maxStack := 3, maxLocals := 3, code := prog_34_method_3_code, exceptionTable := #[], attributes := #[] }
def k2m1 : Method := { name := "tookPart", desc := "(Lcom/example/evenkeel/evenkeel/CurrentValue;I)V", sig := { parameters := [(.object "com/example/evenkeel/evenkeel/CurrentValue"), .int], returnType := none }, accessFlags := 0, code := some k2c1 }
def k2c2 : Code := { maxStack := 5, maxLocals := 6, code := prog_34_method_4_code, exceptionTable := #[], attributes := #[] }
def k2m2 : Method := { name := "enter", desc := "(ZZJI)Z", sig := { parameters := [.boolean, .boolean, .long, .int], returnType := some .boolean }, accessFlags := 0, code := some k2c2 }
def k2c3 : Code := { maxStack := 1, maxLocals := 1, code := prog_34_method_5_code, exceptionTable := #[], attributes := #[] }
def k2m3 : Method := { name := "holds", desc := "()Z", sig := { parameters := [], returnType := some .boolean }, accessFlags := 0, code := some k2c3 }
def k2c4 : Code := { maxStack := 2, maxLocals := 1, code := prog_34_method_8_code, exceptionTable := #[], attributes := #[] }
def k2m4 : Method := { name := "cycle", desc := "()J", sig := { parameters := [], returnType := some .long }, accessFlags := 0, code := some k2c4 }
def k2c5 : Code := { maxStack := 4, maxLocals := 1, code := prog_34_method_9_code, exceptionTable := #[], attributes := #[] }
def k2m5 : Method := { name := "left", desc := "()J", sig := { parameters := [], returnType := some .long }, accessFlags := 0, code := some k2c5 }
def k2c6 : Code := { maxStack := 5, maxLocals := 3, code := prog_34_method_10_code, exceptionTable := #[], attributes := #[] }
def k2m6 : Method := { name := "skip", desc := "(J)V", sig := { parameters := [.long], returnType := none }, accessFlags := 0, code := some k2c6 }
def k2c7 : Code := { maxStack := 2, maxLocals := 1, code := prog_34_method_11_code, exceptionTable := #[], attributes := #[] }
def k2m7 : Method := { name := "giveUp", desc := "()V", sig := { parameters := [], returnType := none }, accessFlags := 0, code := some k2c7 }
def k2c8 : Code := { maxStack := 9, maxLocals := 3, code := prog_34_method_12_code, exceptionTable := #[], attributes := #[] }
def k2m8 : Method := { name := "picked", desc := "()Z", sig := { parameters := [], returnType := some .boolean }, accessFlags := 0, code := some k2c8 }
def k2c9 : Code := { maxStack := 3, maxLocals := 3, code := prog_34_method_13_code, exceptionTable := #[], attributes := #[] }
def k2m9 : Method := { name := "begin", desc := "(J)V", sig := { parameters := [.long], returnType := none }, accessFlags := 2, code := some k2c9 }
/-- com/example/evenkeel/evenkeel/FullCycles -/
def k2 : Class := { plain "com/example/evenkeel/evenkeel/FullCycles" (some 0) with
  accessFlags := 48
  interfaces := #[]
  cf := some (fileOf pool2 14 #[] #[{ accessFlags := 0, nameIndex := 5, descriptorIndex := 6, attributes := #[] }, { accessFlags := 0, nameIndex := 50, descriptorIndex := 51, attributes := #[] }, { accessFlags := 0, nameIndex := 52, descriptorIndex := 53, attributes := #[] }, { accessFlags := 0, nameIndex := 54, descriptorIndex := 55, attributes := #[] }, { accessFlags := 0, nameIndex := 60, descriptorIndex := 61, attributes := #[] }, { accessFlags := 0, nameIndex := 62, descriptorIndex := 61, attributes := #[] }, { accessFlags := 0, nameIndex := 63, descriptorIndex := 32, attributes := #[] }, { accessFlags := 0, nameIndex := 64, descriptorIndex := 6, attributes := #[] }, { accessFlags := 0, nameIndex := 65, descriptorIndex := 55, attributes := #[] }, { accessFlags := 2, nameIndex := 31, descriptorIndex := 32, attributes := #[] }] 48 2 #[] #[{ accessFlags := 2, nameIndex := 17, descriptorIndex := 12, attributes := #[] }, { accessFlags := 2, nameIndex := 24, descriptorIndex := 25, attributes := #[] }, { accessFlags := 2, nameIndex := 35, descriptorIndex := 12, attributes := #[] }, { accessFlags := 2, nameIndex := 28, descriptorIndex := 21, attributes := #[] }, { accessFlags := 2, nameIndex := 41, descriptorIndex := 12, attributes := #[] }, { accessFlags := 2, nameIndex := 44, descriptorIndex := 12, attributes := #[] }, { accessFlags := 2, nameIndex := 38, descriptorIndex := 25, attributes := #[] }])
  fields := #[{ name := "picks", type := .long, accessFlags := 2, slot := 0, constantValue := 0 }, { name := "steady", type := .boolean, accessFlags := 2, slot := 1, constantValue := 0 }, { name := "total", type := .long, accessFlags := 2, slot := 2, constantValue := 0 }, { name := "taking", type := .int, accessFlags := 2, slot := 3, constantValue := 0 }, { name := "began", type := .long, accessFlags := 2, slot := 4, constantValue := 0 }, { name := "made", type := .long, accessFlags := 2, slot := 5, constantValue := 0 }, { name := "holding", type := .boolean, accessFlags := 2, slot := 6, constantValue := 0 }]
  methods := #[k2m0, k2m1, k2m2, k2m3, k2m4, k2m5, k2m6, k2m7, k2m8, k2m9]
  instanceTypes := #[.long, .boolean, .long, .int, .long, .long, .boolean]
  staticTypes := #[]
  resolved := Array.replicate 68 none
  statics := none }

def pool3 : Array CpInfo := pool [(1, .methodref 2 3), (0, .class_ 4), (0, .nameAndType 5 6), (0, u "java/lang/Object"), (0, u "<init>"), (0, u "()V"), (0, .class_ 8), (0, u "com/example/evenkeel/evenkeel/CurrentValue"), (20, .class_ 30), (0, u "com/example/evenkeel/evenkeel/CurrentValue$ByMethod"), (11, u "UNITS_PER_CALL"), (0, u "J"), (1, u "value"), (0, u "ordered"), (0, u "Z"), (0, u "seen"), (0, u "seenWeight"), (0, u "I"), (0, u "cycle"), (0, u "taken")] 17

def k3c0 : Code := { maxStack := 1, maxLocals := 1, code := prog_13_method_1_code, exceptionTable := #[], attributes := #[] }
def k3m0 : Method := { name := "<init>", desc := "()V", sig := { parameters := [], returnType := none }, accessFlags := 0, code := some k3c0 }
/-- com/example/evenkeel/evenkeel/CurrentValue -/
def k3 : Class := { plain "com/example/evenkeel/evenkeel/CurrentValue" (some 0) with
  accessFlags := 48
  interfaces := #[]
  cf := some (fileOf pool3 7 #[.nestMembers #[29]] #[{ accessFlags := 0, nameIndex := 5, descriptorIndex := 6, attributes := #[] }] 48 2 #[] #[{ accessFlags := 24, nameIndex := 42, descriptorIndex := 43, attributes := #[] }, { accessFlags := 0, nameIndex := 45, descriptorIndex := 43, attributes := #[] }, { accessFlags := 0, nameIndex := 46, descriptorIndex := 47, attributes := #[] }, { accessFlags := 0, nameIndex := 48, descriptorIndex := 43, attributes := #[] }, { accessFlags := 0, nameIndex := 49, descriptorIndex := 50, attributes := #[] }, { accessFlags := 0, nameIndex := 51, descriptorIndex := 43, attributes := #[] }, { accessFlags := 0, nameIndex := 52, descriptorIndex := 50, attributes := #[] }])
  fields := #[{ name := "UNITS_PER_CALL", type := .long, accessFlags := 24, slot := 0, constantValue := 0 }, { name := "value", type := .long, accessFlags := 0, slot := 0, constantValue := 0 }, { name := "ordered", type := .boolean, accessFlags := 0, slot := 1, constantValue := 0 }, { name := "seen", type := .long, accessFlags := 0, slot := 2, constantValue := 0 }, { name := "seenWeight", type := .int, accessFlags := 0, slot := 3, constantValue := 0 }, { name := "cycle", type := .long, accessFlags := 0, slot := 4, constantValue := 0 }, { name := "taken", type := .int, accessFlags := 0, slot := 5, constantValue := 0 }]
  methods := #[k3m0]
  instanceTypes := #[.long, .boolean, .long, .int, .long, .int]
  staticTypes := #[.long]
  resolved := Array.replicate 70 none
  statics := none }

def pool4 : Array CpInfo := pool [(1, u "java/lang/Cloneable"), (0, .class_ 1), (0, u "java/lang/Object"), (0, .class_ 3)] 3

/-- java/lang/Cloneable -/
def k4 : Class := { plain "java/lang/Cloneable" (some 0) with
  accessFlags := 1537
  interfaces := #[]
  cf := some (fileOf pool4 2 #[] #[] 1537 4 #[] #[])
  fields := #[]
  methods := #[]
  instanceTypes := #[]
  staticTypes := #[]
  resolved := Array.replicate 8 none
  statics := none }

def pool5 : Array CpInfo := pool [(1, u "java/io/Serializable"), (0, .class_ 1), (0, u "java/lang/Object"), (0, .class_ 3)] 3

/-- java/io/Serializable -/
def k5 : Class := { plain "java/io/Serializable" (some 0) with
  accessFlags := 1537
  interfaces := #[]
  cf := some (fileOf pool5 2 #[] #[] 1537 4 #[] #[])
  fields := #[]
  methods := #[]
  instanceTypes := #[]
  staticTypes := #[]
  resolved := Array.replicate 8 none
  statics := none }

/-- the primitive byte -/
def k6 : Class := { plain "byte" none with kind := .primitive 'B', accessFlags := 0x411 }
/-- [B -/
def k7 : Class := { plain "[B" (some 0) with kind := .array 6 .byte, interfaces := #[4, 5], accessFlags := 1041 }

/-- the primitive int -/
def k8 : Class := { plain "int" none with kind := .primitive 'I', accessFlags := 0x411 }
/-- [I -/
def k9 : Class := { plain "[I" (some 0) with kind := .array 8 .int, interfaces := #[4, 5], accessFlags := 1041 }

def heap : Heap := #[]
def classes : Array Class := #[k0, k1, k2, k3, k4, k5, k6, k7, k8, k9]
def interned : List (Array UInt16 × Addr) := []
def slotsUsed : Nat := 0
def theMethod : MethodId := ⟨1, 1⟩
def args0 : Array Value := #[.long 3, .long 4, .long 5, .int 6, .int 7]
def aboutOver (below : List Frame) : State where
  vm := { classes := classes, interned := interned.toArray }
  heap := heap
  slotsUsed := slotsUsed
  threads := #[{ frames := .invoking theMethod args0 :: below }]
def below0 : List Frame := [.native { method := ⟨0, 0⟩, args := #[] }]
def about1 : State := aboutOver below0
def p0 : Program := .bare "" "" ""
def e0 : Env := launch0.env 0 0 0
theorem w_frames : about1.frames = Frame.invoking theMethod args0 :: below0 := rfl
set_option maxRecDepth 65536 in
theorem w_args : argsFit about1.vm theMethod args0 = true := by decide +kernel
set_option maxRecDepth 65536 in
theorem w_heap : heapFits about1 = true := by decide +kernel
set_option maxRecDepth 65536 in
theorem w_runnable : about1.curStatus? = some .runnable := by decide +kernel
set_option maxRecDepth 65536 in
theorem w_alone : about1.alone = true := by decide +kernel
set_option maxRecDepth 65536 in
theorem w_named : about1.methodNamed? x = some theMethod := by decide +kernel
set_option maxRecDepth 65536 in
theorem w_hears : about1.hears theMethod below0 = true := by decide +kernel
set_option maxRecDepth 65536 in
theorem w_ripe : about1.ripe theMethod args0 below0 = true := by decide +kernel
theorem w_running : about1.status = .running := rfl
set_option maxRecDepth 65536 in
theorem w_room : about1.hasRoom e0.platform room_1 = true :=
  launch0.hasRoom_least _ room_1 (by decide +kernel) (by decide +kernel) (by decide +kernel) (by decide +kernel) (by decide +kernel) (by decide +kernel)
theorem allAtoms_all (ts : List Jvm.Cond) (a : Array Jvm.Value) (st : Jvm.State) : (allAtoms ts).before a st = ts.all (fun c => c.before a st) := by
  induction ts with
  | nil => rfl
  | cons c t ih =>
    show (Jvm.Cond.and c (allAtoms t)).before a st = _
    rw [Jvm.Cond.before_and, ih, List.all_cons]
def words1 : List Jvm.Cond := Jvm.Cond.code x code maxLocals ret :: tables_1
/-- a 'code' word, met by the world's own term for the bytes: nothing is compared byte by byte -/
theorem code_word {y : MethodName} {bytes : ByteArray} {mx : Nat} {rt : Option FieldType} {a : Array Value} {s : State} {m : MethodId} {meth : Method} {c : Code} (h1 : s.methodNamed? y = some m) (h2 : s.vm.method? m = some meth) (h3 : meth.code = some c) (h4 : c.code = bytes)
    (h5 : (c.maxLocals == mx && c.exceptionTable.isEmpty && decide (c.maxStack ≤ mostOperands) && decide (meth.sig.returnType = rt) && !meth.locks && decide (parseMethodDescriptor y.desc = some meth.sig)) = true) : (Jvm.Cond.code y bytes mx rt).before a s = true := by
  simp only [Bool.and_eq_true, beq_iff_eq, Bool.not_eq_true', decide_eq_true_eq] at h5
  obtain ⟨⟨⟨⟨⟨g1, g2⟩, g3⟩, g4⟩, g5⟩, g6⟩ := h5
  simp [Cond.before, Cond.holds, Cond.value, h1, h2, h3, h4, g1, g2, g3, g4, g5, g6]
def isCode : Jvm.Cond → Bool
  | .code _ _ _ _ => true
  | _ => false
theorem all_split {L : List Jvm.Cond} {P : Jvm.Cond → Bool} (h1 : L.all (fun c => isCode c || P c) = true) (h2 : ∀ c ∈ L.filter isCode, P c = true) : L.all P = true := by
  refine List.all_eq_true.mpr fun c hc => ?_
  have h := List.all_eq_true.mp h1 c hc
  rcases Bool.eq_false_or_eq_true (isCode c) with hi | hi
  · exact h2 c (List.mem_filter.mpr ⟨hc, hi⟩)
  · simpa [hi] using h
set_option maxRecDepth 65536 in
theorem w_c0 : (Jvm.Cond.code x code maxLocals ret).before args0 about1 = true := code_word (m := ⟨1, 1⟩) (meth := k1m1) (c := k1c1) (by decide +kernel) rfl rfl rfl (by decide +kernel)
set_option maxRecDepth 65536 in
theorem w_c1 : (Jvm.Cond.code ({ cls := "com/example/evenkeel/evenkeel/FullCycles", name := "<init>", desc := "()V" } : Jvm.MethodName) prog_34_method_1_code (1 : Nat) (Option.none : Option Jvm.ClassFile.FieldType)).before args0 about1 = true := code_word (m := ⟨2, 0⟩) (meth := k2m0) (c := k2c0) (by decide +kernel) rfl rfl rfl (by decide +kernel)
set_option maxRecDepth 65536 in
theorem w_c2 : (Jvm.Cond.code ({ cls := "java/lang/Object", name := "<init>", desc := "()V" } : Jvm.MethodName) object_method_1_code (1 : Nat) (Option.none : Option Jvm.ClassFile.FieldType)).before args0 about1 = true := code_word (m := ⟨0, 0⟩) (meth := k0m0) (c := k0c0) (by decide +kernel) rfl rfl rfl (by decide +kernel)
set_option maxRecDepth 65536 in
theorem w_c3 : (Jvm.Cond.code ({ cls := "com/example/evenkeel/evenkeel/FullCycles", name := "enter", desc := "(ZZJI)Z" } : Jvm.MethodName) prog_34_method_4_code (6 : Nat) (Option.some Jvm.ClassFile.FieldType.boolean)).before args0 about1 = true := code_word (m := ⟨2, 2⟩) (meth := k2m2) (c := k2c2) (by decide +kernel) rfl rfl rfl (by decide +kernel)
set_option maxRecDepth 65536 in
theorem w_c4 : (Jvm.Cond.code ({ cls := "com/example/evenkeel/evenkeel/FullCycles", name := "begin", desc := "(J)V" } : Jvm.MethodName) prog_34_method_13_code (3 : Nat) (Option.none : Option Jvm.ClassFile.FieldType)).before args0 about1 = true := code_word (m := ⟨2, 9⟩) (meth := k2m9) (c := k2c9) (by decide +kernel) rfl rfl rfl (by decide +kernel)
set_option maxRecDepth 65536 in
theorem w_c5 : (Jvm.Cond.code ({ cls := "com/example/evenkeel/evenkeel/FullCycles", name := "skip", desc := "(J)V" } : Jvm.MethodName) prog_34_method_10_code (3 : Nat) (Option.none : Option Jvm.ClassFile.FieldType)).before args0 about1 = true := code_word (m := ⟨2, 6⟩) (meth := k2m6) (c := k2c6) (by decide +kernel) rfl rfl rfl (by decide +kernel)
set_option maxRecDepth 65536 in
theorem w_c6 : (Jvm.Cond.code ({ cls := "com/example/evenkeel/evenkeel/FullCycles", name := "picked", desc := "()Z" } : Jvm.MethodName) prog_34_method_12_code (3 : Nat) (Option.some Jvm.ClassFile.FieldType.boolean)).before args0 about1 = true := code_word (m := ⟨2, 8⟩) (meth := k2m8) (c := k2c8) (by decide +kernel) rfl rfl rfl (by decide +kernel)
set_option maxRecDepth 65536 in
theorem w_c7 : (Jvm.Cond.code ({ cls := "com/example/evenkeel/evenkeel/CurrentValue", name := "<init>", desc := "()V" } : Jvm.MethodName) prog_13_method_1_code (1 : Nat) (Option.none : Option Jvm.ClassFile.FieldType)).before args0 about1 = true := code_word (m := ⟨3, 0⟩) (meth := k3m0) (c := k3c0) (by decide +kernel) rfl rfl rfl (by decide +kernel)
set_option maxRecDepth 65536 in
theorem w_c8 : (Jvm.Cond.code ({ cls := "com/example/evenkeel/evenkeel/FullCycles", name := "tookPart", desc := "(Lcom/example/evenkeel/evenkeel/CurrentValue;I)V" } : Jvm.MethodName) prog_34_method_3_code (3 : Nat) (Option.none : Option Jvm.ClassFile.FieldType)).before args0 about1 = true := code_word (m := ⟨2, 1⟩) (meth := k2m1) (c := k2c1) (by decide +kernel) rfl rfl rfl (by decide +kernel)
set_option maxRecDepth 65536 in
theorem w_c9 : (Jvm.Cond.code ({ cls := "com/example/evenkeel/evenkeel/FullCycles", name := "cycle", desc := "()J" } : Jvm.MethodName) prog_34_method_8_code (1 : Nat) (Option.some Jvm.ClassFile.FieldType.long)).before args0 about1 = true := code_word (m := ⟨2, 4⟩) (meth := k2m4) (c := k2c4) (by decide +kernel) rfl rfl rfl (by decide +kernel)
set_option maxRecDepth 65536 in
theorem w_c10 : (Jvm.Cond.code ({ cls := "com/example/evenkeel/evenkeel/FullCycles", name := "left", desc := "()J" } : Jvm.MethodName) prog_34_method_9_code (1 : Nat) (Option.some Jvm.ClassFile.FieldType.long)).before args0 about1 = true := code_word (m := ⟨2, 5⟩) (meth := k2m5) (c := k2c5) (by decide +kernel) rfl rfl rfl (by decide +kernel)
set_option maxRecDepth 65536 in
theorem w_c11 : (Jvm.Cond.code ({ cls := "com/example/evenkeel/evenkeel/FullCycles", name := "holds", desc := "()Z" } : Jvm.MethodName) prog_34_method_5_code (1 : Nat) (Option.some Jvm.ClassFile.FieldType.boolean)).before args0 about1 = true := code_word (m := ⟨2, 3⟩) (meth := k2m3) (c := k2c3) (by decide +kernel) rfl rfl rfl (by decide +kernel)
set_option maxRecDepth 65536 in
theorem w_c12 : (Jvm.Cond.code ({ cls := "com/example/evenkeel/evenkeel/FullCycles", name := "giveUp", desc := "()V" } : Jvm.MethodName) prog_34_method_11_code (1 : Nat) (Option.none : Option Jvm.ClassFile.FieldType)).before args0 about1 = true := code_word (m := ⟨2, 7⟩) (meth := k2m7) (c := k2c7) (by decide +kernel) rfl rfl rfl (by decide +kernel)
def codes1 : List Jvm.Cond := [Jvm.Cond.code x code maxLocals ret, Jvm.Cond.code ({ cls := "com/example/evenkeel/evenkeel/FullCycles", name := "<init>", desc := "()V" } : Jvm.MethodName) prog_34_method_1_code (1 : Nat) (Option.none : Option Jvm.ClassFile.FieldType), Jvm.Cond.code ({ cls := "java/lang/Object", name := "<init>", desc := "()V" } : Jvm.MethodName) object_method_1_code (1 : Nat) (Option.none : Option Jvm.ClassFile.FieldType), Jvm.Cond.code ({ cls := "com/example/evenkeel/evenkeel/FullCycles", name := "enter", desc := "(ZZJI)Z" } : Jvm.MethodName) prog_34_method_4_code (6 : Nat) (Option.some Jvm.ClassFile.FieldType.boolean), Jvm.Cond.code ({ cls := "com/example/evenkeel/evenkeel/FullCycles", name := "begin", desc := "(J)V" } : Jvm.MethodName) prog_34_method_13_code (3 : Nat) (Option.none : Option Jvm.ClassFile.FieldType), Jvm.Cond.code ({ cls := "com/example/evenkeel/evenkeel/FullCycles", name := "skip", desc := "(J)V" } : Jvm.MethodName) prog_34_method_10_code (3 : Nat) (Option.none : Option Jvm.ClassFile.FieldType), Jvm.Cond.code ({ cls := "com/example/evenkeel/evenkeel/FullCycles", name := "picked", desc := "()Z" } : Jvm.MethodName) prog_34_method_12_code (3 : Nat) (Option.some Jvm.ClassFile.FieldType.boolean), Jvm.Cond.code ({ cls := "com/example/evenkeel/evenkeel/CurrentValue", name := "<init>", desc := "()V" } : Jvm.MethodName) prog_13_method_1_code (1 : Nat) (Option.none : Option Jvm.ClassFile.FieldType), Jvm.Cond.code ({ cls := "com/example/evenkeel/evenkeel/FullCycles", name := "tookPart", desc := "(Lcom/example/evenkeel/evenkeel/CurrentValue;I)V" } : Jvm.MethodName) prog_34_method_3_code (3 : Nat) (Option.none : Option Jvm.ClassFile.FieldType), Jvm.Cond.code ({ cls := "com/example/evenkeel/evenkeel/FullCycles", name := "cycle", desc := "()J" } : Jvm.MethodName) prog_34_method_8_code (1 : Nat) (Option.some Jvm.ClassFile.FieldType.long), Jvm.Cond.code ({ cls := "com/example/evenkeel/evenkeel/FullCycles", name := "left", desc := "()J" } : Jvm.MethodName) prog_34_method_9_code (1 : Nat) (Option.some Jvm.ClassFile.FieldType.long), Jvm.Cond.code ({ cls := "com/example/evenkeel/evenkeel/FullCycles", name := "holds", desc := "()Z" } : Jvm.MethodName) prog_34_method_5_code (1 : Nat) (Option.some Jvm.ClassFile.FieldType.boolean), Jvm.Cond.code ({ cls := "com/example/evenkeel/evenkeel/FullCycles", name := "giveUp", desc := "()V" } : Jvm.MethodName) prog_34_method_11_code (1 : Nat) (Option.none : Option Jvm.ClassFile.FieldType)]
set_option maxRecDepth 65536 in
theorem codes_eq : words1.filter isCode = codes1 := rfl
theorem w_codes : ∀ c ∈ words1.filter isCode, c.before args0 about1 = true := by
  rw [codes_eq]
  intro c hc
  simp only [codes1, List.mem_cons, List.not_mem_nil, or_false] at hc
  rcases hc with rfl | rfl | rfl | rfl | rfl | rfl | rfl | rfl | rfl | rfl | rfl | rfl | rfl
  · exact w_c0
  · exact w_c1
  · exact w_c2
  · exact w_c3
  · exact w_c4
  · exact w_c5
  · exact w_c6
  · exact w_c7
  · exact w_c8
  · exact w_c9
  · exact w_c10
  · exact w_c11
  · exact w_c12
set_option maxRecDepth 65536 in
theorem w_t1 : (words1.take 24).all (fun c => isCode c || c.before args0 about1) = true := by decide +kernel
set_option maxRecDepth 65536 in
theorem w_t2 : ((words1.drop 24).take 24).all (fun c => isCode c || c.before args0 about1) = true := by decide +kernel
set_option maxRecDepth 65536 in
theorem w_t3 : (((words1.drop 24).drop 24).take 24).all (fun c => isCode c || c.before args0 about1) = true := by decide +kernel
set_option maxRecDepth 65536 in
theorem w_t4 : (((words1.drop 24).drop 24).drop 24).all (fun c => isCode c || c.before args0 about1) = true := by decide +kernel
theorem w_tables : (allAtoms (Jvm.Cond.code x code maxLocals ret :: tables_1)).before args0 about1 = true := by
  rw [allAtoms_all]
  show words1.all (fun c => c.before args0 about1) = true
  refine all_split ?_ w_codes
  rw [← List.take_append_drop 24 words1, List.all_append, w_t1, ← List.take_append_drop 24 (words1.drop 24), List.all_append, w_t2, ← List.take_append_drop 24 ((words1.drop 24).drop 24), List.all_append, w_t3, w_t4]
  rfl
set_option maxRecDepth 65536 in
theorem w_case : (Jvm.Cond.and given_1 narrow_1).before args0 about1 = true := by decide +kernel
theorem w_applies : (headSpec (Jvm.Cond.code x code maxLocals ret :: tables_1) room_1).applies x e0.platform about1 = true :=
  (Spec.applies_iff w_frames).mpr ⟨w_running, w_runnable, w_alone, w_named, w_hears, w_ripe, w_room, w_tables⟩
theorem atStart : AtStart classFile x code maxLocals ret World_1 tables_1 room_1 Calls_1 rest_1 Pre_1 launch0 p0 e0 about1 theMethod args0 below0 :=
  ⟨lists_1, trivial, launch0.admits_env _ _ _, launch0.least_env, fairChoices_fair.cas, fairChoices_fair.clock, w_frames, w_args, w_heap, w_applies, trivial, trivial, w_case⟩
end start1
theorem witness_1 : WitnessClaimed_1 := ⟨start1.p0, start1.e0, start1.about1, start1.theMethod, start1.args0, start1.below0, start1.atStart⟩
end Jvm.Pilot.@@N@@
