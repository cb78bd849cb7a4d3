import JvmDerived
import JvmDerived.Pilot.@@N@@Statement
import JvmDerived.Pilot.@@N@@Code
set_option linter.unusedVariables false
set_option linter.unusedSimpArgs false
namespace Jvm.RoadKit
open Sem ClassFile Op Lib Jvm.Stand Jvm.Free Jvm.LawKit
section New
variable {p : Program} {l : Launch} {e : Env} {R : Room} {s : State} {m : MethodId} {args : Array Value} {below : List Frame} {meth : Method} {c : Code} {T : State} {locs : List Loc} {cells slots : Nat}
theorem retI (X : Stand p l e R s m args below meth c T locs cells slots) (hx : p.tables.exec = Jvm.exec) {pc : Nat} {Ls : Array Slot} {z : Int32} {rest : List Value} (hret : meth.sig.returnType = some .int) (hd : decode c.code pc = .ok (.ireturn, 1)) {fs : List Frame}
    (hl : ∀ (f : JFrame) (acts : List Action), f.method = m → f.locked = none → f.entered = [] → (doReturn e (T.setTop f) acts (some (.int z))).1 = T.setFrames fs) : Steps p.tables e below (T.setTop (mkF m pc Ls (.int z :: rest))) (T.setFrames fs) := by
  have hm' : T.vm.method? m = some meth := X.method'
  have hn : narrow .int (.int z) = .int z := rfl
  show Steps p.tables e below (T.setTop { method := m, pc := pc, locals := Ls, stack := _ :: rest, locked := none }) _
  jvm_step X.here [X.here.top, hx, hd, hm', hret, hn]
  first | (intro acts; rw [hl _ acts rfl rfl rfl]) | rw [hl _ _ rfl rfl rfl]
  exact Steps.refl _
end New
/-- from the state A the run comes to a state that P describes -/
def own_Lead (tb : Tables) (e : Env) (below : List Frame) (A : State) (P : State → Prop) : Prop := ∃ B, P B ∧ ∀ t, Steps tb e below B t → Steps tb e below A t
theorem own_st {tb : Tables} {e : Env} {below : List Frame} {A B : State} {P : State → Prop} (st : ∀ t, Steps tb e below B t → Steps tb e below A t) (h : own_Lead tb e below B P) : own_Lead tb e below A P := by
  obtain ⟨C, hp, hs⟩ := h
  exact ⟨C, hp, fun t k => st t (hs t k)⟩
theorem own_fin {tb : Tables} {e : Env} {below : List Frame} {A B : State} {P : State → Prop} (st : Steps tb e below A B) (h : P B) : own_Lead tb e below A P := ⟨B, h, fun t k => st.trans k⟩
theorem own_run {tb : Tables} {e : Env} {below : List Frame} {A : State} {K : State → Outcome → Prop} (h : own_Lead tb e below A (fun B => ∃ o, K B o)) : ∃ s₂ o, Steps tb e below A s₂ ∧ K s₂ o := by
  obtain ⟨B, ⟨o, hk⟩, st⟩ := h
  exact ⟨B, o, st B (Steps.refl _), hk⟩
/-- a boolean as an int -/
def own_b (P : Prop) [Decidable P] : Int32 := if P then 1 else 0
theorem own_b1 {P : Prop} [Decidable P] (h : P) : own_b P = 1 := if_pos h
theorem own_b0 {P : Prop} [Decidable P] (h : ¬ P) : own_b P = 0 := if_neg h
theorem own_bi {P Q : Prop} [Decidable P] [Decidable Q] (h : P ↔ Q) : own_b P = own_b Q := by
  by_cases hp : P
  · rw [own_b1 hp, own_b1 (h.mp hp)]
  · rw [own_b0 hp, own_b0 (fun q => hp (h.mpr q))]
theorem own_bn0 {P : Prop} [Decidable P] {x : Int32} (hx : x = own_b P) (h : P) : ¬ x = 0 := by rw [hx, own_b1 h]; decide
theorem own_b00 {P : Prop} [Decidable P] {x : Int32} (hx : x = own_b P) (h : ¬ P) : x = 0 := by rw [hx, own_b0 h]
theorem own_bb {P Q : Prop} [Decidable P] [Decidable Q] {x y : Int32} (hx : x = own_b P) (hy : y = own_b Q) (h : P ↔ Q) : x = y := by rw [hx, hy, own_bi h]
theorem own_bnar {P : Prop} [Decidable P] : nar .boolean (own_b P) = own_b P := by
  by_cases hp : P
  · rw [own_b1 hp]; decide
  · rw [own_b0 hp]; decide
theorem own_nar {P : Prop} [Decidable P] {x : Int32} (hx : x = own_b P) : nar .boolean x = own_b P := by rw [hx]; exact own_bnar
section Copy
variable {p : Program} {l : Launch} {e : Env} {R : Room} {s : State} {m : MethodId} {args : Array Value} {below : List Frame} {meth : Method} {c : Code} {T : State} {locs : List Loc} {cells slots : Nat} {Z : State} {h : Heap} {a b : Addr}
end Copy
section Cold
variable {p : Program} {l : Launch} {e : Env} {R : Room} {s : State} {vm0 : Vm} {m : MethodId} {args : Array Value} {below : List Frame} {meth : Method} {c : Code} {T : State} {locs : List Loc} {cells slots : Nat} {Z : State} {a0 : Array Value} {h : Heap}
end Cold
end Jvm.RoadKit
namespace Jvm.Pilot.@@N@@
open Jvm Jvm.ClassFile Sem Op Lib Jvm.Free Jvm.Stand Jvm.LawKit Jvm.RoadKit Bundle Jvm.Pilot.@@N@@.Jvm.D
theorem own_pn0 : plainName "java/lang/Record" = true := by first | (simp [plainName, overriddenIn]; done) | decide +kernel
theorem own_d2_0 : decode jdk_30_method_1_code 0 = .ok (.aload_n 0, 1) := by decide +kernel
theorem own_d2_1 : decode jdk_30_method_1_code 1 = .ok (.invokespecial 1, 3) := by decide +kernel
theorem own_d2_4 : decode jdk_30_method_1_code 4 = .ok (.return_, 1) := by decide +kernel
theorem own_ef2 (m : MethodId) (r0 : Addr) : entryFrame m #[(.ref r0)] 1 = mkF m 0 #[.val (.ref r0)] [] := by first | (simp [entryFrame, mkF, argsToLocals, Value.category]; done) | rfl
def own_Q2 (Z : State) (r0 : Addr) (h0 : Heap) (n0 : Nat) (v : Option Value) (h : Heap) (L : List Loc) : Prop := (v = none) ∧ (Fr n0 L) ∧ (h = h0)
set_option maxRecDepth 65536 in
set_option maxHeartbeats 40000000 in
theorem own_rm2 (l : Launch) (Z : State) (a0 : Array Value) (hw : ∀ d ∈ tables_1, d.before a0 Z = true) (ws : List Jvm.Cond) (r0 : Addr) (h0 : Heap) (n0 : Nat) (Z0 : n0 ≤ h0.size) :
    MetFree l (⟨"java/lang/Record", "<init>", "()V"⟩ : MethodName) (head1 (Jvm.Cond.code (⟨"java/lang/Record", "<init>", "()V"⟩ : MethodName) jdk_30_method_1_code 1 none :: ws) ({ frames := 1, cells := 0, slots := 0, locals := 12 } : Room)) (fun a U => a = #[(.ref r0)] ∧ Z.Warmed39 U.vm ∧ U.heap = h0) (fun _ _ _ _ _ => True) (fun _ U o U' => ∃ v L, o = .returned v ∧ own_Q2 Z r0 h0 n0 v U'.heap L ∧ FrameEnd U o U' L ({ frames := 1, cells := 0, slots := 0, locals := 12 } : Room).cells ({ frames := 1, cells := 0, slots := 0, locals := 12 } : Room).slots) := by
  refine MetFree.of_bodySF (plainFor_of_name own_pn0) hisR ?_
  intro p e s m args below meth c s₁ Bd hml0 hP hK
  obtain ⟨rfl, hZ, hh⟩ := hP
  have hx := Bd.exec
  have hby := Bd.bytes
  have hml : c.maxLocals = 1 := hml0
  have hown : s.vm.findClass "java/lang/Record" = some m.cls := findClass_of_methodNamed Bd.named
  have hnm := (name_of_methodNamed Bd.named Bd.method).1
  have X0 : Stand p l e ({ frames := 1, cells := 0, slots := 0, locals := 12 } : Room) s m #[(.ref r0)] below meth c s₁ [] 0 0 := Stand.of_body Bd
  have e0 : s₁.heap = h0 := by rw [← hh, Bd.state]; rfl
  have N0 := Fr.nil n0
  have pre0 : ∀ t, Steps p.tables e below (s₁.setTop (mkF m 0 #[.val (.ref r0)] [])) t → Steps p.tables e below (s₁.setTop (entryFrame m #[(.ref r0)] 1)) t := fun t k => castTop (own_ef2 m r0) k
  refine own_run (own_st pre0 ?_)
  refine own_st (B := s₁.setTop (mkF m 1 #[.val (.ref r0)] [(.ref r0)])) (fun target kt => ?_) ?_
  · show Steps p.tables e below (s₁.setTop (mkF m 0 #[.val (.ref r0)] [])) target
    refine XS.aloadN X0.here hx rfl (hb hby own_d2_0) rfl rfl ?_
    exact kt
  obtain ⟨Tg1, Xg1, eg1, stg1⟩ := initO X0 hx hZ hown (hw _ (List.mem_of_getElem? (i := 11) rfl)) (hw _ (List.mem_of_getElem? (i := 12) rfl)) (hw _ (List.mem_of_getElem? (i := 13) rfl)) e0 (g := (mkF m 1 #[.val (.ref r0)] [(.ref r0)])) rfl (by rw [hml]; rfl) rfl (hb hby own_d2_1) (by decide) (W := 0) (by show 2 * 0 + _ ≤ _; exact Nat.le_of_eq rfl) (by decide)
  refine own_st stg1 ?_
  obtain ⟨fs, hr, hrun, hended, hW, hsame⟩ := Xg1.leave (v := none) (fun _ => rfl)
  have hend : Steps p.tables e below (Tg1.setTop (mkF m 4 #[.val (.ref r0)] [])) (Tg1.setFrames fs) := by
    exact Xg1.returnOut hx Bd.returns (hb hby own_d2_4) hr
  refine own_fin hend ⟨_, hrun, hended, _, _, rfl, ?_, ⟨_, rfl⟩, hW, hsame.mono (by decide) (by decide)⟩
  show own_Q2 Z r0 h0 n0 _ Tg1.heap _
  rw [eg1]
  exact ⟨rfl, N0, rfl⟩
theorem own_pd0 : parseMethodDescriptor "()V" = some ⟨[], none⟩ := by decide +kernel
theorem own_pn1 : plainName "com/example/even_throttle/eventhrottle/Quota" = true := by first | (simp [plainName, overriddenIn]; done) | decide +kernel
theorem own_d1_0 : decode prog_6_method_1_code 0 = .ok (.aload_n 0, 1) := by decide +kernel
theorem own_d1_1 : decode prog_6_method_1_code 1 = .ok (.invokespecial 1, 3) := by decide +kernel
theorem own_d1_4 : decode prog_6_method_1_code 4 = .ok (.aload_n 0, 1) := by decide +kernel
theorem own_d1_5 : decode prog_6_method_1_code 5 = .ok (.iload_n 1, 1) := by decide +kernel
theorem own_d1_6 : decode prog_6_method_1_code 6 = .ok (.putfield 7, 3) := by decide +kernel
theorem own_d1_9 : decode prog_6_method_1_code 9 = .ok (.aload_n 0, 1) := by decide +kernel
theorem own_d1_10 : decode prog_6_method_1_code 10 = .ok (.lload_n 2, 1) := by decide +kernel
theorem own_d1_11 : decode prog_6_method_1_code 11 = .ok (.putfield 13, 3) := by decide +kernel
theorem own_d1_14 : decode prog_6_method_1_code 14 = .ok (.aload_n 0, 1) := by decide +kernel
theorem own_d1_15 : decode prog_6_method_1_code 15 = .ok (.lload 4, 2) := by decide +kernel
theorem own_d1_17 : decode prog_6_method_1_code 17 = .ok (.putfield 17, 3) := by decide +kernel
theorem own_d1_20 : decode prog_6_method_1_code 20 = .ok (.aload_n 0, 1) := by decide +kernel
theorem own_d1_21 : decode prog_6_method_1_code 21 = .ok (.lload 6, 2) := by decide +kernel
theorem own_d1_23 : decode prog_6_method_1_code 23 = .ok (.putfield 20, 3) := by decide +kernel
theorem own_d1_26 : decode prog_6_method_1_code 26 = .ok (.return_, 1) := by decide +kernel
theorem own_ef1 (m : MethodId) (r0 : Addr) (p1 : Int32) (q2 : Int64) (q3 : Int64) (q4 : Int64) : entryFrame m #[(.ref r0), (.int p1), (.long q2), (.long q3), (.long q4)] 8 = mkF m 0 #[.val (.ref r0), .val (.int p1), .val (.long q2), .second, .val (.long q3), .second, .val (.long q4), .second] [] := by first | (simp [entryFrame, mkF, argsToLocals, Value.category]; done) | rfl
def own_Q1 (Z : State) (r0 : Addr) (p1 : Int32) (q2 : Int64) (q3 : Int64) (q4 : Int64) (h0 : Heap) (n0 : Nat) (v : Option Value) (h : Heap) (L : List Loc) : Prop := (v = none) ∧ (Fr n0 L) ∧ (Keep h0 h [r0]) ∧ (Exa Z h r0 "com/example/even_throttle/eventhrottle/Quota") ∧ (Fld Z h r0 "com/example/even_throttle/eventhrottle/Quota" "limit" "I" (.int p1)) ∧ (Fld Z h r0 "com/example/even_throttle/eventhrottle/Quota" "used" "J" (.long q2)) ∧ (Fld Z h r0 "com/example/even_throttle/eventhrottle/Quota" "reset" "J" (.long q3)) ∧ (Fld Z h r0 "com/example/even_throttle/eventhrottle/Quota" "untilReset" "J" (.long q4))
set_option maxRecDepth 65536 in
set_option maxHeartbeats 40000000 in
theorem own_rm1 (l : Launch) (Z : State) (a0 : Array Value) (hw : ∀ d ∈ tables_1, d.before a0 Z = true) (ws : List Jvm.Cond) (r0 : Addr) (p1 : Int32) (q2 : Int64) (q3 : Int64) (q4 : Int64) (h0 : Heap) (n0 : Nat) (Z0 : n0 ≤ h0.size) (E_r0 : Exa Z h0 r0 "com/example/even_throttle/eventhrottle/Quota") (F_r0_limit : Fld Z h0 r0 "com/example/even_throttle/eventhrottle/Quota" "limit" "I" (.int (0 : Int32))) (F_r0_used : Fld Z h0 r0 "com/example/even_throttle/eventhrottle/Quota" "used" "J" (.long (0 : Int64))) (F_r0_reset : Fld Z h0 r0 "com/example/even_throttle/eventhrottle/Quota" "reset" "J" (.long (0 : Int64))) (F_r0_untilReset : Fld Z h0 r0 "com/example/even_throttle/eventhrottle/Quota" "untilReset" "J" (.long (0 : Int64))) (g_r0 : n0 ≤ r0) :
    MetFree l (⟨"com/example/even_throttle/eventhrottle/Quota", "<init>", "(IJJJ)V"⟩ : MethodName) (head1 (Jvm.Cond.code (⟨"com/example/even_throttle/eventhrottle/Quota", "<init>", "(IJJJ)V"⟩ : MethodName) prog_6_method_1_code 8 none :: ws) ({ frames := 2, cells := 0, slots := 0, locals := 24 } : Room)) (fun a U => a = #[(.ref r0), (.int p1), (.long q2), (.long q3), (.long q4)] ∧ Z.Warmed39 U.vm ∧ U.heap = h0) (fun _ _ _ _ _ => True) (fun _ U o U' => ∃ v L, o = .returned v ∧ own_Q1 Z r0 p1 q2 q3 q4 h0 n0 v U'.heap L ∧ FrameEnd U o U' L ({ frames := 2, cells := 0, slots := 0, locals := 24 } : Room).cells ({ frames := 2, cells := 0, slots := 0, locals := 24 } : Room).slots) := by
  refine MetFree.of_bodySF (plainFor_of_name own_pn1) hisR ?_
  intro p e s m args below meth c s₁ Bd hml0 hP hK
  obtain ⟨rfl, hZ, hh⟩ := hP
  have hx := Bd.exec
  have hby := Bd.bytes
  have hml : c.maxLocals = 8 := hml0
  have hown : s.vm.findClass "com/example/even_throttle/eventhrottle/Quota" = some m.cls := findClass_of_methodNamed Bd.named
  have hnm := (name_of_methodNamed Bd.named Bd.method).1
  have X0 : Stand p l e ({ frames := 2, cells := 0, slots := 0, locals := 24 } : Room) s m #[(.ref r0), (.int p1), (.long q2), (.long q3), (.long q4)] below meth c s₁ [] 0 0 := Stand.of_body Bd
  have e0 : s₁.heap = h0 := by rw [← hh, Bd.state]; rfl
  have N0 := Fr.nil n0
  have pre0 : ∀ t, Steps p.tables e below (s₁.setTop (mkF m 0 #[.val (.ref r0), .val (.int p1), .val (.long q2), .second, .val (.long q3), .second, .val (.long q4), .second] [])) t → Steps p.tables e below (s₁.setTop (entryFrame m #[(.ref r0), (.int p1), (.long q2), (.long q3), (.long q4)] 8)) t := fun t k => castTop (own_ef1 m r0 p1 q2 q3 q4) k
  refine own_run (own_st pre0 ?_)
  refine own_st (B := s₁.setTop (mkF m 1 #[.val (.ref r0), .val (.int p1), .val (.long q2), .second, .val (.long q3), .second, .val (.long q4), .second] [(.ref r0)])) (fun target kt => ?_) ?_
  · show Steps p.tables e below (s₁.setTop (mkF m 0 #[.val (.ref r0), .val (.int p1), .val (.long q2), .second, .val (.long q3), .second, .val (.long q4), .second] [])) target
    refine XS.aloadN X0.here hx rfl (hb hby own_d1_0) rfl rfl ?_
    exact kt
  obtain ⟨_, _, ⟨Tg1, Lg1, kg1, ng1⟩, -, Xg1, ⟨Lcg1, hQg1, lg1, yg1, zg1⟩, stg1⟩ := X0.specialBack hx (y := (⟨"java/lang/Record", "<init>", "()V"⟩ : MethodName)) rfl hown (mvT hZ (hw _ (List.mem_of_getElem? (i := 6) rfl))) (mvT hZ (hw _ (List.mem_of_getElem? (i := 7) rfl))) (mvT hZ (hw _ (List.mem_of_getElem? (i := 10) rfl))) (by decide) (backOf (W := 0) (own_rm2 l Z a0 hw [] r0 h0 n0 Z0) hZ (hw _ (List.mem_of_getElem? (i := 10) rfl)) (hw _ (List.mem_of_getElem? (i := 9) rfl)) (by decide) (by decide)) (g := (mkF m 1 #[.val (.ref r0), .val (.int p1), .val (.long q2), .second, .val (.long q3), .second, .val (.long q4), .second] [(.ref r0)])) rfl (by rw [hml]; rfl) (Steps.refl _) (a := r0) (argsL := []) (rest := []) (lenOf own_pd0 rfl) rfl (by show 2 * 0 + _ ≤ _; exact Nat.le_of_eq rfl) (hb hby own_d1_1) (fun _ _ => ⟨rfl, e0, (by decide : 0 + 0 ≤ _), (by decide : 0 + 0 ≤ _)⟩)
  dsimp only [Pt.U, Pt.locs, Pt.cells, Pt.slots] at Xg1 lg1 yg1 zg1 stg1 hQg1
  subst lg1 yg1 zg1
  obtain ⟨rfl, Ng1q, eg1⟩ := hQg1
  have Ng1 := Fr.app N0 Ng1q
  refine own_st (fun _ k => stg1.trans k) ?_
  refine own_st (B := Tg1.setTop (mkF m 6 #[.val (.ref r0), .val (.int p1), .val (.long q2), .second, .val (.long q3), .second, .val (.long q4), .second] [(.int p1), (.ref r0)])) (fun target kt => ?_) ?_
  · show Steps p.tables e below (Tg1.setTop (mkF m 4 #[.val (.ref r0), .val (.int p1), .val (.long q2), .second, .val (.long q3), .second, .val (.long q4), .second] [])) target
    refine XS.aloadN Xg1.here hx rfl (hb hby own_d1_4) rfl rfl ?_
    show Steps p.tables e below (Tg1.setTop (mkF m 5 #[.val (.ref r0), .val (.int p1), .val (.long q2), .second, .val (.long q3), .second, .val (.long q4), .second] [(.ref r0)])) target
    refine XS.iloadN Xg1.here hx rfl (hb hby own_d1_5) rfl ?_
    exact kt
  obtain ⟨Tg6, hg6, Xg6, eg6, Wg6, stg6⟩ := putF Xg1 hx hZ hown (host := "") (Or.inl (hw _ (List.mem_of_getElem? (i := 14) rfl))) Via.refl eg1 F_r0_limit E_r0 (Or.inr ⟨(hw _ (List.mem_of_getElem? (i := 15) rfl)), rfl, hnm⟩) (hw _ (List.mem_of_getElem? (i := 1) rfl)) (ty := .int) (by decide) rfl rfl (g := (mkF m 6 #[.val (.ref r0), .val (.int p1), .val (.long q2), .second, .val (.long q3), .second, .val (.long q4), .second] [(.int p1), (.ref r0)])) rfl rfl (hb hby own_d1_6)
  refine own_st stg6 ?_
  have Ng6 := Fr.snoc Xg6 Ng1 g_r0
  have F := E_r0.wr Wg6
  have F_1 := F_r0_limit.same Wg6
  have F_2 := F_r0_used.other Wg6 (Or.inr (slot_ne (Or.inr (hw _ (List.mem_of_getElem? (i := 17) rfl))) (Or.inr (hw _ (List.mem_of_getElem? (i := 15) rfl))) (by decide) (t := .long) (t' := .int) (by decide) (by decide)))
  have F_3 := F_r0_reset.other Wg6 (Or.inr (slot_ne (Or.inr (hw _ (List.mem_of_getElem? (i := 19) rfl))) (Or.inr (hw _ (List.mem_of_getElem? (i := 15) rfl))) (by decide) (t := .long) (t' := .int) (by decide) (by decide)))
  have F_4 := F_r0_untilReset.other Wg6 (Or.inr (slot_ne (Or.inr (hw _ (List.mem_of_getElem? (i := 21) rfl))) (Or.inr (hw _ (List.mem_of_getElem? (i := 15) rfl))) (by decide) (t := .long) (t' := .int) (by decide) (by decide)))
  have Zz : n0 ≤ hg6.size := Nat.le_trans Z0 (Keep.of_wr Wg6).1
  have Kc := (Keep.refl h0 [r0]).wr Wg6 (Or.inl (List.mem_of_getElem? (i := 0) rfl))
  refine own_st (B := Tg6.setTop (mkF m 11 #[.val (.ref r0), .val (.int p1), .val (.long q2), .second, .val (.long q3), .second, .val (.long q4), .second] [(.long q2), (.ref r0)])) (fun target kt => ?_) ?_
  · show Steps p.tables e below (Tg6.setTop (mkF m 9 #[.val (.ref r0), .val (.int p1), .val (.long q2), .second, .val (.long q3), .second, .val (.long q4), .second] [])) target
    refine XS.aloadN Xg6.here hx rfl (hb hby own_d1_9) rfl rfl ?_
    show Steps p.tables e below (Tg6.setTop (mkF m 10 #[.val (.ref r0), .val (.int p1), .val (.long q2), .second, .val (.long q3), .second, .val (.long q4), .second] [(.ref r0)])) target
    refine XS.lloadN Xg6.here hx rfl (hb hby own_d1_10) rfl ?_
    exact kt
  obtain ⟨Tg11, hg11, Xg11, eg11, Wg11, stg11⟩ := putF Xg6 hx hZ hown (host := "") (Or.inl (hw _ (List.mem_of_getElem? (i := 16) rfl))) Via.refl eg6 F_2 F (Or.inr ⟨(hw _ (List.mem_of_getElem? (i := 17) rfl)), rfl, hnm⟩) (hw _ (List.mem_of_getElem? (i := 1) rfl)) (ty := .long) (by decide) rfl rfl (g := (mkF m 11 #[.val (.ref r0), .val (.int p1), .val (.long q2), .second, .val (.long q3), .second, .val (.long q4), .second] [(.long q2), (.ref r0)])) rfl rfl (hb hby own_d1_11)
  refine own_st stg11 ?_
  have Ng11 := Fr.snoc Xg11 Ng6 g_r0
  have F_5 := F.wr Wg11
  have F_6 := F_1.other Wg11 (Or.inr (slot_ne (Or.inr (hw _ (List.mem_of_getElem? (i := 15) rfl))) (Or.inr (hw _ (List.mem_of_getElem? (i := 17) rfl))) (by decide) (t := .int) (t' := .long) (by decide) (by decide)))
  have F_7 := F_2.same Wg11
  have F_8 := F_3.other Wg11 (Or.inr (slot_ne (Or.inr (hw _ (List.mem_of_getElem? (i := 19) rfl))) (Or.inr (hw _ (List.mem_of_getElem? (i := 17) rfl))) (by decide) (t := .long) (t' := .long) (by decide) (by decide)))
  have F_9 := F_4.other Wg11 (Or.inr (slot_ne (Or.inr (hw _ (List.mem_of_getElem? (i := 21) rfl))) (Or.inr (hw _ (List.mem_of_getElem? (i := 17) rfl))) (by decide) (t := .long) (t' := .long) (by decide) (by decide)))
  have Zz_1 : n0 ≤ hg11.size := Nat.le_trans Zz (Keep.of_wr Wg11).1
  have Kc_1 := Kc.wr Wg11 (Or.inl (List.mem_of_getElem? (i := 0) rfl))
  refine own_st (B := Tg11.setTop (mkF m 17 #[.val (.ref r0), .val (.int p1), .val (.long q2), .second, .val (.long q3), .second, .val (.long q4), .second] [(.long q3), (.ref r0)])) (fun target kt => ?_) ?_
  · show Steps p.tables e below (Tg11.setTop (mkF m 14 #[.val (.ref r0), .val (.int p1), .val (.long q2), .second, .val (.long q3), .second, .val (.long q4), .second] [])) target
    refine XS.aloadN Xg11.here hx rfl (hb hby own_d1_14) rfl rfl ?_
    show Steps p.tables e below (Tg11.setTop (mkF m 15 #[.val (.ref r0), .val (.int p1), .val (.long q2), .second, .val (.long q3), .second, .val (.long q4), .second] [(.ref r0)])) target
    refine XS.lload Xg11.here hx rfl (hb hby own_d1_15) rfl ?_
    exact kt
  obtain ⟨Tg17, hg17, Xg17, eg17, Wg17, stg17⟩ := putF Xg11 hx hZ hown (host := "") (Or.inl (hw _ (List.mem_of_getElem? (i := 18) rfl))) Via.refl eg11 F_8 F_5 (Or.inr ⟨(hw _ (List.mem_of_getElem? (i := 19) rfl)), rfl, hnm⟩) (hw _ (List.mem_of_getElem? (i := 1) rfl)) (ty := .long) (by decide) rfl rfl (g := (mkF m 17 #[.val (.ref r0), .val (.int p1), .val (.long q2), .second, .val (.long q3), .second, .val (.long q4), .second] [(.long q3), (.ref r0)])) rfl rfl (hb hby own_d1_17)
  refine own_st stg17 ?_
  have Ng17 := Fr.snoc Xg17 Ng11 g_r0
  have F_10 := F_5.wr Wg17
  have F_11 := F_6.other Wg17 (Or.inr (slot_ne (Or.inr (hw _ (List.mem_of_getElem? (i := 15) rfl))) (Or.inr (hw _ (List.mem_of_getElem? (i := 19) rfl))) (by decide) (t := .int) (t' := .long) (by decide) (by decide)))
  have F_12 := F_7.other Wg17 (Or.inr (slot_ne (Or.inr (hw _ (List.mem_of_getElem? (i := 17) rfl))) (Or.inr (hw _ (List.mem_of_getElem? (i := 19) rfl))) (by decide) (t := .long) (t' := .long) (by decide) (by decide)))
  have F_13 := F_8.same Wg17
  have F_14 := F_9.other Wg17 (Or.inr (slot_ne (Or.inr (hw _ (List.mem_of_getElem? (i := 21) rfl))) (Or.inr (hw _ (List.mem_of_getElem? (i := 19) rfl))) (by decide) (t := .long) (t' := .long) (by decide) (by decide)))
  have Zz_2 : n0 ≤ hg17.size := Nat.le_trans Zz_1 (Keep.of_wr Wg17).1
  have Kc_2 := Kc_1.wr Wg17 (Or.inl (List.mem_of_getElem? (i := 0) rfl))
  refine own_st (B := Tg17.setTop (mkF m 23 #[.val (.ref r0), .val (.int p1), .val (.long q2), .second, .val (.long q3), .second, .val (.long q4), .second] [(.long q4), (.ref r0)])) (fun target kt => ?_) ?_
  · show Steps p.tables e below (Tg17.setTop (mkF m 20 #[.val (.ref r0), .val (.int p1), .val (.long q2), .second, .val (.long q3), .second, .val (.long q4), .second] [])) target
    refine XS.aloadN Xg17.here hx rfl (hb hby own_d1_20) rfl rfl ?_
    show Steps p.tables e below (Tg17.setTop (mkF m 21 #[.val (.ref r0), .val (.int p1), .val (.long q2), .second, .val (.long q3), .second, .val (.long q4), .second] [(.ref r0)])) target
    refine XS.lload Xg17.here hx rfl (hb hby own_d1_21) rfl ?_
    exact kt
  obtain ⟨Tg23, hg23, Xg23, eg23, Wg23, stg23⟩ := putF Xg17 hx hZ hown (host := "") (Or.inl (hw _ (List.mem_of_getElem? (i := 20) rfl))) Via.refl eg17 F_14 F_10 (Or.inr ⟨(hw _ (List.mem_of_getElem? (i := 21) rfl)), rfl, hnm⟩) (hw _ (List.mem_of_getElem? (i := 1) rfl)) (ty := .long) (by decide) rfl rfl (g := (mkF m 23 #[.val (.ref r0), .val (.int p1), .val (.long q2), .second, .val (.long q3), .second, .val (.long q4), .second] [(.long q4), (.ref r0)])) rfl rfl (hb hby own_d1_23)
  refine own_st stg23 ?_
  have Ng23 := Fr.snoc Xg23 Ng17 g_r0
  have F_15 := F_10.wr Wg23
  have F_16 := F_11.other Wg23 (Or.inr (slot_ne (Or.inr (hw _ (List.mem_of_getElem? (i := 15) rfl))) (Or.inr (hw _ (List.mem_of_getElem? (i := 21) rfl))) (by decide) (t := .int) (t' := .long) (by decide) (by decide)))
  have F_17 := F_12.other Wg23 (Or.inr (slot_ne (Or.inr (hw _ (List.mem_of_getElem? (i := 17) rfl))) (Or.inr (hw _ (List.mem_of_getElem? (i := 21) rfl))) (by decide) (t := .long) (t' := .long) (by decide) (by decide)))
  have F_18 := F_13.other Wg23 (Or.inr (slot_ne (Or.inr (hw _ (List.mem_of_getElem? (i := 19) rfl))) (Or.inr (hw _ (List.mem_of_getElem? (i := 21) rfl))) (by decide) (t := .long) (t' := .long) (by decide) (by decide)))
  have F_19 := F_14.same Wg23
  have Zz_3 : n0 ≤ hg23.size := Nat.le_trans Zz_2 (Keep.of_wr Wg23).1
  have Kc_3 := Kc_2.wr Wg23 (Or.inl (List.mem_of_getElem? (i := 0) rfl))
  obtain ⟨fs, hr, hrun, hended, hW, hsame⟩ := Xg23.leave (v := none) (fun _ => rfl)
  have hend : Steps p.tables e below (Tg23.setTop (mkF m 26 #[.val (.ref r0), .val (.int p1), .val (.long q2), .second, .val (.long q3), .second, .val (.long q4), .second] [])) (Tg23.setFrames fs) := by
    exact Xg23.returnOut hx Bd.returns (hb hby own_d1_26) hr
  refine own_fin hend ⟨_, hrun, hended, _, _, rfl, ?_, ⟨_, rfl⟩, hW, hsame.mono (by decide) (by decide)⟩
  show own_Q1 Z r0 p1 q2 q3 q4 h0 n0 _ Tg23.heap _
  rw [eg23]
  exact ⟨rfl, Ng23, Kc_3, F_15, F_16, F_17, F_18, F_19⟩
theorem own_d4_0 : decode prog_6_method_3_code 0 = .ok (.aload_n 0, 1) := by decide +kernel
theorem own_d4_1 : decode prog_6_method_3_code 1 = .ok (.getfield 13, 3) := by decide +kernel
theorem own_d4_4 : decode prog_6_method_3_code 4 = .ok (.aload_n 0, 1) := by decide +kernel
theorem own_d4_5 : decode prog_6_method_3_code 5 = .ok (.getfield 7, 3) := by decide +kernel
theorem own_d4_8 : decode prog_6_method_3_code 8 = .ok (.i2l, 1) := by decide +kernel
theorem own_d4_9 : decode prog_6_method_3_code 9 = .ok (.lcmp, 1) := by decide +kernel
theorem own_d4_10 : decode prog_6_method_3_code 10 = .ok (.ifCond .gt 7, 3) := by decide +kernel
theorem own_d4_13 : decode prog_6_method_3_code 13 = .ok (.iconst 1, 1) := by decide +kernel
theorem own_d4_14 : decode prog_6_method_3_code 14 = .ok (.goto 4, 3) := by decide +kernel
theorem own_d4_17 : decode prog_6_method_3_code 17 = .ok (.iconst 0, 1) := by decide +kernel
theorem own_d4_18 : decode prog_6_method_3_code 18 = .ok (.ireturn, 1) := by decide +kernel
theorem own_ef4 (m : MethodId) (r0 : Addr) : entryFrame m #[(.ref r0)] 1 = mkF m 0 #[.val (.ref r0)] [] := by first | (simp [entryFrame, mkF, argsToLocals, Value.category]; done) | rfl
def own_Q4 (Z : State) (r0 : Addr) (w_l : Int32) (w_u : Int64) (h0 : Heap) (n0 : Nat) (v : Option Value) (h : Heap) (L : List Loc) : Prop := (v = some (.int (own_b (¬ ((w_l.toInt64) < w_u))))) ∧ (Fr n0 L) ∧ (h = h0)
set_option maxRecDepth 65536 in
set_option maxHeartbeats 40000000 in
theorem own_rm4 (l : Launch) (Z : State) (a0 : Array Value) (hw : ∀ d ∈ tables_1, d.before a0 Z = true) (ws : List Jvm.Cond) (r0 : Addr) (w_l : Int32) (w_u : Int64) (h0 : Heap) (n0 : Nat) (Z0 : n0 ≤ h0.size) (F_r0_limit : Fld Z h0 r0 "com/example/even_throttle/eventhrottle/Quota" "limit" "I" (.int w_l)) (F_r0_used : Fld Z h0 r0 "com/example/even_throttle/eventhrottle/Quota" "used" "J" (.long w_u)) :
    MetFree l (⟨"com/example/even_throttle/eventhrottle/Quota", "admitted", "()Z"⟩ : MethodName) (head1 (Jvm.Cond.code (⟨"com/example/even_throttle/eventhrottle/Quota", "admitted", "()Z"⟩ : MethodName) prog_6_method_3_code 1 (some .boolean) :: ws) ({ frames := 0, cells := 0, slots := 0, locals := 0 } : Room)) (fun a U => a = #[(.ref r0)] ∧ Z.Warmed39 U.vm ∧ U.heap = h0) (fun _ _ _ _ _ => True) (fun _ U o U' => ∃ v L, o = .returned v ∧ own_Q4 Z r0 w_l w_u h0 n0 v U'.heap L ∧ FrameEnd U o U' L ({ frames := 0, cells := 0, slots := 0, locals := 0 } : Room).cells ({ frames := 0, cells := 0, slots := 0, locals := 0 } : Room).slots) := by
  refine MetFree.of_bodySF (plainFor_of_name own_pn1) hisR ?_
  intro p e s m args below meth c s₁ Bd hml0 hP hK
  obtain ⟨rfl, hZ, hh⟩ := hP
  have hx := Bd.exec
  have hby := Bd.bytes
  have hml : c.maxLocals = 1 := hml0
  have hown : s.vm.findClass "com/example/even_throttle/eventhrottle/Quota" = some m.cls := findClass_of_methodNamed Bd.named
  have hnm := (name_of_methodNamed Bd.named Bd.method).1
  have X0 : Stand p l e ({ frames := 0, cells := 0, slots := 0, locals := 0 } : Room) s m #[(.ref r0)] below meth c s₁ [] 0 0 := Stand.of_body Bd
  have e0 : s₁.heap = h0 := by rw [← hh, Bd.state]; rfl
  have N0 := Fr.nil n0
  have pre0 : ∀ t, Steps p.tables e below (s₁.setTop (mkF m 0 #[.val (.ref r0)] [])) t → Steps p.tables e below (s₁.setTop (entryFrame m #[(.ref r0)] 1)) t := fun t k => castTop (own_ef4 m r0) k
  refine own_run (own_st pre0 ?_)
  refine own_st (B := s₁.setTop (mkF m 1 #[.val (.ref r0)] [(.ref r0)])) (fun target kt => ?_) ?_
  · show Steps p.tables e below (s₁.setTop (mkF m 0 #[.val (.ref r0)] [])) target
    refine XS.aloadN X0.here hx rfl (hb hby own_d4_0) rfl rfl ?_
    exact kt
  obtain ⟨Tg1, Xg1, eg1, stg1⟩ := getF X0 hx hZ hown (host := "") (Or.inl (hw _ (List.mem_of_getElem? (i := 16) rfl))) Via.refl e0 F_r0_used (g := (mkF m 1 #[.val (.ref r0)] [(.ref r0)])) rfl rfl (hb hby own_d4_1)
  refine own_st stg1 ?_
  refine own_st (B := Tg1.setTop (mkF m 5 #[.val (.ref r0)] [(.ref r0), (.long w_u)])) (fun target kt => ?_) ?_
  · show Steps p.tables e below (Tg1.setTop (mkF m 4 #[.val (.ref r0)] [(.long w_u)])) target
    refine XS.aloadN Xg1.here hx rfl (hb hby own_d4_4) rfl rfl ?_
    exact kt
  obtain ⟨Tg5, Xg5, eg5, stg5⟩ := getF Xg1 hx hZ hown (host := "") (Or.inl (hw _ (List.mem_of_getElem? (i := 14) rfl))) Via.refl eg1 F_r0_limit (g := (mkF m 5 #[.val (.ref r0)] [(.ref r0), (.long w_u)])) rfl rfl (hb hby own_d4_5)
  refine own_st stg5 ?_
  refine own_st (B := Tg5.setTop (mkF m 10 #[.val (.ref r0)] [(.int (lcmpW w_u (w_l.toInt64)))])) (fun target kt => ?_) ?_
  · show Steps p.tables e below (Tg5.setTop (mkF m 8 #[.val (.ref r0)] [(.int w_l), (.long w_u)])) target
    refine XS.i2l Xg5.here hx rfl (hb hby own_d4_8) rfl ?_
    show Steps p.tables e below (Tg5.setTop (mkF m 9 #[.val (.ref r0)] [(.long (w_l.toInt64)), (.long w_u)])) target
    refine XS.lcmp Xg5.here hx rfl (hb hby own_d4_9) rfl ?_
    exact kt
  obtain ⟨_, ⟨j18_s0, rfl, rfl⟩, st_M18⟩ : own_Lead p.tables e below (Tg5.setTop (mkF m 10 #[.val (.ref r0)] [(.int (lcmpW w_u (w_l.toInt64)))])) (fun B => ∃ (j18_s0 : Int32), B = Tg5.setTop (mkF m 18 #[.val (.ref r0)] [(.int j18_s0)]) ∧ j18_s0 = own_b (¬ ((w_l.toInt64) < w_u))) := by
    by_cases c10 : (w_l.toInt64) < w_u
    · refine own_st (B := Tg5.setTop (mkF m 18 #[.val (.ref r0)] [(.int (0 : Int32))])) (fun target kt => ?_) ?_
      · show Steps p.tables e below (Tg5.setTop (mkF m 10 #[.val (.ref r0)] [(.int (lcmpW w_u (w_l.toInt64)))])) target
        refine XS.ifYes Xg5.here hx rfl (pc0 := 10) (pc' := 17) rfl (hb hby own_d4_10) rfl ((if0 _ _).trans (tlt ((lw_gt w_u (w_l.toInt64)).mpr c10)).2.2.1) (by decide) (by decide) ?_
        show Steps p.tables e below (Tg5.setTop (mkF m 17 #[.val (.ref r0)] [])) target
        refine XS.iconst Xg5.here hx rfl (hb hby own_d4_17) ?_
        exact kt
      exact ⟨_, ⟨(0 : Int32), rfl, (own_b0 (fun w => w c10)).symm⟩, fun _ k => k⟩
    · refine own_st (B := Tg5.setTop (mkF m 18 #[.val (.ref r0)] [(.int (1 : Int32))])) (fun target kt => ?_) ?_
      · show Steps p.tables e below (Tg5.setTop (mkF m 10 #[.val (.ref r0)] [(.int (lcmpW w_u (w_l.toInt64)))])) target
        refine XS.ifNo Xg5.here hx rfl (hb hby own_d4_10) rfl ((if0 _ _).trans (flt (fun q => c10 ((lw_gt w_u (w_l.toInt64)).mp q))).2.2.1) ?_
        show Steps p.tables e below (Tg5.setTop (mkF m 13 #[.val (.ref r0)] [])) target
        refine XS.iconst Xg5.here hx rfl (hb hby own_d4_13) ?_
        show Steps p.tables e below (Tg5.setTop (mkF m 14 #[.val (.ref r0)] [(.int (1 : Int32))])) target
        refine XS.goto Xg5.here hx rfl (pc0 := 14) (pc' := 18) rfl (hb hby own_d4_14) (by decide) (by decide) ?_
        exact kt
      exact ⟨_, ⟨(1 : Int32), rfl, (own_b1 c10).symm⟩, fun _ k => k⟩
  refine own_st st_M18 ?_
  obtain ⟨fs, hr, hrun, hended, hW, hsame⟩ := Xg5.leave (v := some (.int (nar .boolean (own_b (¬ ((w_l.toInt64) < w_u)))))) (fun h => by rw [Bd.returns] at h; cases h)
  have hend : Steps p.tables e below (Tg5.setTop (mkF m 18 #[.val (.ref r0)] [(.int (own_b (¬ ((w_l.toInt64) < w_u))))])) (Tg5.setFrames fs) := by
    exact retN Xg5 hx (t := .boolean) Bd.returns (by simp) (hb hby own_d4_18) hr
  refine own_fin hend ⟨_, hrun, hended, _, _, rfl, ?_, ⟨_, rfl⟩, hW, hsame.mono (by decide) (by decide)⟩
  show own_Q4 Z r0 w_l w_u h0 n0 _ Tg5.heap _
  rw [eg5]
  exact ⟨(congrArg (fun z => some (Value.int z)) ((own_nar rfl).trans (own_bi ⟨fun w => w, fun w => w⟩))), N0, rfl⟩
theorem own_pd1 : parseMethodDescriptor "(IJJJ)V" = some ⟨[.int, .long, .long, .long], none⟩ := by decide +kernel
theorem own_pd2 : parseMethodDescriptor "()Z" = some ⟨[], some .boolean⟩ := by decide +kernel
theorem own_pn2 : plainName "com/example/even_throttle/eventhrottle/QuotaAdmittedPinLaw" = true := by first | (simp [plainName, overriddenIn]; done) | decide +kernel
theorem own_ef0 (m : MethodId) (p0 : Int32) (q1 : Int64) (q2 : Int64) (q3 : Int64) : entryFrame m #[(.int p0), (.long q1), (.long q2), (.long q3)] maxLocals = mkF m 0 #[.val (.int p0), .val (.long q1), .second, .val (.long q2), .second, .val (.long q3), .second, .unset, .unset, .unset, .unset] [] := by first | (simp [entryFrame, mkF, argsToLocals, Value.category, maxLocals]; done) | rfl
def own_Q0 (Z : State) (p0 : Int32) (q1 : Int64) (q2 : Int64) (q3 : Int64) (h0 : Heap) (n0 : Nat) (v : Option Value) (h : Heap) (L : List Loc) : Prop := (v = some (.int (1 : Int32))) ∧ (Fr n0 L)
set_option maxRecDepth 65536 in
set_option maxHeartbeats 40000000 in
theorem own_rm0 (l : Launch) (Z : State) (a0 : Array Value) (hw : ∀ d ∈ tables_1, d.before a0 Z = true) (ws : List Jvm.Cond) (p0 : Int32) (q1 : Int64) (q2 : Int64) (q3 : Int64) (h0 : Heap) (n0 : Nat) (Z0 : n0 ≤ h0.size) :
    MetFree l x (head1 (Jvm.Cond.code x code maxLocals ret :: ws) room_1) (fun a U => a = #[(.int p0), (.long q1), (.long q2), (.long q3)] ∧ Z.Warmed39 U.vm ∧ U.heap = h0) (fun _ _ _ _ _ => True) (fun _ U o U' => ∃ v L, o = .returned v ∧ own_Q0 Z p0 q1 q2 q3 h0 n0 v U'.heap L ∧ FrameEnd U o U' L room_1.cells room_1.slots) := by
  refine MetFree.of_bodySF (plainFor_of_name own_pn2) hisR ?_
  intro p e s m args below meth c s₁ Bd hml0 hP hK
  obtain ⟨rfl, hZ, hh⟩ := hP
  have hx := Bd.exec
  have hby := Bd.bytes
  have hml : c.maxLocals = 11 := hml0
  have hown : s.vm.findClass "com/example/even_throttle/eventhrottle/QuotaAdmittedPinLaw" = some m.cls := findClass_of_methodNamed Bd.named
  have hnm := (name_of_methodNamed Bd.named Bd.method).1
  have X0 : Stand p l e room_1 s m #[(.int p0), (.long q1), (.long q2), (.long q3)] below meth c s₁ [] 0 0 := Stand.of_body Bd
  have e0 : s₁.heap = h0 := by rw [← hh, Bd.state]; rfl
  have N0 := Fr.nil n0
  have pre0 : ∀ t, Steps p.tables e below (s₁.setTop (mkF m 0 #[.val (.int p0), .val (.long q1), .second, .val (.long q2), .second, .val (.long q3), .second, .unset, .unset, .unset, .unset] [])) t → Steps p.tables e below (s₁.setTop (entryFrame m #[(.int p0), (.long q1), (.long q2), (.long q3)] maxLocals)) t := fun t k => castTop (own_ef0 m p0 q1 q2 q3) k
  refine own_run (own_st pre0 ?_)
  obtain ⟨Tg0, hg0, Xg0, eg0, Eg0, Ag0, Dg0, -, stg0⟩ := newO X0 hx hZ hown (hw _ (List.mem_of_getElem? (i := 0) rfl)) (hw _ (List.mem_of_getElem? (i := 1) rfl)) (hw _ (List.mem_of_getElem? (i := 2) rfl)) e0 (g := (mkF m 0 #[.val (.int p0), .val (.long q1), .second, .val (.long q2), .second, .val (.long q3), .second, .unset, .unset, .unset, .unset] [])) rfl (hb hby at_0) (by decide) (by decide)
  obtain ⟨b0, gg0⟩ : ∃ z, z = h0.size := ⟨_, rfl⟩
  rw [← gg0] at Ag0 Dg0 stg0
  refine own_st stg0 ?_
  have g_b0 : n0 ≤ b0 := Nat.le_trans Z0 (Nat.le_of_eq gg0.symm)
  have Zz : n0 ≤ hg0.size := Nat.le_trans Z0 Eg0.1
  have F : Fld Z hg0 b0 "com/example/even_throttle/eventhrottle/Quota" "limit" "I" (.int (0 : Int32)) := Dg0 (Or.inr (hw _ (List.mem_of_getElem? (i := 15) rfl))) (ty := .int) (by decide)
  have F_1 : Fld Z hg0 b0 "com/example/even_throttle/eventhrottle/Quota" "used" "J" (.long (0 : Int64)) := Dg0 (Or.inr (hw _ (List.mem_of_getElem? (i := 17) rfl))) (ty := .long) (by decide)
  have F_2 : Fld Z hg0 b0 "com/example/even_throttle/eventhrottle/Quota" "reset" "J" (.long (0 : Int64)) := Dg0 (Or.inr (hw _ (List.mem_of_getElem? (i := 19) rfl))) (ty := .long) (by decide)
  have F_3 : Fld Z hg0 b0 "com/example/even_throttle/eventhrottle/Quota" "untilReset" "J" (.long (0 : Int64)) := Dg0 (Or.inr (hw _ (List.mem_of_getElem? (i := 21) rfl))) (ty := .long) (by decide)
  refine own_st (B := Tg0.setTop (mkF m 9 #[.val (.int p0), .val (.long q1), .second, .val (.long q2), .second, .val (.long q3), .second, .unset, .unset, .unset, .unset] [(.long q3), (.long q2), (.long q1), (.int p0), (.ref b0), (.ref b0)])) (fun target kt => ?_) ?_
  · show Steps p.tables e below (Tg0.setTop (mkF m 3 #[.val (.int p0), .val (.long q1), .second, .val (.long q2), .second, .val (.long q3), .second, .unset, .unset, .unset, .unset] [(.ref b0)])) target
    refine XS.dup Xg0.here hx rfl (hb hby at_3) rfl rfl ?_
    show Steps p.tables e below (Tg0.setTop (mkF m 4 #[.val (.int p0), .val (.long q1), .second, .val (.long q2), .second, .val (.long q3), .second, .unset, .unset, .unset, .unset] [(.ref b0), (.ref b0)])) target
    refine XS.iloadN Xg0.here hx rfl (hb hby at_4) rfl ?_
    show Steps p.tables e below (Tg0.setTop (mkF m 5 #[.val (.int p0), .val (.long q1), .second, .val (.long q2), .second, .val (.long q3), .second, .unset, .unset, .unset, .unset] [(.int p0), (.ref b0), (.ref b0)])) target
    refine XS.lloadN Xg0.here hx rfl (hb hby at_5) rfl ?_
    show Steps p.tables e below (Tg0.setTop (mkF m 6 #[.val (.int p0), .val (.long q1), .second, .val (.long q2), .second, .val (.long q3), .second, .unset, .unset, .unset, .unset] [(.long q1), (.int p0), (.ref b0), (.ref b0)])) target
    refine XS.lloadN Xg0.here hx rfl (hb hby at_6) rfl ?_
    show Steps p.tables e below (Tg0.setTop (mkF m 7 #[.val (.int p0), .val (.long q1), .second, .val (.long q2), .second, .val (.long q3), .second, .unset, .unset, .unset, .unset] [(.long q2), (.long q1), (.int p0), (.ref b0), (.ref b0)])) target
    refine XS.lload Xg0.here hx rfl (hb hby at_7) rfl ?_
    exact kt
  obtain ⟨_, _, ⟨Tg9, Lg9, kg9, ng9⟩, -, Xg9, ⟨Lcg9, hQg9, lg9, yg9, zg9⟩, stg9⟩ := Xg0.specialBack hx (y := (⟨"com/example/even_throttle/eventhrottle/Quota", "<init>", "(IJJJ)V"⟩ : MethodName)) rfl hown (mvT hZ (hw _ (List.mem_of_getElem? (i := 3) rfl))) (mvT hZ (hw _ (List.mem_of_getElem? (i := 4) rfl))) (mvT hZ (hw _ (List.mem_of_getElem? (i := 5) rfl))) (by decide) (backOf (W := 1) (own_rm1 l Z a0 hw [] b0 p0 q1 q2 q3 hg0 n0 Zz Ag0 F F_1 F_2 F_3 g_b0) hZ (hw _ (List.mem_of_getElem? (i := 5) rfl)) (hw _ (List.mem_of_getElem? (i := 2) rfl)) (by decide) (by decide)) (g := (mkF m 9 #[.val (.int p0), .val (.long q1), .second, .val (.long q2), .second, .val (.long q3), .second, .unset, .unset, .unset, .unset] [(.long q3), (.long q2), (.long q1), (.int p0), (.ref b0), (.ref b0)])) rfl (by rw [hml]; rfl) (Steps.refl _) (a := b0) (argsL := [(.int p0), (.long q1), (.long q2), (.long q3)]) (rest := [(.ref b0)]) (lenOf own_pd1 rfl) rfl (by show 2 * 0 + _ ≤ _; exact Nat.le_of_eq rfl) (hb hby at_9) (fun _ _ => ⟨rfl, eg0, (by decide : 1 + 0 ≤ _), (by decide : 4 + 0 ≤ _)⟩)
  dsimp only [Pt.U, Pt.locs, Pt.cells, Pt.slots] at Xg9 lg9 yg9 zg9 stg9 hQg9
  subst lg9 yg9 zg9
  obtain ⟨rfl, Ng9q, Kg9, F_4, F_5, F_6, F_7, F_8⟩ := hQg9
  have Zz_1 : n0 ≤ Tg9.heap.size := Nat.le_trans Zz Kg9.1
  have Ng9 := Fr.app N0 Ng9q
  refine own_st (fun _ k => stg9.trans k) ?_
  refine own_st (B := Tg9.setTop (mkF m 14 #[.val (.int p0), .val (.long q1), .second, .val (.long q2), .second, .val (.long q3), .second, .val (.ref b0), .unset, .unset, .unset] [])) (fun target kt => ?_) ?_
  · show Steps p.tables e below (Tg9.setTop (mkF m 12 #[.val (.int p0), .val (.long q1), .second, .val (.long q2), .second, .val (.long q3), .second, .unset, .unset, .unset, .unset] [(.ref b0)])) target
    refine XS.astore Xg9.here hx rfl (hb hby at_12) rfl rfl (l' := #[.val (.int p0), .val (.long q1), .second, .val (.long q2), .second, .val (.long q3), .second, .val (.ref b0), .unset, .unset, .unset]) rfl ?_
    exact kt
  obtain ⟨Tg14, hg14, Xg14, eg14, Eg14, Ag14, Dg14, -, stg14⟩ := newO Xg9 hx hZ hown (hw _ (List.mem_of_getElem? (i := 0) rfl)) (hw _ (List.mem_of_getElem? (i := 1) rfl)) (hw _ (List.mem_of_getElem? (i := 2) rfl)) rfl (g := (mkF m 14 #[.val (.int p0), .val (.long q1), .second, .val (.long q2), .second, .val (.long q3), .second, .val (.ref b0), .unset, .unset, .unset] [])) rfl (hb hby at_14) (by decide) (by decide)
  obtain ⟨b14, gg14⟩ : ∃ z, z = Tg9.heap.size := ⟨_, rfl⟩
  rw [← gg14] at Ag14 Dg14 stg14
  refine own_st stg14 ?_
  have ne_b0_b14 : b0 ≠ b14 := Nat.ne_of_lt (Nat.lt_of_lt_of_le F_4.lt (Nat.le_of_eq gg14.symm))
  have g_b14 : n0 ≤ b14 := Nat.le_trans Zz_1 (Nat.le_of_eq gg14.symm)
  have F_9 := F_4.ext Eg14
  have F_10 := F_5.ext Eg14
  have F_11 := F_6.ext Eg14
  have F_12 := F_7.ext Eg14
  have F_13 := F_8.ext Eg14
  have Zz_2 : n0 ≤ hg14.size := Nat.le_trans Zz_1 Eg14.1
  have F_14 : Fld Z hg14 b14 "com/example/even_throttle/eventhrottle/Quota" "limit" "I" (.int (0 : Int32)) := Dg14 (Or.inr (hw _ (List.mem_of_getElem? (i := 15) rfl))) (ty := .int) (by decide)
  have F_15 : Fld Z hg14 b14 "com/example/even_throttle/eventhrottle/Quota" "used" "J" (.long (0 : Int64)) := Dg14 (Or.inr (hw _ (List.mem_of_getElem? (i := 17) rfl))) (ty := .long) (by decide)
  have F_16 : Fld Z hg14 b14 "com/example/even_throttle/eventhrottle/Quota" "reset" "J" (.long (0 : Int64)) := Dg14 (Or.inr (hw _ (List.mem_of_getElem? (i := 19) rfl))) (ty := .long) (by decide)
  have F_17 : Fld Z hg14 b14 "com/example/even_throttle/eventhrottle/Quota" "untilReset" "J" (.long (0 : Int64)) := Dg14 (Or.inr (hw _ (List.mem_of_getElem? (i := 21) rfl))) (ty := .long) (by decide)
  refine own_st (B := Tg14.setTop (mkF m 24 #[.val (.int p0), .val (.long q1), .second, .val (.long q2), .second, .val (.long q3), .second, .val (.ref b0), .unset, .unset, .unset] [(.long q3), (.long q2), (.long (p0.toInt64)), (.int p0), (.ref b14), (.ref b14)])) (fun target kt => ?_) ?_
  · show Steps p.tables e below (Tg14.setTop (mkF m 17 #[.val (.int p0), .val (.long q1), .second, .val (.long q2), .second, .val (.long q3), .second, .val (.ref b0), .unset, .unset, .unset] [(.ref b14)])) target
    refine XS.dup Xg14.here hx rfl (hb hby at_17) rfl rfl ?_
    show Steps p.tables e below (Tg14.setTop (mkF m 18 #[.val (.int p0), .val (.long q1), .second, .val (.long q2), .second, .val (.long q3), .second, .val (.ref b0), .unset, .unset, .unset] [(.ref b14), (.ref b14)])) target
    refine XS.iloadN Xg14.here hx rfl (hb hby at_18) rfl ?_
    show Steps p.tables e below (Tg14.setTop (mkF m 19 #[.val (.int p0), .val (.long q1), .second, .val (.long q2), .second, .val (.long q3), .second, .val (.ref b0), .unset, .unset, .unset] [(.int p0), (.ref b14), (.ref b14)])) target
    refine XS.iloadN Xg14.here hx rfl (hb hby at_19) rfl ?_
    show Steps p.tables e below (Tg14.setTop (mkF m 20 #[.val (.int p0), .val (.long q1), .second, .val (.long q2), .second, .val (.long q3), .second, .val (.ref b0), .unset, .unset, .unset] [(.int p0), (.int p0), (.ref b14), (.ref b14)])) target
    refine XS.i2l Xg14.here hx rfl (hb hby at_20) rfl ?_
    show Steps p.tables e below (Tg14.setTop (mkF m 21 #[.val (.int p0), .val (.long q1), .second, .val (.long q2), .second, .val (.long q3), .second, .val (.ref b0), .unset, .unset, .unset] [(.long (p0.toInt64)), (.int p0), (.ref b14), (.ref b14)])) target
    refine XS.lloadN Xg14.here hx rfl (hb hby at_21) rfl ?_
    show Steps p.tables e below (Tg14.setTop (mkF m 22 #[.val (.int p0), .val (.long q1), .second, .val (.long q2), .second, .val (.long q3), .second, .val (.ref b0), .unset, .unset, .unset] [(.long q2), (.long (p0.toInt64)), (.int p0), (.ref b14), (.ref b14)])) target
    refine XS.lload Xg14.here hx rfl (hb hby at_22) rfl ?_
    exact kt
  obtain ⟨_, _, ⟨Tg24, Lg24, kg24, ng24⟩, -, Xg24, ⟨Lcg24, hQg24, lg24, yg24, zg24⟩, stg24⟩ := Xg14.specialBack hx (y := (⟨"com/example/even_throttle/eventhrottle/Quota", "<init>", "(IJJJ)V"⟩ : MethodName)) rfl hown (mvT hZ (hw _ (List.mem_of_getElem? (i := 3) rfl))) (mvT hZ (hw _ (List.mem_of_getElem? (i := 4) rfl))) (mvT hZ (hw _ (List.mem_of_getElem? (i := 5) rfl))) (by decide) (backOf (W := 1) (own_rm1 l Z a0 hw [] b14 p0 (p0.toInt64) q2 q3 hg14 n0 Zz_2 Ag14 F_14 F_15 F_16 F_17 g_b14) hZ (hw _ (List.mem_of_getElem? (i := 5) rfl)) (hw _ (List.mem_of_getElem? (i := 2) rfl)) (by decide) (by decide)) (g := (mkF m 24 #[.val (.int p0), .val (.long q1), .second, .val (.long q2), .second, .val (.long q3), .second, .val (.ref b0), .unset, .unset, .unset] [(.long q3), (.long q2), (.long (p0.toInt64)), (.int p0), (.ref b14), (.ref b14)])) rfl (by rw [hml]; rfl) (Steps.refl _) (a := b14) (argsL := [(.int p0), (.long (p0.toInt64)), (.long q2), (.long q3)]) (rest := [(.ref b14)]) (lenOf own_pd1 rfl) rfl (by show 2 * 0 + _ ≤ _; exact Nat.le_of_eq rfl) (hb hby at_24) (fun _ _ => ⟨rfl, eg14, (by decide : 2 + 0 ≤ _), (by decide : 8 + 0 ≤ _)⟩)
  dsimp only [Pt.U, Pt.locs, Pt.cells, Pt.slots] at Xg24 lg24 yg24 zg24 stg24 hQg24
  subst lg24 yg24 zg24
  obtain ⟨rfl, Ng24q, Kg24, F_18, F_19, F_20, F_21, F_22⟩ := hQg24
  have F_23 := F_9.keep Kg24
  have F_24 := F_10.keep Kg24 (ninS ne_b0_b14 nin0)
  have F_25 := F_11.keep Kg24 (ninS ne_b0_b14 nin0)
  have F_26 := F_12.keep Kg24 (ninS ne_b0_b14 nin0)
  have F_27 := F_13.keep Kg24 (ninS ne_b0_b14 nin0)
  have Zz_3 : n0 ≤ Tg24.heap.size := Nat.le_trans Zz_2 Kg24.1
  obtain ⟨w24_used, hw24_used⟩ : ∃ z : Int64, z = (p0.toInt64) := ⟨_, rfl⟩
  have F_28 : Fld Z Tg24.heap b14 "com/example/even_throttle/eventhrottle/Quota" "used" "J" (.long w24_used) := by subst hw24_used; exact F_20
  have Ng24 := Fr.app Ng9 Ng24q
  refine own_st (fun _ k => stg24.trans k) ?_
  refine own_st (B := Tg24.setTop (mkF m 29 #[.val (.int p0), .val (.long q1), .second, .val (.long q2), .second, .val (.long q3), .second, .val (.ref b0), .val (.ref b14), .unset, .unset] [])) (fun target kt => ?_) ?_
  · show Steps p.tables e below (Tg24.setTop (mkF m 27 #[.val (.int p0), .val (.long q1), .second, .val (.long q2), .second, .val (.long q3), .second, .val (.ref b0), .unset, .unset, .unset] [(.ref b14)])) target
    refine XS.astore Xg24.here hx rfl (hb hby at_27) rfl rfl (l' := #[.val (.int p0), .val (.long q1), .second, .val (.long q2), .second, .val (.long q3), .second, .val (.ref b0), .val (.ref b14), .unset, .unset]) rfl ?_
    exact kt
  obtain ⟨Tg29, hg29, Xg29, eg29, Eg29, Ag29, Dg29, -, stg29⟩ := newO Xg24 hx hZ hown (hw _ (List.mem_of_getElem? (i := 0) rfl)) (hw _ (List.mem_of_getElem? (i := 1) rfl)) (hw _ (List.mem_of_getElem? (i := 2) rfl)) rfl (g := (mkF m 29 #[.val (.int p0), .val (.long q1), .second, .val (.long q2), .second, .val (.long q3), .second, .val (.ref b0), .val (.ref b14), .unset, .unset] [])) rfl (hb hby at_29) (by decide) (by decide)
  obtain ⟨b29, gg29⟩ : ∃ z, z = Tg24.heap.size := ⟨_, rfl⟩
  rw [← gg29] at Ag29 Dg29 stg29
  refine own_st stg29 ?_
  have ne_b0_b29 : b0 ≠ b29 := Nat.ne_of_lt (Nat.lt_of_lt_of_le F_23.lt (Nat.le_of_eq gg29.symm))
  have ne_b14_b29 : b14 ≠ b29 := Nat.ne_of_lt (Nat.lt_of_lt_of_le F_18.lt (Nat.le_of_eq gg29.symm))
  have g_b29 : n0 ≤ b29 := Nat.le_trans Zz_3 (Nat.le_of_eq gg29.symm)
  have F_29 := F_23.ext Eg29
  have F_30 := F_24.ext Eg29
  have F_31 := F_25.ext Eg29
  have F_32 := F_26.ext Eg29
  have F_33 := F_27.ext Eg29
  have F_34 := F_18.ext Eg29
  have F_35 := F_19.ext Eg29
  have F_36 := F_28.ext Eg29
  have F_37 := F_21.ext Eg29
  have F_38 := F_22.ext Eg29
  have Zz_4 : n0 ≤ hg29.size := Nat.le_trans Zz_3 Eg29.1
  have F_39 : Fld Z hg29 b29 "com/example/even_throttle/eventhrottle/Quota" "limit" "I" (.int (0 : Int32)) := Dg29 (Or.inr (hw _ (List.mem_of_getElem? (i := 15) rfl))) (ty := .int) (by decide)
  have F_40 : Fld Z hg29 b29 "com/example/even_throttle/eventhrottle/Quota" "used" "J" (.long (0 : Int64)) := Dg29 (Or.inr (hw _ (List.mem_of_getElem? (i := 17) rfl))) (ty := .long) (by decide)
  have F_41 : Fld Z hg29 b29 "com/example/even_throttle/eventhrottle/Quota" "reset" "J" (.long (0 : Int64)) := Dg29 (Or.inr (hw _ (List.mem_of_getElem? (i := 19) rfl))) (ty := .long) (by decide)
  have F_42 : Fld Z hg29 b29 "com/example/even_throttle/eventhrottle/Quota" "untilReset" "J" (.long (0 : Int64)) := Dg29 (Or.inr (hw _ (List.mem_of_getElem? (i := 21) rfl))) (ty := .long) (by decide)
  refine own_st (B := Tg29.setTop (mkF m 41 #[.val (.int p0), .val (.long q1), .second, .val (.long q2), .second, .val (.long q3), .second, .val (.ref b0), .val (.ref b14), .unset, .unset] [(.long q3), (.long q2), (.long ((p0.toInt64) + (1 : Int64))), (.int p0), (.ref b29), (.ref b29)])) (fun target kt => ?_) ?_
  · show Steps p.tables e below (Tg29.setTop (mkF m 32 #[.val (.int p0), .val (.long q1), .second, .val (.long q2), .second, .val (.long q3), .second, .val (.ref b0), .val (.ref b14), .unset, .unset] [(.ref b29)])) target
    refine XS.dup Xg29.here hx rfl (hb hby at_32) rfl rfl ?_
    show Steps p.tables e below (Tg29.setTop (mkF m 33 #[.val (.int p0), .val (.long q1), .second, .val (.long q2), .second, .val (.long q3), .second, .val (.ref b0), .val (.ref b14), .unset, .unset] [(.ref b29), (.ref b29)])) target
    refine XS.iloadN Xg29.here hx rfl (hb hby at_33) rfl ?_
    show Steps p.tables e below (Tg29.setTop (mkF m 34 #[.val (.int p0), .val (.long q1), .second, .val (.long q2), .second, .val (.long q3), .second, .val (.ref b0), .val (.ref b14), .unset, .unset] [(.int p0), (.ref b29), (.ref b29)])) target
    refine XS.iloadN Xg29.here hx rfl (hb hby at_34) rfl ?_
    show Steps p.tables e below (Tg29.setTop (mkF m 35 #[.val (.int p0), .val (.long q1), .second, .val (.long q2), .second, .val (.long q3), .second, .val (.ref b0), .val (.ref b14), .unset, .unset] [(.int p0), (.int p0), (.ref b29), (.ref b29)])) target
    refine XS.i2l Xg29.here hx rfl (hb hby at_35) rfl ?_
    show Steps p.tables e below (Tg29.setTop (mkF m 36 #[.val (.int p0), .val (.long q1), .second, .val (.long q2), .second, .val (.long q3), .second, .val (.ref b0), .val (.ref b14), .unset, .unset] [(.long (p0.toInt64)), (.int p0), (.ref b29), (.ref b29)])) target
    refine XS.lconst Xg29.here hx rfl (hb hby at_36) ?_
    show Steps p.tables e below (Tg29.setTop (mkF m 37 #[.val (.int p0), .val (.long q1), .second, .val (.long q2), .second, .val (.long q3), .second, .val (.ref b0), .val (.ref b14), .unset, .unset] [(.long (1 : Int64)), (.long (p0.toInt64)), (.int p0), (.ref b29), (.ref b29)])) target
    refine XS.ladd Xg29.here hx rfl (hb hby at_37) rfl ?_
    show Steps p.tables e below (Tg29.setTop (mkF m 38 #[.val (.int p0), .val (.long q1), .second, .val (.long q2), .second, .val (.long q3), .second, .val (.ref b0), .val (.ref b14), .unset, .unset] [(.long ((p0.toInt64) + (1 : Int64))), (.int p0), (.ref b29), (.ref b29)])) target
    refine XS.lloadN Xg29.here hx rfl (hb hby at_38) rfl ?_
    show Steps p.tables e below (Tg29.setTop (mkF m 39 #[.val (.int p0), .val (.long q1), .second, .val (.long q2), .second, .val (.long q3), .second, .val (.ref b0), .val (.ref b14), .unset, .unset] [(.long q2), (.long ((p0.toInt64) + (1 : Int64))), (.int p0), (.ref b29), (.ref b29)])) target
    refine XS.lload Xg29.here hx rfl (hb hby at_39) rfl ?_
    exact kt
  obtain ⟨_, _, ⟨Tg41, Lg41, kg41, ng41⟩, -, Xg41, ⟨Lcg41, hQg41, lg41, yg41, zg41⟩, stg41⟩ := Xg29.specialBack hx (y := (⟨"com/example/even_throttle/eventhrottle/Quota", "<init>", "(IJJJ)V"⟩ : MethodName)) rfl hown (mvT hZ (hw _ (List.mem_of_getElem? (i := 3) rfl))) (mvT hZ (hw _ (List.mem_of_getElem? (i := 4) rfl))) (mvT hZ (hw _ (List.mem_of_getElem? (i := 5) rfl))) (by decide) (backOf (W := 1) (own_rm1 l Z a0 hw [] b29 p0 ((p0.toInt64) + (1 : Int64)) q2 q3 hg29 n0 Zz_4 Ag29 F_39 F_40 F_41 F_42 g_b29) hZ (hw _ (List.mem_of_getElem? (i := 5) rfl)) (hw _ (List.mem_of_getElem? (i := 2) rfl)) (by decide) (by decide)) (g := (mkF m 41 #[.val (.int p0), .val (.long q1), .second, .val (.long q2), .second, .val (.long q3), .second, .val (.ref b0), .val (.ref b14), .unset, .unset] [(.long q3), (.long q2), (.long ((p0.toInt64) + (1 : Int64))), (.int p0), (.ref b29), (.ref b29)])) rfl (by rw [hml]; rfl) (Steps.refl _) (a := b29) (argsL := [(.int p0), (.long ((p0.toInt64) + (1 : Int64))), (.long q2), (.long q3)]) (rest := [(.ref b29)]) (lenOf own_pd1 rfl) rfl (by show 2 * 0 + _ ≤ _; exact Nat.le_of_eq rfl) (hb hby at_41) (fun _ _ => ⟨rfl, eg29, (by decide : 3 + 0 ≤ _), (by decide : 12 + 0 ≤ _)⟩)
  dsimp only [Pt.U, Pt.locs, Pt.cells, Pt.slots] at Xg41 lg41 yg41 zg41 stg41 hQg41
  subst lg41 yg41 zg41
  obtain ⟨rfl, Ng41q, Kg41, F_43, F_44, F_45, F_46, F_47⟩ := hQg41
  have F_48 := F_29.keep Kg41
  have F_49 := F_30.keep Kg41 (ninS ne_b0_b29 nin0)
  have F_50 := F_31.keep Kg41 (ninS ne_b0_b29 nin0)
  have F_51 := F_32.keep Kg41 (ninS ne_b0_b29 nin0)
  have F_52 := F_33.keep Kg41 (ninS ne_b0_b29 nin0)
  have F_53 := F_34.keep Kg41
  have F_54 := F_35.keep Kg41 (ninS ne_b14_b29 nin0)
  have F_55 := F_36.keep Kg41 (ninS ne_b14_b29 nin0)
  have F_56 := F_37.keep Kg41 (ninS ne_b14_b29 nin0)
  have F_57 := F_38.keep Kg41 (ninS ne_b14_b29 nin0)
  have Zz_5 : n0 ≤ Tg41.heap.size := Nat.le_trans Zz_4 Kg41.1
  obtain ⟨w41_used, hw41_used⟩ : ∃ z : Int64, z = ((p0.toInt64) + (1 : Int64)) := ⟨_, rfl⟩
  have F_58 : Fld Z Tg41.heap b29 "com/example/even_throttle/eventhrottle/Quota" "used" "J" (.long w41_used) := by subst hw41_used; exact F_45
  have Ng41 := Fr.app Ng24 Ng41q
  refine own_st (fun _ k => stg41.trans k) ?_
  refine own_st (B := Tg41.setTop (mkF m 48 #[.val (.int p0), .val (.long q1), .second, .val (.long q2), .second, .val (.long q3), .second, .val (.ref b0), .val (.ref b14), .val (.ref b29), .unset] [(.ref b14)])) (fun target kt => ?_) ?_
  · show Steps p.tables e below (Tg41.setTop (mkF m 44 #[.val (.int p0), .val (.long q1), .second, .val (.long q2), .second, .val (.long q3), .second, .val (.ref b0), .val (.ref b14), .unset, .unset] [(.ref b29)])) target
    refine XS.astore Xg41.here hx rfl (hb hby at_44) rfl rfl (l' := #[.val (.int p0), .val (.long q1), .second, .val (.long q2), .second, .val (.long q3), .second, .val (.ref b0), .val (.ref b14), .val (.ref b29), .unset]) rfl ?_
    show Steps p.tables e below (Tg41.setTop (mkF m 46 #[.val (.int p0), .val (.long q1), .second, .val (.long q2), .second, .val (.long q3), .second, .val (.ref b0), .val (.ref b14), .val (.ref b29), .unset] [])) target
    refine XS.aload Xg41.here hx rfl (hb hby at_46) rfl rfl ?_
    exact kt
  obtain ⟨cqg48, kqg48, qg48a, qg48b, qg48c⟩ := isOf hZ rfl F_53
  obtain ⟨_, _, ⟨Tg48, Lg48, kg48, ng48⟩, -, Xg48, ⟨Lcg48, hQg48, lg48, yg48, zg48⟩, stg48⟩ := Xg41.virtualBack hx (y := (⟨"com/example/even_throttle/eventhrottle/Quota", "admitted", "()Z"⟩ : MethodName)) (z := (⟨"com/example/even_throttle/eventhrottle/Quota", "admitted", "()Z"⟩ : MethodName)) hown (mvT hZ (hw _ (List.mem_of_getElem? (i := 22) rfl))) (mvT hZ (hw _ (List.mem_of_getElem? (i := 23) rfl))) (notFace_of_selects (args := #[]) (mvT hZ (hw _ (List.mem_of_getElem? (i := 25) rfl)))) (mvT hZ (hw _ (List.mem_of_getElem? (i := 25) rfl))) (mvT hZ (hw _ (List.mem_of_getElem? (i := 24) rfl))) (by decide) (backOf (W := 0) (own_rm4 l Z a0 hw [] b14 p0 w24_used Tg41.heap n0 Zz_5 F_54 F_55) hZ (hw _ (List.mem_of_getElem? (i := 26) rfl)) (hw _ (List.mem_of_getElem? (i := 2) rfl)) (by decide) (by decide)) qg48a qg48c (g := (mkF m 48 #[.val (.int p0), .val (.long q1), .second, .val (.long q2), .second, .val (.long q3), .second, .val (.ref b0), .val (.ref b14), .val (.ref b29), .unset] [(.ref b14)])) rfl (by rw [hml]; rfl) (Steps.refl _) (argsL := []) (rest := []) (lenOf own_pd2 rfl) rfl (by show 2 * 0 + _ ≤ _; exact Nat.le_of_eq rfl) (hb hby at_48) (fun _ _ => ⟨rfl, rfl, (by decide : 3 + 0 ≤ _), (by decide : 12 + 0 ≤ _)⟩)
  dsimp only [Pt.U, Pt.locs, Pt.cells, Pt.slots] at Xg48 lg48 yg48 zg48 stg48 hQg48
  subst lg48 yg48 zg48
  obtain ⟨rfl, Ng48q, eg48⟩ := hQg48
  have Ng48 := Fr.app Ng41 Ng48q
  refine own_st (fun _ k => stg48.trans k) ?_
  have c51 : ¬ ((p0.toInt64) < w24_used) := by
    rw [hw24_used, Int64.lt_iff_toInt_lt]
    omega
  refine own_st (B := Tg48.setTop (mkF m 58 #[.val (.int p0), .val (.long q1), .second, .val (.long q2), .second, .val (.long q3), .second, .val (.ref b0), .val (.ref b14), .val (.ref b29), .unset] [(.ref b29)])) (fun target kt => ?_) ?_
  · show Steps p.tables e below (Tg48.setTop (mkF m 51 #[.val (.int p0), .val (.long q1), .second, .val (.long q2), .second, .val (.long q3), .second, .val (.ref b0), .val (.ref b14), .val (.ref b29), .unset] [(.int (own_b (¬ ((p0.toInt64) < w24_used))))])) target
    refine XS.ifYes Xg48.here hx rfl (pc0 := 51) (pc' := 56) rfl (hb hby at_51) rfl ((if0 _ _).trans (feq (own_bn0 rfl c51)).2) (by decide) (by decide) ?_
    show Steps p.tables e below (Tg48.setTop (mkF m 56 #[.val (.int p0), .val (.long q1), .second, .val (.long q2), .second, .val (.long q3), .second, .val (.ref b0), .val (.ref b14), .val (.ref b29), .unset] [])) target
    refine XS.aload Xg48.here hx rfl (hb hby at_56) rfl rfl ?_
    exact kt
  obtain ⟨cqg58, kqg58, qg58a, qg58b, qg58c⟩ := isOf hZ eg48 F_43
  obtain ⟨_, _, ⟨Tg58, Lg58, kg58, ng58⟩, -, Xg58, ⟨Lcg58, hQg58, lg58, yg58, zg58⟩, stg58⟩ := Xg48.virtualBack hx (y := (⟨"com/example/even_throttle/eventhrottle/Quota", "admitted", "()Z"⟩ : MethodName)) (z := (⟨"com/example/even_throttle/eventhrottle/Quota", "admitted", "()Z"⟩ : MethodName)) hown (mvT hZ (hw _ (List.mem_of_getElem? (i := 22) rfl))) (mvT hZ (hw _ (List.mem_of_getElem? (i := 23) rfl))) (notFace_of_selects (args := #[]) (mvT hZ (hw _ (List.mem_of_getElem? (i := 25) rfl)))) (mvT hZ (hw _ (List.mem_of_getElem? (i := 25) rfl))) (mvT hZ (hw _ (List.mem_of_getElem? (i := 24) rfl))) (by decide) (backOf (W := 0) (own_rm4 l Z a0 hw [] b29 p0 w41_used Tg41.heap n0 Zz_5 F_44 F_58) hZ (hw _ (List.mem_of_getElem? (i := 26) rfl)) (hw _ (List.mem_of_getElem? (i := 2) rfl)) (by decide) (by decide)) qg58a qg58c (g := (mkF m 58 #[.val (.int p0), .val (.long q1), .second, .val (.long q2), .second, .val (.long q3), .second, .val (.ref b0), .val (.ref b14), .val (.ref b29), .unset] [(.ref b29)])) rfl (by rw [hml]; rfl) (Steps.refl _) (argsL := []) (rest := []) (lenOf own_pd2 rfl) rfl (by show 2 * 0 + _ ≤ _; exact Nat.le_of_eq rfl) (hb hby at_58) (fun _ _ => ⟨rfl, eg48, (by decide : 3 + 0 ≤ _), (by decide : 12 + 0 ≤ _)⟩)
  dsimp only [Pt.U, Pt.locs, Pt.cells, Pt.slots] at Xg58 lg58 yg58 zg58 stg58 hQg58
  subst lg58 yg58 zg58
  obtain ⟨rfl, Ng58q, eg58⟩ := hQg58
  have Ng58 := Fr.app Ng48 Ng58q
  refine own_st (fun _ k => stg58.trans k) ?_
  have c61 : ¬ (¬ ((p0.toInt64) < w41_used)) := by
    rw [hw41_used, Int64.lt_iff_toInt_lt]
    have h1 := c_ladd p0.toInt64 1
    have h2 := c_i2l p0
    have h3 := rng32 p0
    have h4 := rng64 (p0.toInt64 + 1)
    have h5 : (1 : Int64).toInt = 1 := by decide
    omega
  refine own_st (B := Tg58.setTop (mkF m 70 #[.val (.int p0), .val (.long q1), .second, .val (.long q2), .second, .val (.long q3), .second, .val (.ref b0), .val (.ref b14), .val (.ref b29), .unset] [(.int (lcmpW q1 (p0.toInt64)))])) (fun target kt => ?_) ?_
  · show Steps p.tables e below (Tg58.setTop (mkF m 61 #[.val (.int p0), .val (.long q1), .second, .val (.long q2), .second, .val (.long q3), .second, .val (.ref b0), .val (.ref b14), .val (.ref b29), .unset] [(.int (own_b (¬ ((p0.toInt64) < w41_used))))])) target
    refine XS.ifYes Xg58.here hx rfl (pc0 := 61) (pc' := 66) rfl (hb hby at_61) rfl ((if0 _ _).trans (teq (own_b00 rfl c61)).1) (by decide) (by decide) ?_
    show Steps p.tables e below (Tg58.setTop (mkF m 66 #[.val (.int p0), .val (.long q1), .second, .val (.long q2), .second, .val (.long q3), .second, .val (.ref b0), .val (.ref b14), .val (.ref b29), .unset] [])) target
    refine XS.lloadN Xg58.here hx rfl (hb hby at_66) rfl ?_
    show Steps p.tables e below (Tg58.setTop (mkF m 67 #[.val (.int p0), .val (.long q1), .second, .val (.long q2), .second, .val (.long q3), .second, .val (.ref b0), .val (.ref b14), .val (.ref b29), .unset] [(.long q1)])) target
    refine XS.iloadN Xg58.here hx rfl (hb hby at_67) rfl ?_
    show Steps p.tables e below (Tg58.setTop (mkF m 68 #[.val (.int p0), .val (.long q1), .second, .val (.long q2), .second, .val (.long q3), .second, .val (.ref b0), .val (.ref b14), .val (.ref b29), .unset] [(.int p0), (.long q1)])) target
    refine XS.i2l Xg58.here hx rfl (hb hby at_68) rfl ?_
    show Steps p.tables e below (Tg58.setTop (mkF m 69 #[.val (.int p0), .val (.long q1), .second, .val (.long q2), .second, .val (.long q3), .second, .val (.ref b0), .val (.ref b14), .val (.ref b29), .unset] [(.long (p0.toInt64)), (.long q1)])) target
    refine XS.lcmp Xg58.here hx rfl (hb hby at_69) rfl ?_
    exact kt
  obtain ⟨_, ⟨j82_l10, rfl, rfl⟩, st_M82⟩ : own_Lead p.tables e below (Tg58.setTop (mkF m 70 #[.val (.int p0), .val (.long q1), .second, .val (.long q2), .second, .val (.long q3), .second, .val (.ref b0), .val (.ref b14), .val (.ref b29), .unset] [(.int (lcmpW q1 (p0.toInt64)))])) (fun B => ∃ (j82_l10 : Int32), B = Tg58.setTop (mkF m 82 #[.val (.int p0), .val (.long q1), .second, .val (.long q2), .second, .val (.long q3), .second, .val (.ref b0), .val (.ref b14), .val (.ref b29), .val (.int j82_l10)] []) ∧ j82_l10 = own_b (¬ ((p0.toInt64) < q1))) := by
    by_cases c70 : (p0.toInt64) < q1
    · refine own_st (B := Tg58.setTop (mkF m 82 #[.val (.int p0), .val (.long q1), .second, .val (.long q2), .second, .val (.long q3), .second, .val (.ref b0), .val (.ref b14), .val (.ref b29), .val (.int (0 : Int32))] [])) (fun target kt => ?_) ?_
      · show Steps p.tables e below (Tg58.setTop (mkF m 70 #[.val (.int p0), .val (.long q1), .second, .val (.long q2), .second, .val (.long q3), .second, .val (.ref b0), .val (.ref b14), .val (.ref b29), .unset] [(.int (lcmpW q1 (p0.toInt64)))])) target
        refine XS.ifYes Xg58.here hx rfl (pc0 := 70) (pc' := 79) rfl (hb hby at_70) rfl ((if0 _ _).trans (tlt ((lw_gt q1 (p0.toInt64)).mpr c70)).2.2.1) (by decide) (by decide) ?_
        show Steps p.tables e below (Tg58.setTop (mkF m 79 #[.val (.int p0), .val (.long q1), .second, .val (.long q2), .second, .val (.long q3), .second, .val (.ref b0), .val (.ref b14), .val (.ref b29), .unset] [])) target
        refine XS.iconst Xg58.here hx rfl (hb hby at_79) ?_
        show Steps p.tables e below (Tg58.setTop (mkF m 80 #[.val (.int p0), .val (.long q1), .second, .val (.long q2), .second, .val (.long q3), .second, .val (.ref b0), .val (.ref b14), .val (.ref b29), .unset] [(.int (0 : Int32))])) target
        refine XS.istore Xg58.here hx rfl (hb hby at_80) rfl (l' := #[.val (.int p0), .val (.long q1), .second, .val (.long q2), .second, .val (.long q3), .second, .val (.ref b0), .val (.ref b14), .val (.ref b29), .val (.int (0 : Int32))]) rfl ?_
        exact kt
      exact ⟨_, ⟨(0 : Int32), rfl, (own_b0 (fun w => w c70)).symm⟩, fun _ k => k⟩
    · refine own_st (B := Tg58.setTop (mkF m 82 #[.val (.int p0), .val (.long q1), .second, .val (.long q2), .second, .val (.long q3), .second, .val (.ref b0), .val (.ref b14), .val (.ref b29), .val (.int (1 : Int32))] [])) (fun target kt => ?_) ?_
      · show Steps p.tables e below (Tg58.setTop (mkF m 70 #[.val (.int p0), .val (.long q1), .second, .val (.long q2), .second, .val (.long q3), .second, .val (.ref b0), .val (.ref b14), .val (.ref b29), .unset] [(.int (lcmpW q1 (p0.toInt64)))])) target
        refine XS.ifNo Xg58.here hx rfl (hb hby at_70) rfl ((if0 _ _).trans (flt (fun q => c70 ((lw_gt q1 (p0.toInt64)).mp q))).2.2.1) ?_
        show Steps p.tables e below (Tg58.setTop (mkF m 73 #[.val (.int p0), .val (.long q1), .second, .val (.long q2), .second, .val (.long q3), .second, .val (.ref b0), .val (.ref b14), .val (.ref b29), .unset] [])) target
        refine XS.iconst Xg58.here hx rfl (hb hby at_73) ?_
        show Steps p.tables e below (Tg58.setTop (mkF m 74 #[.val (.int p0), .val (.long q1), .second, .val (.long q2), .second, .val (.long q3), .second, .val (.ref b0), .val (.ref b14), .val (.ref b29), .unset] [(.int (1 : Int32))])) target
        refine XS.istore Xg58.here hx rfl (hb hby at_74) rfl (l' := #[.val (.int p0), .val (.long q1), .second, .val (.long q2), .second, .val (.long q3), .second, .val (.ref b0), .val (.ref b14), .val (.ref b29), .val (.int (1 : Int32))]) rfl ?_
        show Steps p.tables e below (Tg58.setTop (mkF m 76 #[.val (.int p0), .val (.long q1), .second, .val (.long q2), .second, .val (.long q3), .second, .val (.ref b0), .val (.ref b14), .val (.ref b29), .val (.int (1 : Int32))] [])) target
        refine XS.goto Xg58.here hx rfl (pc0 := 76) (pc' := 82) rfl (hb hby at_76) (by decide) (by decide) ?_
        exact kt
      exact ⟨_, ⟨(1 : Int32), rfl, (own_b1 c70).symm⟩, fun _ k => k⟩
  refine own_st st_M82 ?_
  refine own_st (B := Tg58.setTop (mkF m 84 #[.val (.int p0), .val (.long q1), .second, .val (.long q2), .second, .val (.long q3), .second, .val (.ref b0), .val (.ref b14), .val (.ref b29), .val (.int (own_b (¬ ((p0.toInt64) < q1))))] [(.ref b0)])) (fun target kt => ?_) ?_
  · show Steps p.tables e below (Tg58.setTop (mkF m 82 #[.val (.int p0), .val (.long q1), .second, .val (.long q2), .second, .val (.long q3), .second, .val (.ref b0), .val (.ref b14), .val (.ref b29), .val (.int (own_b (¬ ((p0.toInt64) < q1))))] [])) target
    refine XS.aload Xg58.here hx rfl (hb hby at_82) rfl rfl ?_
    exact kt
  obtain ⟨cqg84, kqg84, qg84a, qg84b, qg84c⟩ := isOf hZ eg58 F_48
  obtain ⟨_, _, ⟨Tg84, Lg84, kg84, ng84⟩, -, Xg84, ⟨Lcg84, hQg84, lg84, yg84, zg84⟩, stg84⟩ := Xg58.virtualBack hx (y := (⟨"com/example/even_throttle/eventhrottle/Quota", "admitted", "()Z"⟩ : MethodName)) (z := (⟨"com/example/even_throttle/eventhrottle/Quota", "admitted", "()Z"⟩ : MethodName)) hown (mvT hZ (hw _ (List.mem_of_getElem? (i := 22) rfl))) (mvT hZ (hw _ (List.mem_of_getElem? (i := 23) rfl))) (notFace_of_selects (args := #[]) (mvT hZ (hw _ (List.mem_of_getElem? (i := 25) rfl)))) (mvT hZ (hw _ (List.mem_of_getElem? (i := 25) rfl))) (mvT hZ (hw _ (List.mem_of_getElem? (i := 24) rfl))) (by decide) (backOf (W := 0) (own_rm4 l Z a0 hw [] b0 p0 q1 Tg41.heap n0 Zz_5 F_49 F_50) hZ (hw _ (List.mem_of_getElem? (i := 26) rfl)) (hw _ (List.mem_of_getElem? (i := 2) rfl)) (by decide) (by decide)) qg84a qg84c (g := (mkF m 84 #[.val (.int p0), .val (.long q1), .second, .val (.long q2), .second, .val (.long q3), .second, .val (.ref b0), .val (.ref b14), .val (.ref b29), .val (.int (own_b (¬ ((p0.toInt64) < q1))))] [(.ref b0)])) rfl (by rw [hml]; rfl) (Steps.refl _) (argsL := []) (rest := []) (lenOf own_pd2 rfl) rfl (by show 2 * 0 + _ ≤ _; exact Nat.le_of_eq rfl) (hb hby at_84) (fun _ _ => ⟨rfl, eg58, (by decide : 3 + 0 ≤ _), (by decide : 12 + 0 ≤ _)⟩)
  dsimp only [Pt.U, Pt.locs, Pt.cells, Pt.slots] at Xg84 lg84 yg84 zg84 stg84 hQg84
  subst lg84 yg84 zg84
  obtain ⟨rfl, Ng84q, eg84⟩ := hQg84
  have Ng84 := Fr.app Ng58 Ng84q
  refine own_st (fun _ k => stg84.trans k) ?_
  refine own_st (B := Tg84.setTop (mkF m 89 #[.val (.int p0), .val (.long q1), .second, .val (.long q2), .second, .val (.long q3), .second, .val (.ref b0), .val (.ref b14), .val (.ref b29), .val (.int (own_b (¬ ((p0.toInt64) < q1))))] [(.int (own_b (¬ ((p0.toInt64) < q1)))), (.int (own_b (¬ ((p0.toInt64) < q1))))])) (fun target kt => ?_) ?_
  · show Steps p.tables e below (Tg84.setTop (mkF m 87 #[.val (.int p0), .val (.long q1), .second, .val (.long q2), .second, .val (.long q3), .second, .val (.ref b0), .val (.ref b14), .val (.ref b29), .val (.int (own_b (¬ ((p0.toInt64) < q1))))] [(.int (own_b (¬ ((p0.toInt64) < q1))))])) target
    refine XS.iload Xg84.here hx rfl (hb hby at_87) rfl ?_
    exact kt
  have c89 : (¬ ((p0.toInt64) < q1)) ↔ (¬ ((p0.toInt64) < q1)) := by
    exact Iff.rfl
  refine own_st (B := Tg84.setTop (mkF m 97 #[.val (.int p0), .val (.long q1), .second, .val (.long q2), .second, .val (.long q3), .second, .val (.ref b0), .val (.ref b14), .val (.ref b29), .val (.int (own_b (¬ ((p0.toInt64) < q1))))] [(.int (1 : Int32))])) (fun target kt => ?_) ?_
  · show Steps p.tables e below (Tg84.setTop (mkF m 89 #[.val (.int p0), .val (.long q1), .second, .val (.long q2), .second, .val (.long q3), .second, .val (.ref b0), .val (.ref b14), .val (.ref b29), .val (.int (own_b (¬ ((p0.toInt64) < q1))))] [(.int (own_b (¬ ((p0.toInt64) < q1)))), (.int (own_b (¬ ((p0.toInt64) < q1))))])) target
    refine XS.icmpNo Xg84.here hx rfl (hb hby at_89) rfl (teq (own_bb rfl rfl c89)).2 ?_
    show Steps p.tables e below (Tg84.setTop (mkF m 92 #[.val (.int p0), .val (.long q1), .second, .val (.long q2), .second, .val (.long q3), .second, .val (.ref b0), .val (.ref b14), .val (.ref b29), .val (.int (own_b (¬ ((p0.toInt64) < q1))))] [])) target
    refine XS.iconst Xg84.here hx rfl (hb hby at_92) ?_
    show Steps p.tables e below (Tg84.setTop (mkF m 93 #[.val (.int p0), .val (.long q1), .second, .val (.long q2), .second, .val (.long q3), .second, .val (.ref b0), .val (.ref b14), .val (.ref b29), .val (.int (own_b (¬ ((p0.toInt64) < q1))))] [(.int (1 : Int32))])) target
    refine XS.goto Xg84.here hx rfl (pc0 := 93) (pc' := 97) rfl (hb hby at_93) (by decide) (by decide) ?_
    exact kt
  obtain ⟨fs, hr, hrun, hended, hW, hsame⟩ := Xg84.leave (v := some (.int (1 : Int32))) (fun h => by rw [Bd.returns] at h; cases h)
  have hend : Steps p.tables e below (Tg84.setTop (mkF m 97 #[.val (.int p0), .val (.long q1), .second, .val (.long q2), .second, .val (.long q3), .second, .val (.ref b0), .val (.ref b14), .val (.ref b29), .val (.int (own_b (¬ ((p0.toInt64) < q1))))] [(.int (1 : Int32))])) (Tg84.setFrames fs) := by
    exact retN Xg84 hx (t := .boolean) Bd.returns (by simp) (hb hby at_97) hr
  refine own_fin hend ⟨_, hrun, hended, _, _, rfl, ?_, ⟨_, rfl⟩, hW, hsame.mono (by decide) (by decide)⟩
  show own_Q0 Z p0 q1 q2 q3 h0 n0 _ Tg84.heap _
  rw [eg84]
  exact ⟨rfl, Ng84⟩
set_option maxRecDepth 65536 in
set_option maxHeartbeats 40000000 in
theorem own_comes_1 {Post : Tables → Env → Array Value → State → Outcome → State → Prop} (hpost : ∀ tb e args s v u, (limb_1_1.after args s (.returned v) u = true ∧ limb_1_2.after args s (.returned v) u = true ∧ True) → FrameEnd s (.returned v) u (Jvm.fieldLocs frame_1_writes args s ++ Jvm.arrayLocs frame_1_arrays args s ++ Jvm.staticLocs frame_1_statics s) 16 128 → Post tb e args s (.returned v) u) :
    ArmFor flags0 classFile x code maxLocals ret World_1 tables_1 room_1 Calls_1 rest_1 Pre_1 Post := by
  intro l hfl _ _ p e ha hc hk s m args below hf hA hF happ hP
  obtain ⟨hcalls, hrest, hpre⟩ := hP
  obtain ⟨-, -, -, hnamed, -, -, -, hat⟩ := (Spec.applies_iff hf).mp happ
  obtain ⟨hg, hn⟩ := and_e (Cond.before_iff.mp (show (Jvm.Cond.and given_1 narrow_1).before args s = true from hpre))
  obtain ⟨g1, g2⟩ := and_e hg
  obtain ⟨g3, g4⟩ := and_e g2
  obtain ⟨g5, g6⟩ := and_e g4
  obtain ⟨g7, g8⟩ := and_e g6
  obtain ⟨w0, w1, w2, w3, rfl⟩ : ∃ w0 w1 w2 w3 : Value, args = #[w0, w1, w2, w3] := by
    have hs : args.size = 4 := by simpa [Cond.value, given_1] using g1
    obtain ⟨L⟩ := args
    match L, hs with
    | [w0, w1, w2, w3], _ => exact ⟨w0, w1, w2, w3, rfl⟩
  have hw := fun d (hd : d ∈ tables_1) => atoms_spec (ws := Jvm.Cond.code x code maxLocals ret :: tables_1) hat d (List.mem_cons_of_mem _ hd)
  obtain ⟨i0, ei0⟩ := is_v g3
  obtain rfl : w0 = (.int i0) := Option.some.inj ei0
  obtain ⟨i1, ei1⟩ := isL_v g5
  obtain rfl : w1 = (.long i1) := Option.some.inj ei1
  obtain ⟨i2, ei2⟩ := isL_v g7
  obtain rfl : w2 = (.long i2) := Option.some.inj ei2
  obtain ⟨i3, ei3⟩ := isL_v g8
  obtain rfl : w3 = (.long i3) := Option.some.inj ei3
  obtain ⟨n, o, h1, h2, h3, _, L, rfl, ⟨rfl, N⟩, hq⟩ := own_rm0 l s _ hw tables_1 i0 i1 i2 i3 s.heap s.heap.size (Nat.le_refl _) p e ha hc hk s m _ below hf ((Spec.applies_iff_loose hf).mp happ).1 ⟨rfl, State.Warmed39.refl s, rfl⟩ trivial
  refine ⟨n, _, h1, h2, h3, hpost _ _ _ _ _ _ ⟨Cond.after_iff.mpr rfl, Cond.after_iff.mpr (eq_i res_at (Term.int_eval (1)) rfl), trivial⟩ ⟨hq.1, hq.2.1, (hq.2.2.sift fun y hy => Or.inr (N y hy)).mono (by decide) (by decide)⟩⟩
theorem main_1_1 : Claimed_1_1 := own_comes_1 fun _ _ _ _ _ _ h hF => ⟨h.1, hF⟩
theorem main_1_2 : Claimed_1_2 := own_comes_1 fun _ _ _ _ _ _ h hF => ⟨h.2.1, hF⟩
end Jvm.Pilot.@@N@@
namespace Jvm.Pilot.@@N@@
open Jvm Jvm.ClassFile Sem Op Lib Jvm.Free Jvm.Stand Jvm.Pilot.@@N@@.Jvm.D
/-! MADE BY PROGRAM (witnessworld.py) out of the Statement's table words and the real class files: 10 classes; the members and pool entries that the words name. The judged class is class 1, her method 1. -/
namespace start1
open Jvm.ClassFile
def u (s : String) : CpInfo := .utf8 (stringToUtf16 s)
/-- a pool by its gaps: so many unusable entries, then the entry; so many at the end -/
def gap : Nat → List CpInfo → List CpInfo
  | 0, r => r
  | n + 1, r => .unusable :: gap n r
def poolList (es : List (Nat × CpInfo)) (last : Nat) : List CpInfo := es.foldr (fun e r => gap e.1 (e.2 :: r)) (gap last [])
def pool (es : List (Nat × CpInfo)) (last : Nat) : Array CpInfo := ⟨poolList es last⟩
def fileOf (pool : Array CpInfo) (this : Nat) (attrs : Array Attribute := #[]) (ms : Array MethodInfo := #[]) (fl : Nat := 33) (sup : Nat := 0) (ifs : Array Nat := #[]) (fds : Array FieldInfo := #[]) : ClassFile where
  minorVersion := 0
  majorVersion := 65
  constantPool := pool
  accessFlags := fl
  thisClass := this
  superClass := sup
  interfaces := ifs
  fields := fds
  methods := ms
  attributes := attrs
def plain (name : String) (sup : Option ClassId) : Class where
  name := name
  kind := .ordinary
  loader := none
  accessFlags := 33
  super := sup
  interfaces := #[]
  cf := none
  fields := #[]
  methods := #[]
  instanceTypes := #[]
  staticTypes := #[]
  resolved := #[]
  callSites := []
  init := .initialized
  statics := none
  mirror := none

def pool0 : Array CpInfo := pool [(5, u "<init>"), (0, u "()V"), (1, .class_ 10), (1, u "java/lang/Object")] 113

def k0c0 : Code := { maxStack := 0, maxLocals := 1, code := object_method_1_code, exceptionTable := #[], attributes := #[] }
def k0m0 : Method := { name := "<init>", desc := "()V", sig := { parameters := [], returnType := none }, accessFlags := 1, code := some k0c0 }
/-- java/lang/Object -/
def k0 : Class := { plain "java/lang/Object" none with
  accessFlags := 33
  interfaces := #[]
  cf := some (fileOf pool0 8 #[] #[{ accessFlags := 1, nameIndex := 5, descriptorIndex := 6, attributes := #[] }] 33 0 #[] #[])
  fields := #[]
  methods := #[k0m0]
  instanceTypes := #[]
  staticTypes := #[]
  resolved := Array.replicate 124 none
  statics := none }

def pool1 : Array CpInfo := pool [(2, .class_ 4), (1, u "java/lang/Object"), (0, u "<init>"), (0, u "()V"), (0, .class_ 8), (0, u "com/example/even_throttle/eventhrottle/Quota"), (0, .methodref 7 10), (0, .nameAndType 5 11), (0, u "(IJJJ)V"), (0, .methodref 7 13), (0, .nameAndType 14 15), (0, u "admitted"), (0, u "()Z"), (0, .class_ 17), (0, u "com/example/even_throttle/eventhrottle/QuotaAdmittedPinLaw"), (2, u "law"), (0, u "(IJJJ)Z")] 3

def k1m0 : Method := { name := "<init>", desc := "()V", sig := { parameters := [], returnType := none }, accessFlags := 2, code := none }
def k1c1 : Code := { maxStack := 9, maxLocals := 11, code := code, exceptionTable := #[], attributes := #[] }
def k1m1 : Method := { name := "law", desc := "(IJJJ)Z", sig := { parameters := [.int, .long, .long, .long], returnType := some .boolean }, accessFlags := 9, code := some k1c1 }
/-- com/example/even_throttle/eventhrottle/QuotaAdmittedPinLaw -/
def k1 : Class := { plain "com/example/even_throttle/eventhrottle/QuotaAdmittedPinLaw" (some 0) with
  accessFlags := 49
  interfaces := #[]
  cf := some (fileOf pool1 16 #[] #[{ accessFlags := 2, nameIndex := 5, descriptorIndex := 6, attributes := #[] }, { accessFlags := 9, nameIndex := 20, descriptorIndex := 21, attributes := #[] }] 49 2 #[] #[])
  fields := #[]
  methods := #[k1m0, k1m1]
  instanceTypes := #[]
  staticTypes := #[]
  resolved := Array.replicate 25 none
  statics := none }

def pool2 : Array CpInfo := pool [(1, .methodref 2 3), (0, .class_ 4), (0, .nameAndType 5 6), (0, u "java/lang/Object"), (0, u "<init>"), (0, u "()V"), (0, .class_ 8), (0, u "java/lang/Record")] 13

def k2c0 : Code := { maxStack := 1, maxLocals := 1, code := jdk_30_method_1_code, exceptionTable := #[], attributes := #[] }
def k2m0 : Method := { name := "<init>", desc := "()V", sig := { parameters := [], returnType := none }, accessFlags := 4, code := some k2c0 }
/-- java/lang/Record -/
def k2 : Class := { plain "java/lang/Record" (some 0) with
  accessFlags := 1057
  interfaces := #[]
  cf := some (fileOf pool2 7 #[] #[{ accessFlags := 4, nameIndex := 5, descriptorIndex := 6, attributes := #[] }] 1057 2 #[] #[])
  fields := #[]
  methods := #[k2m0]
  instanceTypes := #[]
  staticTypes := #[]
  resolved := Array.replicate 22 none
  statics := none }

def pool3 : Array CpInfo := pool [(1, .methodref 2 3), (0, .class_ 4), (0, .nameAndType 5 6), (0, u "java/lang/Record"), (0, u "<init>"), (0, u "()V"), (0, .fieldref 8 9), (0, .class_ 10), (0, .nameAndType 11 12), (0, u "com/example/even_throttle/eventhrottle/Quota"), (0, u "limit"), (0, u "I"), (0, .fieldref 8 14), (0, .nameAndType 15 16), (0, u "used"), (0, u "J"), (0, .fieldref 8 18), (0, .nameAndType 19 16), (0, u "reset"), (0, .fieldref 8 21), (0, .nameAndType 22 16), (0, u "untilReset"), (8, u "(IJJJ)V"), (23, u "admitted"), (0, u "()Z")] 29

def k3c0 : Code := { maxStack := 3, maxLocals := 8, code := prog_6_method_1_code, exceptionTable := #[], attributes := #[] }
def k3m0 : Method := { name := "<init>", desc := "(IJJJ)V", sig := { parameters := [.int, .long, .long, .long], returnType := none }, accessFlags := 0, code := some k3c0 }
def k3c1 : Code := { maxStack := 4, maxLocals := 1, code := prog_6_method_3_code, exceptionTable := #[], attributes := #[] }
def k3m1 : Method := { name := "admitted", desc := "()Z", sig := { parameters := [], returnType := some .boolean }, accessFlags := 0, code := some k3c1 }
/-- com/example/even_throttle/eventhrottle/Quota -/
def k3 : Class := { plain "com/example/even_throttle/eventhrottle/Quota" (some 2) with
  accessFlags := 48
  interfaces := #[]
  cf := some (fileOf pool3 8 #[] #[{ accessFlags := 0, nameIndex := 5, descriptorIndex := 31, attributes := #[] }, { accessFlags := 0, nameIndex := 55, descriptorIndex := 56, attributes := #[] }] 48 2 #[] #[{ accessFlags := 18, nameIndex := 11, descriptorIndex := 12, attributes := #[] }, { accessFlags := 18, nameIndex := 15, descriptorIndex := 16, attributes := #[] }, { accessFlags := 18, nameIndex := 19, descriptorIndex := 16, attributes := #[] }, { accessFlags := 18, nameIndex := 22, descriptorIndex := 16, attributes := #[] }])
  fields := #[{ name := "limit", type := .int, accessFlags := 18, slot := 0, constantValue := 0 }, { name := "used", type := .long, accessFlags := 18, slot := 1, constantValue := 0 }, { name := "reset", type := .long, accessFlags := 18, slot := 2, constantValue := 0 }, { name := "untilReset", type := .long, accessFlags := 18, slot := 3, constantValue := 0 }]
  methods := #[k3m0, k3m1]
  instanceTypes := #[.int, .long, .long, .long]
  staticTypes := #[]
  resolved := Array.replicate 86 none
  statics := none }

def pool4 : Array CpInfo := pool [(1, u "java/lang/Cloneable"), (0, .class_ 1), (0, u "java/lang/Object"), (0, .class_ 3)] 3

/-- java/lang/Cloneable -/
def k4 : Class := { plain "java/lang/Cloneable" (some 0) with
  accessFlags := 1537
  interfaces := #[]
  cf := some (fileOf pool4 2 #[] #[] 1537 4 #[] #[])
  fields := #[]
  methods := #[]
  instanceTypes := #[]
  staticTypes := #[]
  resolved := Array.replicate 8 none
  statics := none }

def pool5 : Array CpInfo := pool [(1, u "java/io/Serializable"), (0, .class_ 1), (0, u "java/lang/Object"), (0, .class_ 3)] 3

/-- java/io/Serializable -/
def k5 : Class := { plain "java/io/Serializable" (some 0) with
  accessFlags := 1537
  interfaces := #[]
  cf := some (fileOf pool5 2 #[] #[] 1537 4 #[] #[])
  fields := #[]
  methods := #[]
  instanceTypes := #[]
  staticTypes := #[]
  resolved := Array.replicate 8 none
  statics := none }

/-- the primitive byte -/
def k6 : Class := { plain "byte" none with kind := .primitive 'B', accessFlags := 0x411 }
/-- [B -/
def k7 : Class := { plain "[B" (some 0) with kind := .array 6 .byte, interfaces := #[4, 5], accessFlags := 1041 }

/-- the primitive int -/
def k8 : Class := { plain "int" none with kind := .primitive 'I', accessFlags := 0x411 }
/-- [I -/
def k9 : Class := { plain "[I" (some 0) with kind := .array 8 .int, interfaces := #[4, 5], accessFlags := 1041 }

def heap : Heap := #[]
def classes : Array Class := #[k0, k1, k2, k3, k4, k5, k6, k7, k8, k9]
def interned : List (Array UInt16 × Addr) := []
def slotsUsed : Nat := 0
def theMethod : MethodId := ⟨1, 1⟩
def args0 : Array Value := #[.int 3, .long 4, .long 5, .long 6]
def aboutOver (below : List Frame) : State where
  vm := { classes := classes, interned := interned.toArray }
  heap := heap
  slotsUsed := slotsUsed
  threads := #[{ frames := .invoking theMethod args0 :: below }]
def below0 : List Frame := [.native { method := ⟨0, 0⟩, args := #[] }]
def about1 : State := aboutOver below0
def p0 : Program := .bare "" "" ""
def e0 : Env := launch0.env 0 0 0
theorem w_frames : about1.frames = Frame.invoking theMethod args0 :: below0 := rfl
set_option maxRecDepth 65536 in
theorem w_args : argsFit about1.vm theMethod args0 = true := by decide +kernel
set_option maxRecDepth 65536 in
theorem w_heap : heapFits about1 = true := by decide +kernel
set_option maxRecDepth 65536 in
theorem w_runnable : about1.curStatus? = some .runnable := by decide +kernel
set_option maxRecDepth 65536 in
theorem w_alone : about1.alone = true := by decide +kernel
set_option maxRecDepth 65536 in
theorem w_named : about1.methodNamed? x = some theMethod := by decide +kernel
set_option maxRecDepth 65536 in
theorem w_hears : about1.hears theMethod below0 = true := by decide +kernel
set_option maxRecDepth 65536 in
theorem w_ripe : about1.ripe theMethod args0 below0 = true := by decide +kernel
theorem w_running : about1.status = .running := rfl
set_option maxRecDepth 65536 in
theorem w_room : about1.hasRoom e0.platform room_1 = true :=
  launch0.hasRoom_least _ room_1 (by decide +kernel) (by decide +kernel) (by decide +kernel) (by decide +kernel) (by decide +kernel) (by decide +kernel)
theorem allAtoms_all (ts : List Jvm.Cond) (a : Array Jvm.Value) (st : Jvm.State) : (allAtoms ts).before a st = ts.all (fun c => c.before a st) := by
  induction ts with
  | nil => rfl
  | cons c t ih =>
    show (Jvm.Cond.and c (allAtoms t)).before a st = _
    rw [Jvm.Cond.before_and, ih, List.all_cons]
def words1 : List Jvm.Cond := Jvm.Cond.code x code maxLocals ret :: tables_1
/-- a 'code' word, met by the world's own term for the bytes: nothing is compared byte by byte -/
theorem code_word {y : MethodName} {bytes : ByteArray} {mx : Nat} {rt : Option FieldType} {a : Array Value} {s : State} {m : MethodId} {meth : Method} {c : Code} (h1 : s.methodNamed? y = some m) (h2 : s.vm.method? m = some meth) (h3 : meth.code = some c) (h4 : c.code = bytes)
    (h5 : (c.maxLocals == mx && c.exceptionTable.isEmpty && decide (c.maxStack ≤ mostOperands) && decide (meth.sig.returnType = rt) && !meth.locks && decide (parseMethodDescriptor y.desc = some meth.sig)) = true) : (Jvm.Cond.code y bytes mx rt).before a s = true := by
  simp only [Bool.and_eq_true, beq_iff_eq, Bool.not_eq_true', decide_eq_true_eq] at h5
  obtain ⟨⟨⟨⟨⟨g1, g2⟩, g3⟩, g4⟩, g5⟩, g6⟩ := h5
  simp [Cond.before, Cond.holds, Cond.value, h1, h2, h3, h4, g1, g2, g3, g4, g5, g6]
def isCode : Jvm.Cond → Bool
  | .code _ _ _ _ => true
  | _ => false
theorem all_split {L : List Jvm.Cond} {P : Jvm.Cond → Bool} (h1 : L.all (fun c => isCode c || P c) = true) (h2 : ∀ c ∈ L.filter isCode, P c = true) : L.all P = true := by
  refine List.all_eq_true.mpr fun c hc => ?_
  have h := List.all_eq_true.mp h1 c hc
  rcases Bool.eq_false_or_eq_true (isCode c) with hi | hi
  · exact h2 c (List.mem_filter.mpr ⟨hc, hi⟩)
  · simpa [hi] using h
set_option maxRecDepth 65536 in
theorem w_c0 : (Jvm.Cond.code x code maxLocals ret).before args0 about1 = true := code_word (m := ⟨1, 1⟩) (meth := k1m1) (c := k1c1) (by decide +kernel) rfl rfl rfl (by decide +kernel)
set_option maxRecDepth 65536 in
theorem w_c1 : (Jvm.Cond.code ({ cls := "com/example/even_throttle/eventhrottle/Quota", name := "<init>", desc := "(IJJJ)V" } : Jvm.MethodName) prog_6_method_1_code (8 : Nat) (Option.none : Option Jvm.ClassFile.FieldType)).before args0 about1 = true := code_word (m := ⟨3, 0⟩) (meth := k3m0) (c := k3c0) (by decide +kernel) rfl rfl rfl (by decide +kernel)
set_option maxRecDepth 65536 in
theorem w_c2 : (Jvm.Cond.code ({ cls := "java/lang/Record", name := "<init>", desc := "()V" } : Jvm.MethodName) jdk_30_method_1_code (1 : Nat) (Option.none : Option Jvm.ClassFile.FieldType)).before args0 about1 = true := code_word (m := ⟨2, 0⟩) (meth := k2m0) (c := k2c0) (by decide +kernel) rfl rfl rfl (by decide +kernel)
set_option maxRecDepth 65536 in
theorem w_c3 : (Jvm.Cond.code ({ cls := "java/lang/Object", name := "<init>", desc := "()V" } : Jvm.MethodName) object_method_1_code (1 : Nat) (Option.none : Option Jvm.ClassFile.FieldType)).before args0 about1 = true := code_word (m := ⟨0, 0⟩) (meth := k0m0) (c := k0c0) (by decide +kernel) rfl rfl rfl (by decide +kernel)
set_option maxRecDepth 65536 in
theorem w_c4 : (Jvm.Cond.code ({ cls := "com/example/even_throttle/eventhrottle/Quota", name := "admitted", desc := "()Z" } : Jvm.MethodName) prog_6_method_3_code (1 : Nat) (Option.some Jvm.ClassFile.FieldType.boolean)).before args0 about1 = true := code_word (m := ⟨3, 1⟩) (meth := k3m1) (c := k3c1) (by decide +kernel) rfl rfl rfl (by decide +kernel)
def codes1 : List Jvm.Cond := [Jvm.Cond.code x code maxLocals ret, Jvm.Cond.code ({ cls := "com/example/even_throttle/eventhrottle/Quota", name := "<init>", desc := "(IJJJ)V" } : Jvm.MethodName) prog_6_method_1_code (8 : Nat) (Option.none : Option Jvm.ClassFile.FieldType), Jvm.Cond.code ({ cls := "java/lang/Record", name := "<init>", desc := "()V" } : Jvm.MethodName) jdk_30_method_1_code (1 : Nat) (Option.none : Option Jvm.ClassFile.FieldType), Jvm.Cond.code ({ cls := "java/lang/Object", name := "<init>", desc := "()V" } : Jvm.MethodName) object_method_1_code (1 : Nat) (Option.none : Option Jvm.ClassFile.FieldType), Jvm.Cond.code ({ cls := "com/example/even_throttle/eventhrottle/Quota", name := "admitted", desc := "()Z" } : Jvm.MethodName) prog_6_method_3_code (1 : Nat) (Option.some Jvm.ClassFile.FieldType.boolean)]
set_option maxRecDepth 65536 in
theorem codes_eq : words1.filter isCode = codes1 := rfl
theorem w_codes : ∀ c ∈ words1.filter isCode, c.before args0 about1 = true := by
  rw [codes_eq]
  intro c hc
  simp only [codes1, List.mem_cons, List.not_mem_nil, or_false] at hc
  rcases hc with rfl | rfl | rfl | rfl | rfl
  · exact w_c0
  · exact w_c1
  · exact w_c2
  · exact w_c3
  · exact w_c4
set_option maxRecDepth 65536 in
theorem w_t1 : (words1.take 24).all (fun c => isCode c || c.before args0 about1) = true := by decide +kernel
set_option maxRecDepth 65536 in
theorem w_t2 : (words1.drop 24).all (fun c => isCode c || c.before args0 about1) = true := by decide +kernel
theorem w_tables : (allAtoms (Jvm.Cond.code x code maxLocals ret :: tables_1)).before args0 about1 = true := by
  rw [allAtoms_all]
  show words1.all (fun c => c.before args0 about1) = true
  refine all_split ?_ w_codes
  rw [← List.take_append_drop 24 words1, List.all_append, w_t1, w_t2]
  rfl
set_option maxRecDepth 65536 in
theorem w_case : (Jvm.Cond.and given_1 narrow_1).before args0 about1 = true := by decide +kernel
theorem w_applies : (headSpec (Jvm.Cond.code x code maxLocals ret :: tables_1) room_1).applies x e0.platform about1 = true :=
  (Spec.applies_iff w_frames).mpr ⟨w_running, w_runnable, w_alone, w_named, w_hears, w_ripe, w_room, w_tables⟩
theorem atStart : AtStart classFile x code maxLocals ret World_1 tables_1 room_1 Calls_1 rest_1 Pre_1 launch0 p0 e0 about1 theMethod args0 below0 :=
  ⟨lists_1, trivial, launch0.admits_env _ _ _, launch0.least_env, fairChoices_fair.cas, fairChoices_fair.clock, w_frames, w_args, w_heap, w_applies, trivial, trivial, w_case⟩
end start1
theorem witness_1 : WitnessClaimed_1 := ⟨start1.p0, start1.e0, start1.about1, start1.theMethod, start1.args0, start1.below0, start1.atStart⟩
end Jvm.Pilot.@@N@@
