import JvmDerived
import JvmDerived.Pilot.@@N@@Statement
import JvmDerived.Pilot.@@N@@Code
set_option linter.unusedVariables false
set_option linter.unusedSimpArgs false
namespace Jvm.RoadKit
open Sem ClassFile Op Lib Jvm.Stand Jvm.Free Jvm.LawKit
section New
variable {p : Program} {l : Launch} {e : Env} {R : Room} {s : State} {m : MethodId} {args : Array Value} {below : List Frame} {meth : Method} {c : Code} {T : State} {locs : List Loc} {cells slots : Nat}
theorem retI (X : Stand p l e R s m args below meth c T locs cells slots) (hx : p.tables.exec = Jvm.exec) {pc : Nat} {Ls : Array Slot} {z : Int32} {rest : List Value} (hret : meth.sig.returnType = some .int) (hd : decode c.code pc = .ok (.ireturn, 1)) {fs : List Frame}
    (hl : ∀ (f : JFrame) (acts : List Action), f.method = m → f.locked = none → f.entered = [] → (doReturn e (T.setTop f) acts (some (.int z))).1 = T.setFrames fs) : Steps p.tables e below (T.setTop (mkF m pc Ls (.int z :: rest))) (T.setFrames fs) := by
  have hm' : T.vm.method? m = some meth := X.method'
  have hn : narrow .int (.int z) = .int z := rfl
  show Steps p.tables e below (T.setTop { method := m, pc := pc, locals := Ls, stack := _ :: rest, locked := none }) _
  jvm_step X.here [X.here.top, hx, hd, hm', hret, hn]
  first | (intro acts; rw [hl _ acts rfl rfl rfl]) | rw [hl _ _ rfl rfl rfl]
  exact Steps.refl _
end New
/-- from the state A the run comes to a state that P describes -/
def own_Lead (tb : Tables) (e : Env) (below : List Frame) (A : State) (P : State → Prop) : Prop := ∃ B, P B ∧ ∀ t, Steps tb e below B t → Steps tb e below A t
theorem own_st {tb : Tables} {e : Env} {below : List Frame} {A B : State} {P : State → Prop} (st : ∀ t, Steps tb e below B t → Steps tb e below A t) (h : own_Lead tb e below B P) : own_Lead tb e below A P := by
  obtain ⟨C, hp, hs⟩ := h
  exact ⟨C, hp, fun t k => st t (hs t k)⟩
theorem own_fin {tb : Tables} {e : Env} {below : List Frame} {A B : State} {P : State → Prop} (st : Steps tb e below A B) (h : P B) : own_Lead tb e below A P := ⟨B, h, fun t k => st.trans k⟩
theorem own_run {tb : Tables} {e : Env} {below : List Frame} {A : State} {K : State → Outcome → Prop} (h : own_Lead tb e below A (fun B => ∃ o, K B o)) : ∃ s₂ o, Steps tb e below A s₂ ∧ K s₂ o := by
  obtain ⟨B, ⟨o, hk⟩, st⟩ := h
  exact ⟨B, o, st B (Steps.refl _), hk⟩
/-- a boolean as an int -/
def own_b (P : Prop) [Decidable P] : Int32 := if P then 1 else 0
theorem own_b1 {P : Prop} [Decidable P] (h : P) : own_b P = 1 := if_pos h
theorem own_b0 {P : Prop} [Decidable P] (h : ¬ P) : own_b P = 0 := if_neg h
theorem own_bi {P Q : Prop} [Decidable P] [Decidable Q] (h : P ↔ Q) : own_b P = own_b Q := by
  by_cases hp : P
  · rw [own_b1 hp, own_b1 (h.mp hp)]
  · rw [own_b0 hp, own_b0 (fun q => hp (h.mpr q))]
theorem own_bn0 {P : Prop} [Decidable P] {x : Int32} (hx : x = own_b P) (h : P) : ¬ x = 0 := by rw [hx, own_b1 h]; decide
theorem own_b00 {P : Prop} [Decidable P] {x : Int32} (hx : x = own_b P) (h : ¬ P) : x = 0 := by rw [hx, own_b0 h]
theorem own_bb {P Q : Prop} [Decidable P] [Decidable Q] {x y : Int32} (hx : x = own_b P) (hy : y = own_b Q) (h : P ↔ Q) : x = y := by rw [hx, hy, own_bi h]
theorem own_bbn {P Q : Prop} [Decidable P] [Decidable Q] {x y : Int32} (hx : x = own_b P) (hy : y = own_b Q) (h : ¬ (P ↔ Q)) : ¬ x = y := by
  rw [hx, hy]
  intro e
  apply h
  by_cases hp : P <;> by_cases hq : Q
  · exact ⟨fun _ => hq, fun _ => hp⟩
  · rw [own_b1 hp, own_b0 hq] at e; exact absurd e (by decide)
  · rw [own_b0 hp, own_b1 hq] at e; exact absurd e (by decide)
  · exact ⟨fun q => absurd q hp, fun q => absurd q hq⟩
theorem own_cast {Z : State} {h : Heap} {a : Addr} {C n d : String} {v w : Value} (e : v = w) (F : Fld Z h a C n d v) : Fld Z h a C n d w := e ▸ F
section Copy
variable {p : Program} {l : Launch} {e : Env} {R : Room} {s : State} {m : MethodId} {args : Array Value} {below : List Frame} {meth : Method} {c : Code} {T : State} {locs : List Loc} {cells slots : Nat} {Z : State} {h : Heap} {a b : Addr}
end Copy
section Cold
variable {p : Program} {l : Launch} {e : Env} {R : Room} {s : State} {vm0 : Vm} {m : MethodId} {args : Array Value} {below : List Frame} {meth : Method} {c : Code} {T : State} {locs : List Loc} {cells slots : Nat} {Z : State} {a0 : Array Value} {h : Heap}
end Cold
end Jvm.RoadKit
namespace Jvm.Pilot.@@N@@
open Jvm Jvm.ClassFile Sem Op Lib Jvm.Free Jvm.Stand Jvm.LawKit Jvm.RoadKit Bundle Jvm.Pilot.@@N@@.Jvm.D
theorem own_lim (a : Int32) : ¬ ((a &&& (2147483647 : Int32)) % (1001 : Int32)) < (0 : Int32) ∧ ¬ (1000 : Int32) < ((a &&& (2147483647 : Int32)) % (1001 : Int32)) := by
  have h1 := c_mask a 2147483647 31 (by decide) (by decide)
  have h2 := (c_irem (a &&& 2147483647) 1001 1001 (by decide)).1
  rw [h1] at h2
  have h3 := h2 (by omega)
  have e0 : (0 : Int32).toInt = 0 := by decide
  have e1 : (1000 : Int32).toInt = 1000 := by decide
  rw [Int32.lt_iff_toInt_lt, Int32.lt_iff_toInt_lt, h3, e0, e1]
  omega
theorem own_pn0 : plainName "com/example/wireform/wireform/wire/Nesting" = true := by first | (simp [plainName, overriddenIn]; done) | decide +kernel
theorem own_d1_0 : decode prog_67_method_1_code 0 = .ok (.aload_n 0, 1) := by decide +kernel
theorem own_d1_1 : decode prog_67_method_1_code 1 = .ok (.invokespecial 1, 3) := by decide +kernel
theorem own_d1_4 : decode prog_67_method_1_code 4 = .ok (.iload_n 1, 1) := by decide +kernel
theorem own_d1_5 : decode prog_67_method_1_code 5 = .ok (.ifCond .lt 10, 3) := by decide +kernel
theorem own_d1_8 : decode prog_67_method_1_code 8 = .ok (.iload_n 1, 1) := by decide +kernel
theorem own_d1_9 : decode prog_67_method_1_code 9 = .ok (.sipush 1000, 3) := by decide +kernel
theorem own_d1_12 : decode prog_67_method_1_code 12 = .ok (.if_icmp .le 17, 3) := by decide +kernel
theorem own_d1_29 : decode prog_67_method_1_code 29 = .ok (.aload_n 0, 1) := by decide +kernel
theorem own_d1_30 : decode prog_67_method_1_code 30 = .ok (.iload_n 1, 1) := by decide +kernel
theorem own_d1_31 : decode prog_67_method_1_code 31 = .ok (.putfield 18, 3) := by decide +kernel
theorem own_d1_34 : decode prog_67_method_1_code 34 = .ok (.return_, 1) := by decide +kernel
theorem own_ef1 (m : MethodId) (r0 : Addr) (p1 : Int32) : entryFrame m #[(.ref r0), (.int p1)] 2 = mkF m 0 #[.val (.ref r0), .val (.int p1)] [] := by first | (simp [entryFrame, mkF, argsToLocals, Value.category]; done) | rfl
def own_Q1 (Z : State) (r0 : Addr) (p1 : Int32) (h0 : Heap) (n0 : Nat) (v : Option Value) (h : Heap) (L : List Loc) : Prop := (v = none) ∧ (Fr n0 L) ∧ (Keep h0 h [r0]) ∧ (Exa Z h r0 "com/example/wireform/wireform/wire/Nesting") ∧ (Fld Z h r0 "com/example/wireform/wireform/wire/Nesting" "limit" "I" (.int p1)) ∧ (Fld Z h r0 "com/example/wireform/wireform/wire/Nesting" "depth" "I" (.int (0 : Int32)))
set_option maxRecDepth 65536 in
set_option maxHeartbeats 40000000 in
theorem own_rm1 (l : Launch) (Z : State) (a0 : Array Value) (hw : ∀ d ∈ tables_1, d.before a0 Z = true) (ws : List Jvm.Cond) (r0 : Addr) (p1 : Int32) (h0 : Heap) (n0 : Nat) (Z0 : n0 ≤ h0.size) (E_r0 : Exa Z h0 r0 "com/example/wireform/wireform/wire/Nesting") (F_r0_limit : Fld Z h0 r0 "com/example/wireform/wireform/wire/Nesting" "limit" "I" (.int (0 : Int32))) (F_r0_depth : Fld Z h0 r0 "com/example/wireform/wireform/wire/Nesting" "depth" "I" (.int (0 : Int32))) (g_r0 : n0 ≤ r0) (hlo : ¬ (p1 < (0 : Int32))) (hhi : ¬ ((1000 : Int32) < p1)) :
    MetFree l (⟨"com/example/wireform/wireform/wire/Nesting", "<init>", "(I)V"⟩ : MethodName) (head1 (Jvm.Cond.code (⟨"com/example/wireform/wireform/wire/Nesting", "<init>", "(I)V"⟩ : MethodName) prog_67_method_1_code 2 none :: ws) ({ frames := 1, cells := 0, slots := 0, locals := 12 } : Room)) (fun a U => a = #[(.ref r0), (.int p1)] ∧ Z.Warmed39 U.vm ∧ U.heap = h0) (fun _ _ _ _ _ => True) (fun _ U o U' => ∃ v L, o = .returned v ∧ own_Q1 Z r0 p1 h0 n0 v U'.heap L ∧ FrameEnd U o U' L ({ frames := 1, cells := 0, slots := 0, locals := 12 } : Room).cells ({ frames := 1, cells := 0, slots := 0, locals := 12 } : Room).slots) := by
  refine MetFree.of_bodySF (plainFor_of_name own_pn0) hisR ?_
  intro p e s m args below meth c s₁ Bd hml0 hP hK
  obtain ⟨rfl, hZ, hh⟩ := hP
  have hx := Bd.exec
  have hby := Bd.bytes
  have hml : c.maxLocals = 2 := hml0
  have hown : s.vm.findClass "com/example/wireform/wireform/wire/Nesting" = some m.cls := findClass_of_methodNamed Bd.named
  have hnm := (name_of_methodNamed Bd.named Bd.method).1
  have X0 : Stand p l e ({ frames := 1, cells := 0, slots := 0, locals := 12 } : Room) s m #[(.ref r0), (.int p1)] below meth c s₁ [] 0 0 := Stand.of_body Bd
  have e0 : s₁.heap = h0 := by rw [← hh, Bd.state]; rfl
  have N0 := Fr.nil n0
  have pre0 : ∀ t, Steps p.tables e below (s₁.setTop (mkF m 0 #[.val (.ref r0), .val (.int p1)] [])) t → Steps p.tables e below (s₁.setTop (entryFrame m #[(.ref r0), (.int p1)] 2)) t := fun t k => castTop (own_ef1 m r0 p1) k
  refine own_run (own_st pre0 ?_)
  refine own_st (B := s₁.setTop (mkF m 1 #[.val (.ref r0), .val (.int p1)] [(.ref r0)])) (fun target kt => ?_) ?_
  · show Steps p.tables e below (s₁.setTop (mkF m 0 #[.val (.ref r0), .val (.int p1)] [])) target
    refine XS.aloadN X0.here hx rfl (hb hby own_d1_0) rfl rfl ?_
    exact kt
  obtain ⟨Tg1, Xg1, eg1, stg1⟩ := initO X0 hx hZ hown (hw _ (List.mem_of_getElem? (i := 7) rfl)) (hw _ (List.mem_of_getElem? (i := 8) rfl)) (hw _ (List.mem_of_getElem? (i := 9) rfl)) e0 (g := (mkF m 1 #[.val (.ref r0), .val (.int p1)] [(.ref r0)])) rfl (by rw [hml]; rfl) rfl (hb hby own_d1_1) (by decide) (W := 0) (by show 2 * 0 + _ ≤ _; exact Nat.le_of_eq rfl) (by decide)
  refine own_st stg1 ?_
  refine own_st (B := Tg1.setTop (mkF m 5 #[.val (.ref r0), .val (.int p1)] [(.int p1)])) (fun target kt => ?_) ?_
  · show Steps p.tables e below (Tg1.setTop (mkF m 4 #[.val (.ref r0), .val (.int p1)] [])) target
    refine XS.iloadN Xg1.here hx rfl (hb hby own_d1_4) rfl ?_
    exact kt
  have c5 : ¬ (p1 < (0 : Int32)) := by
    exact hlo
  refine own_st (B := Tg1.setTop (mkF m 12 #[.val (.ref r0), .val (.int p1)] [(.int (1000 : Int32)), (.int p1)])) (fun target kt => ?_) ?_
  · show Steps p.tables e below (Tg1.setTop (mkF m 5 #[.val (.ref r0), .val (.int p1)] [(.int p1)])) target
    refine XS.ifNo Xg1.here hx rfl (hb hby own_d1_5) rfl ((if0 _ _).trans (flt c5).1) ?_
    show Steps p.tables e below (Tg1.setTop (mkF m 8 #[.val (.ref r0), .val (.int p1)] [])) target
    refine XS.iloadN Xg1.here hx rfl (hb hby own_d1_8) rfl ?_
    show Steps p.tables e below (Tg1.setTop (mkF m 9 #[.val (.ref r0), .val (.int p1)] [(.int p1)])) target
    refine XS.sipush Xg1.here hx rfl (hb hby own_d1_9) ?_
    exact kt
  have c12 : ¬ ((1000 : Int32) < p1) := by
    exact hhi
  refine own_st (B := Tg1.setTop (mkF m 31 #[.val (.ref r0), .val (.int p1)] [(.int p1), (.ref r0)])) (fun target kt => ?_) ?_
  · show Steps p.tables e below (Tg1.setTop (mkF m 12 #[.val (.ref r0), .val (.int p1)] [(.int (1000 : Int32)), (.int p1)])) target
    refine XS.icmpYes Xg1.here hx rfl (pc0 := 12) (pc' := 29) rfl (hb hby own_d1_12) rfl (flt c12).2.2.2 (by decide) (by decide) ?_
    show Steps p.tables e below (Tg1.setTop (mkF m 29 #[.val (.ref r0), .val (.int p1)] [])) target
    refine XS.aloadN Xg1.here hx rfl (hb hby own_d1_29) rfl rfl ?_
    show Steps p.tables e below (Tg1.setTop (mkF m 30 #[.val (.ref r0), .val (.int p1)] [(.ref r0)])) target
    refine XS.iloadN Xg1.here hx rfl (hb hby own_d1_30) rfl ?_
    exact kt
  obtain ⟨Tg31, hg31, Xg31, eg31, Wg31, stg31⟩ := putF Xg1 hx hZ hown (host := "") (Or.inl (hw _ (List.mem_of_getElem? (i := 10) rfl))) Via.refl eg1 F_r0_limit E_r0 (Or.inr ⟨(hw _ (List.mem_of_getElem? (i := 11) rfl)), rfl, hnm⟩) (hw _ (List.mem_of_getElem? (i := 2) rfl)) (ty := .int) (by decide) rfl rfl (g := (mkF m 31 #[.val (.ref r0), .val (.int p1)] [(.int p1), (.ref r0)])) rfl rfl (hb hby own_d1_31)
  refine own_st stg31 ?_
  have Ng31 := Fr.snoc Xg31 N0 g_r0
  have F := E_r0.wr Wg31
  have F_1 := F_r0_limit.same Wg31
  have F_2 := F_r0_depth.other Wg31 (Or.inr (slot_ne (Or.inl (hw _ (List.mem_of_getElem? (i := 22) rfl))) (Or.inr (hw _ (List.mem_of_getElem? (i := 11) rfl))) (by decide) (t := .int) (t' := .int) (by decide) (by decide)))
  have Zz : n0 ≤ hg31.size := Nat.le_trans Z0 (Keep.of_wr Wg31).1
  have Kc := (Keep.refl h0 [r0]).wr Wg31 (Or.inl (List.mem_of_getElem? (i := 0) rfl))
  obtain ⟨fs, hr, hrun, hended, hW, hsame⟩ := Xg31.leave (v := none) (fun _ => rfl)
  have hend : Steps p.tables e below (Tg31.setTop (mkF m 34 #[.val (.ref r0), .val (.int p1)] [])) (Tg31.setFrames fs) := by
    exact Xg31.returnOut hx Bd.returns (hb hby own_d1_34) hr
  refine own_fin hend ⟨_, hrun, hended, _, _, rfl, ?_, ⟨_, rfl⟩, hW, hsame.mono (by decide) (by decide)⟩
  show own_Q1 Z r0 p1 h0 n0 _ Tg31.heap _
  rw [eg31]
  exact ⟨rfl, Ng31, Kc, F, F_1, F_2⟩
theorem own_d4_0 : decode prog_67_method_3_code 0 = .ok (.aload_n 0, 1) := by decide +kernel
theorem own_d4_1 : decode prog_67_method_3_code 1 = .ok (.getfield 22, 3) := by decide +kernel
theorem own_d4_4 : decode prog_67_method_3_code 4 = .ok (.aload_n 0, 1) := by decide +kernel
theorem own_d4_5 : decode prog_67_method_3_code 5 = .ok (.getfield 18, 3) := by decide +kernel
theorem own_d4_8 : decode prog_67_method_3_code 8 = .ok (.if_icmp .ne 5, 3) := by decide +kernel
theorem own_d4_11 : decode prog_67_method_3_code 11 = .ok (.iconst 0, 1) := by decide +kernel
theorem own_d4_12 : decode prog_67_method_3_code 12 = .ok (.ireturn, 1) := by decide +kernel
theorem own_d4_13 : decode prog_67_method_3_code 13 = .ok (.aload_n 0, 1) := by decide +kernel
theorem own_d4_14 : decode prog_67_method_3_code 14 = .ok (.dup, 1) := by decide +kernel
theorem own_d4_15 : decode prog_67_method_3_code 15 = .ok (.getfield 22, 3) := by decide +kernel
theorem own_d4_18 : decode prog_67_method_3_code 18 = .ok (.iconst 1, 1) := by decide +kernel
theorem own_d4_19 : decode prog_67_method_3_code 19 = .ok (.iadd, 1) := by decide +kernel
theorem own_d4_20 : decode prog_67_method_3_code 20 = .ok (.putfield 22, 3) := by decide +kernel
theorem own_d4_23 : decode prog_67_method_3_code 23 = .ok (.iconst 1, 1) := by decide +kernel
theorem own_d4_24 : decode prog_67_method_3_code 24 = .ok (.ireturn, 1) := by decide +kernel
theorem own_ef4 (m : MethodId) (r0 : Addr) : entryFrame m #[(.ref r0)] 1 = mkF m 0 #[.val (.ref r0)] [] := by first | (simp [entryFrame, mkF, argsToLocals, Value.category]; done) | rfl
def own_Q4 (Z : State) (r0 : Addr) (w_l : Int32) (w_d : Int32) (h0 : Heap) (n0 : Nat) (v : Option Value) (h : Heap) (L : List Loc) : Prop := (v = some (.int (own_b (¬ (w_d = w_l))))) ∧ (Fr n0 L) ∧ (Keep h0 h [r0]) ∧ (Exa Z h r0 "com/example/wireform/wireform/wire/Nesting") ∧ (Fld Z h r0 "com/example/wireform/wireform/wire/Nesting" "limit" "I" (.int w_l)) ∧ (Fld Z h r0 "com/example/wireform/wireform/wire/Nesting" "depth" "I" (.int (if w_d = w_l then w_d else ((w_d + (1 : Int32))))))
set_option maxRecDepth 65536 in
set_option maxHeartbeats 40000000 in
theorem own_rm4 (l : Launch) (Z : State) (a0 : Array Value) (hw : ∀ d ∈ tables_1, d.before a0 Z = true) (ws : List Jvm.Cond) (r0 : Addr) (w_l : Int32) (w_d : Int32) (h0 : Heap) (n0 : Nat) (Z0 : n0 ≤ h0.size) (E_r0 : Exa Z h0 r0 "com/example/wireform/wireform/wire/Nesting") (F_r0_limit : Fld Z h0 r0 "com/example/wireform/wireform/wire/Nesting" "limit" "I" (.int w_l)) (F_r0_depth : Fld Z h0 r0 "com/example/wireform/wireform/wire/Nesting" "depth" "I" (.int w_d)) (g_r0 : n0 ≤ r0) :
    MetFree l (⟨"com/example/wireform/wireform/wire/Nesting", "enter", "()Z"⟩ : MethodName) (head1 (Jvm.Cond.code (⟨"com/example/wireform/wireform/wire/Nesting", "enter", "()Z"⟩ : MethodName) prog_67_method_3_code 1 (some .boolean) :: ws) ({ frames := 0, cells := 0, slots := 0, locals := 0 } : Room)) (fun a U => a = #[(.ref r0)] ∧ Z.Warmed39 U.vm ∧ U.heap = h0) (fun _ _ _ _ _ => True) (fun _ U o U' => ∃ v L, o = .returned v ∧ own_Q4 Z r0 w_l w_d h0 n0 v U'.heap L ∧ FrameEnd U o U' L ({ frames := 0, cells := 0, slots := 0, locals := 0 } : Room).cells ({ frames := 0, cells := 0, slots := 0, locals := 0 } : Room).slots) := by
  refine MetFree.of_bodySF (plainFor_of_name own_pn0) hisR ?_
  intro p e s m args below meth c s₁ Bd hml0 hP hK
  obtain ⟨rfl, hZ, hh⟩ := hP
  have hx := Bd.exec
  have hby := Bd.bytes
  have hml : c.maxLocals = 1 := hml0
  have hown : s.vm.findClass "com/example/wireform/wireform/wire/Nesting" = some m.cls := findClass_of_methodNamed Bd.named
  have hnm := (name_of_methodNamed Bd.named Bd.method).1
  have X0 : Stand p l e ({ frames := 0, cells := 0, slots := 0, locals := 0 } : Room) s m #[(.ref r0)] below meth c s₁ [] 0 0 := Stand.of_body Bd
  have e0 : s₁.heap = h0 := by rw [← hh, Bd.state]; rfl
  have N0 := Fr.nil n0
  have pre0 : ∀ t, Steps p.tables e below (s₁.setTop (mkF m 0 #[.val (.ref r0)] [])) t → Steps p.tables e below (s₁.setTop (entryFrame m #[(.ref r0)] 1)) t := fun t k => castTop (own_ef4 m r0) k
  refine own_run (own_st pre0 ?_)
  refine own_st (B := s₁.setTop (mkF m 1 #[.val (.ref r0)] [(.ref r0)])) (fun target kt => ?_) ?_
  · show Steps p.tables e below (s₁.setTop (mkF m 0 #[.val (.ref r0)] [])) target
    refine XS.aloadN X0.here hx rfl (hb hby own_d4_0) rfl rfl ?_
    exact kt
  obtain ⟨Tg1, Xg1, eg1, stg1⟩ := getF X0 hx hZ hown (host := "") (Or.inl (hw _ (List.mem_of_getElem? (i := 21) rfl))) Via.refl e0 F_r0_depth (g := (mkF m 1 #[.val (.ref r0)] [(.ref r0)])) rfl rfl (hb hby own_d4_1)
  refine own_st stg1 ?_
  refine own_st (B := Tg1.setTop (mkF m 5 #[.val (.ref r0)] [(.ref r0), (.int w_d)])) (fun target kt => ?_) ?_
  · show Steps p.tables e below (Tg1.setTop (mkF m 4 #[.val (.ref r0)] [(.int w_d)])) target
    refine XS.aloadN Xg1.here hx rfl (hb hby own_d4_4) rfl rfl ?_
    exact kt
  obtain ⟨Tg5, Xg5, eg5, stg5⟩ := getF Xg1 hx hZ hown (host := "") (Or.inl (hw _ (List.mem_of_getElem? (i := 10) rfl))) Via.refl eg1 F_r0_limit (g := (mkF m 5 #[.val (.ref r0)] [(.ref r0), (.int w_d)])) rfl rfl (hb hby own_d4_5)
  refine own_st stg5 ?_
  by_cases c8 : w_d = w_l
  · refine own_st (B := Tg5.setTop (mkF m 12 #[.val (.ref r0)] [(.int (0 : Int32))])) (fun target kt => ?_) ?_
    · show Steps p.tables e below (Tg5.setTop (mkF m 8 #[.val (.ref r0)] [(.int w_l), (.int w_d)])) target
      refine XS.icmpNo Xg5.here hx rfl (hb hby own_d4_8) rfl (teq c8).2 ?_
      show Steps p.tables e below (Tg5.setTop (mkF m 11 #[.val (.ref r0)] [])) target
      refine XS.iconst Xg5.here hx rfl (hb hby own_d4_11) ?_
      exact kt
    obtain ⟨fs, hr, hrun, hended, hW, hsame⟩ := Xg5.leave (v := some (.int (0 : Int32))) (fun h => by rw [Bd.returns] at h; cases h)
    have hend : Steps p.tables e below (Tg5.setTop (mkF m 12 #[.val (.ref r0)] [(.int (0 : Int32))])) (Tg5.setFrames fs) := by
      exact retN Xg5 hx (t := .boolean) Bd.returns (by simp) (hb hby own_d4_12) hr
    refine own_fin hend ⟨_, hrun, hended, _, _, rfl, ?_, ⟨_, rfl⟩, hW, hsame.mono (by decide) (by decide)⟩
    show own_Q4 Z r0 w_l w_d h0 n0 _ Tg5.heap _
    rw [eg5]
    exact ⟨(congrArg (fun z => some (Value.int z)) (own_b0 (fun w => w c8)).symm), N0, (Keep.refl h0 [r0]), E_r0, F_r0_limit, (own_cast (congrArg Value.int (if_pos c8).symm) F_r0_depth)⟩
  · refine own_st (B := Tg5.setTop (mkF m 15 #[.val (.ref r0)] [(.ref r0), (.ref r0)])) (fun target kt => ?_) ?_
    · show Steps p.tables e below (Tg5.setTop (mkF m 8 #[.val (.ref r0)] [(.int w_l), (.int w_d)])) target
      refine XS.icmpYes Xg5.here hx rfl (pc0 := 8) (pc' := 13) rfl (hb hby own_d4_8) rfl (feq c8).2 (by decide) (by decide) ?_
      show Steps p.tables e below (Tg5.setTop (mkF m 13 #[.val (.ref r0)] [])) target
      refine XS.aloadN Xg5.here hx rfl (hb hby own_d4_13) rfl rfl ?_
      show Steps p.tables e below (Tg5.setTop (mkF m 14 #[.val (.ref r0)] [(.ref r0)])) target
      refine XS.dup Xg5.here hx rfl (hb hby own_d4_14) rfl rfl ?_
      exact kt
    obtain ⟨Tg15, Xg15, eg15, stg15⟩ := getF Xg5 hx hZ hown (host := "") (Or.inl (hw _ (List.mem_of_getElem? (i := 21) rfl))) Via.refl eg5 F_r0_depth (g := (mkF m 15 #[.val (.ref r0)] [(.ref r0), (.ref r0)])) rfl rfl (hb hby own_d4_15)
    refine own_st stg15 ?_
    refine own_st (B := Tg15.setTop (mkF m 20 #[.val (.ref r0)] [(.int (w_d + (1 : Int32))), (.ref r0)])) (fun target kt => ?_) ?_
    · show Steps p.tables e below (Tg15.setTop (mkF m 18 #[.val (.ref r0)] [(.int w_d), (.ref r0)])) target
      refine XS.iconst Xg15.here hx rfl (hb hby own_d4_18) ?_
      show Steps p.tables e below (Tg15.setTop (mkF m 19 #[.val (.ref r0)] [(.int (1 : Int32)), (.int w_d), (.ref r0)])) target
      refine XS.iadd Xg15.here hx rfl (hb hby own_d4_19) rfl ?_
      exact kt
    obtain ⟨Tg20, hg20, Xg20, eg20, Wg20, stg20⟩ := putF Xg15 hx hZ hown (host := "") (Or.inl (hw _ (List.mem_of_getElem? (i := 21) rfl))) Via.refl eg15 F_r0_depth E_r0 (Or.inl (hw _ (List.mem_of_getElem? (i := 22) rfl))) (hw _ (List.mem_of_getElem? (i := 2) rfl)) (ty := .int) (by decide) rfl rfl (g := (mkF m 20 #[.val (.ref r0)] [(.int (w_d + (1 : Int32))), (.ref r0)])) rfl rfl (hb hby own_d4_20)
    refine own_st stg20 ?_
    have Ng20 := Fr.snoc Xg20 N0 g_r0
    have F := E_r0.wr Wg20
    have F_1 := F_r0_limit.other Wg20 (Or.inr (slot_ne (Or.inr (hw _ (List.mem_of_getElem? (i := 11) rfl))) (Or.inl (hw _ (List.mem_of_getElem? (i := 22) rfl))) (by decide) (t := .int) (t' := .int) (by decide) (by decide)))
    have F_2 := F_r0_depth.same Wg20
    have Zz : n0 ≤ hg20.size := Nat.le_trans Z0 (Keep.of_wr Wg20).1
    have Kc := (Keep.refl h0 [r0]).wr Wg20 (Or.inl (List.mem_of_getElem? (i := 0) rfl))
    obtain ⟨v20, hv20⟩ : ∃ z : Int32, z = (w_d + (1 : Int32)) := ⟨_, rfl⟩
    have F_3 : Fld Z hg20 r0 "com/example/wireform/wireform/wire/Nesting" "depth" "I" (.int v20) := by subst hv20; exact F_2
    refine own_st (B := Tg20.setTop (mkF m 24 #[.val (.ref r0)] [(.int (1 : Int32))])) (fun target kt => ?_) ?_
    · show Steps p.tables e below (Tg20.setTop (mkF m 23 #[.val (.ref r0)] [])) target
      refine XS.iconst Xg20.here hx rfl (hb hby own_d4_23) ?_
      exact kt
    obtain ⟨fs, hr, hrun, hended, hW, hsame⟩ := Xg20.leave (v := some (.int (1 : Int32))) (fun h => by rw [Bd.returns] at h; cases h)
    have hend : Steps p.tables e below (Tg20.setTop (mkF m 24 #[.val (.ref r0)] [(.int (1 : Int32))])) (Tg20.setFrames fs) := by
      exact retN Xg20 hx (t := .boolean) Bd.returns (by simp) (hb hby own_d4_24) hr
    refine own_fin hend ⟨_, hrun, hended, _, _, rfl, ?_, ⟨_, rfl⟩, hW, hsame.mono (by decide) (by decide)⟩
    show own_Q4 Z r0 w_l w_d h0 n0 _ Tg20.heap _
    rw [eg20]
    subst hv20
    exact ⟨(congrArg (fun z => some (Value.int z)) (own_b1 c8).symm), Ng20, Kc, F, F_1, (own_cast (congrArg Value.int (if_neg c8).symm) F_3)⟩
theorem own_d5_0 : decode prog_67_method_4_code 0 = .ok (.aload_n 0, 1) := by decide +kernel
theorem own_d5_1 : decode prog_67_method_4_code 1 = .ok (.dup, 1) := by decide +kernel
theorem own_d5_2 : decode prog_67_method_4_code 2 = .ok (.getfield 22, 3) := by decide +kernel
theorem own_d5_5 : decode prog_67_method_4_code 5 = .ok (.iconst 1, 1) := by decide +kernel
theorem own_d5_6 : decode prog_67_method_4_code 6 = .ok (.isub, 1) := by decide +kernel
theorem own_d5_7 : decode prog_67_method_4_code 7 = .ok (.putfield 22, 3) := by decide +kernel
theorem own_d5_10 : decode prog_67_method_4_code 10 = .ok (.return_, 1) := by decide +kernel
theorem own_ef5 (m : MethodId) (r0 : Addr) : entryFrame m #[(.ref r0)] 1 = mkF m 0 #[.val (.ref r0)] [] := by first | (simp [entryFrame, mkF, argsToLocals, Value.category]; done) | rfl
def own_Q5 (Z : State) (r0 : Addr) (w_l : Int32) (w_d : Int32) (h0 : Heap) (n0 : Nat) (v : Option Value) (h : Heap) (L : List Loc) : Prop := (v = none) ∧ (Fr n0 L) ∧ (Keep h0 h [r0]) ∧ (Exa Z h r0 "com/example/wireform/wireform/wire/Nesting") ∧ (Fld Z h r0 "com/example/wireform/wireform/wire/Nesting" "limit" "I" (.int w_l)) ∧ (Fld Z h r0 "com/example/wireform/wireform/wire/Nesting" "depth" "I" (.int ((w_d - (1 : Int32)))))
set_option maxRecDepth 65536 in
set_option maxHeartbeats 40000000 in
theorem own_rm5 (l : Launch) (Z : State) (a0 : Array Value) (hw : ∀ d ∈ tables_1, d.before a0 Z = true) (ws : List Jvm.Cond) (r0 : Addr) (w_l : Int32) (w_d : Int32) (h0 : Heap) (n0 : Nat) (Z0 : n0 ≤ h0.size) (E_r0 : Exa Z h0 r0 "com/example/wireform/wireform/wire/Nesting") (F_r0_limit : Fld Z h0 r0 "com/example/wireform/wireform/wire/Nesting" "limit" "I" (.int w_l)) (F_r0_depth : Fld Z h0 r0 "com/example/wireform/wireform/wire/Nesting" "depth" "I" (.int w_d)) (g_r0 : n0 ≤ r0) :
    MetFree l (⟨"com/example/wireform/wireform/wire/Nesting", "exit", "()V"⟩ : MethodName) (head1 (Jvm.Cond.code (⟨"com/example/wireform/wireform/wire/Nesting", "exit", "()V"⟩ : MethodName) prog_67_method_4_code 1 none :: ws) ({ frames := 0, cells := 0, slots := 0, locals := 0 } : Room)) (fun a U => a = #[(.ref r0)] ∧ Z.Warmed39 U.vm ∧ U.heap = h0) (fun _ _ _ _ _ => True) (fun _ U o U' => ∃ v L, o = .returned v ∧ own_Q5 Z r0 w_l w_d h0 n0 v U'.heap L ∧ FrameEnd U o U' L ({ frames := 0, cells := 0, slots := 0, locals := 0 } : Room).cells ({ frames := 0, cells := 0, slots := 0, locals := 0 } : Room).slots) := by
  refine MetFree.of_bodySF (plainFor_of_name own_pn0) hisR ?_
  intro p e s m args below meth c s₁ Bd hml0 hP hK
  obtain ⟨rfl, hZ, hh⟩ := hP
  have hx := Bd.exec
  have hby := Bd.bytes
  have hml : c.maxLocals = 1 := hml0
  have hown : s.vm.findClass "com/example/wireform/wireform/wire/Nesting" = some m.cls := findClass_of_methodNamed Bd.named
  have hnm := (name_of_methodNamed Bd.named Bd.method).1
  have X0 : Stand p l e ({ frames := 0, cells := 0, slots := 0, locals := 0 } : Room) s m #[(.ref r0)] below meth c s₁ [] 0 0 := Stand.of_body Bd
  have e0 : s₁.heap = h0 := by rw [← hh, Bd.state]; rfl
  have N0 := Fr.nil n0
  have pre0 : ∀ t, Steps p.tables e below (s₁.setTop (mkF m 0 #[.val (.ref r0)] [])) t → Steps p.tables e below (s₁.setTop (entryFrame m #[(.ref r0)] 1)) t := fun t k => castTop (own_ef5 m r0) k
  refine own_run (own_st pre0 ?_)
  refine own_st (B := s₁.setTop (mkF m 2 #[.val (.ref r0)] [(.ref r0), (.ref r0)])) (fun target kt => ?_) ?_
  · show Steps p.tables e below (s₁.setTop (mkF m 0 #[.val (.ref r0)] [])) target
    refine XS.aloadN X0.here hx rfl (hb hby own_d5_0) rfl rfl ?_
    show Steps p.tables e below (s₁.setTop (mkF m 1 #[.val (.ref r0)] [(.ref r0)])) target
    refine XS.dup X0.here hx rfl (hb hby own_d5_1) rfl rfl ?_
    exact kt
  obtain ⟨Tg2, Xg2, eg2, stg2⟩ := getF X0 hx hZ hown (host := "") (Or.inl (hw _ (List.mem_of_getElem? (i := 21) rfl))) Via.refl e0 F_r0_depth (g := (mkF m 2 #[.val (.ref r0)] [(.ref r0), (.ref r0)])) rfl rfl (hb hby own_d5_2)
  refine own_st stg2 ?_
  refine own_st (B := Tg2.setTop (mkF m 7 #[.val (.ref r0)] [(.int (w_d - (1 : Int32))), (.ref r0)])) (fun target kt => ?_) ?_
  · show Steps p.tables e below (Tg2.setTop (mkF m 5 #[.val (.ref r0)] [(.int w_d), (.ref r0)])) target
    refine XS.iconst Xg2.here hx rfl (hb hby own_d5_5) ?_
    show Steps p.tables e below (Tg2.setTop (mkF m 6 #[.val (.ref r0)] [(.int (1 : Int32)), (.int w_d), (.ref r0)])) target
    refine XS.isub Xg2.here hx rfl (hb hby own_d5_6) rfl ?_
    exact kt
  obtain ⟨Tg7, hg7, Xg7, eg7, Wg7, stg7⟩ := putF Xg2 hx hZ hown (host := "") (Or.inl (hw _ (List.mem_of_getElem? (i := 21) rfl))) Via.refl eg2 F_r0_depth E_r0 (Or.inl (hw _ (List.mem_of_getElem? (i := 22) rfl))) (hw _ (List.mem_of_getElem? (i := 2) rfl)) (ty := .int) (by decide) rfl rfl (g := (mkF m 7 #[.val (.ref r0)] [(.int (w_d - (1 : Int32))), (.ref r0)])) rfl rfl (hb hby own_d5_7)
  refine own_st stg7 ?_
  have Ng7 := Fr.snoc Xg7 N0 g_r0
  have F := E_r0.wr Wg7
  have F_1 := F_r0_limit.other Wg7 (Or.inr (slot_ne (Or.inr (hw _ (List.mem_of_getElem? (i := 11) rfl))) (Or.inl (hw _ (List.mem_of_getElem? (i := 22) rfl))) (by decide) (t := .int) (t' := .int) (by decide) (by decide)))
  have F_2 := F_r0_depth.same Wg7
  have Zz : n0 ≤ hg7.size := Nat.le_trans Z0 (Keep.of_wr Wg7).1
  have Kc := (Keep.refl h0 [r0]).wr Wg7 (Or.inl (List.mem_of_getElem? (i := 0) rfl))
  obtain ⟨v7, hv7⟩ : ∃ z : Int32, z = (w_d - (1 : Int32)) := ⟨_, rfl⟩
  have F_3 : Fld Z hg7 r0 "com/example/wireform/wireform/wire/Nesting" "depth" "I" (.int v7) := by subst hv7; exact F_2
  obtain ⟨fs, hr, hrun, hended, hW, hsame⟩ := Xg7.leave (v := none) (fun _ => rfl)
  have hend : Steps p.tables e below (Tg7.setTop (mkF m 10 #[.val (.ref r0)] [])) (Tg7.setFrames fs) := by
    exact Xg7.returnOut hx Bd.returns (hb hby own_d5_10) hr
  refine own_fin hend ⟨_, hrun, hended, _, _, rfl, ?_, ⟨_, rfl⟩, hW, hsame.mono (by decide) (by decide)⟩
  show own_Q5 Z r0 w_l w_d h0 n0 _ Tg7.heap _
  rw [eg7]
  subst hv7
  exact ⟨rfl, Ng7, Kc, F, F_1, F_3⟩
theorem own_pd0 : parseMethodDescriptor "()V" = some ⟨[], none⟩ := by decide +kernel
theorem own_pd1 : parseMethodDescriptor "()Z" = some ⟨[], some .boolean⟩ := by decide +kernel
theorem own_pn1 : plainName "com/example/wireform/wireform/wire/NestingEnterPinLaw" = true := by first | (simp [plainName, overriddenIn]; done) | decide +kernel
theorem own_d3_0 : decode method_2_code 0 = .ok (.iload_n 1, 1) := by decide +kernel
theorem own_d3_1 : decode method_2_code 1 = .ok (.ifCond .ge 5, 3) := by decide +kernel
theorem own_d3_4 : decode method_2_code 4 = .ok (.iload_n 1, 1) := by decide +kernel
theorem own_d3_5 : decode method_2_code 5 = .ok (.ireturn, 1) := by decide +kernel
theorem own_d3_6 : decode method_2_code 6 = .ok (.iload_n 3, 1) := by decide +kernel
theorem own_d3_7 : decode method_2_code 7 = .ok (.iconst 1, 1) := by decide +kernel
theorem own_d3_8 : decode method_2_code 8 = .ok (.iand, 1) := by decide +kernel
theorem own_d3_9 : decode method_2_code 9 = .ok (.ifCond .ne 15, 3) := by decide +kernel
theorem own_d3_12 : decode method_2_code 12 = .ok (.iload_n 1, 1) := by decide +kernel
theorem own_d3_13 : decode method_2_code 13 = .ok (.ifCond .le 11, 3) := by decide +kernel
theorem own_d3_16 : decode method_2_code 16 = .ok (.aload_n 0, 1) := by decide +kernel
theorem own_d3_17 : decode method_2_code 17 = .ok (.invokevirtual 7, 3) := by decide +kernel
theorem own_d3_20 : decode method_2_code 20 = .ok (.iload_n 1, 1) := by decide +kernel
theorem own_d3_21 : decode method_2_code 21 = .ok (.iconst 1, 1) := by decide +kernel
theorem own_d3_22 : decode method_2_code 22 = .ok (.isub, 1) := by decide +kernel
theorem own_d3_23 : decode method_2_code 23 = .ok (.ireturn, 1) := by decide +kernel
theorem own_d3_24 : decode method_2_code 24 = .ok (.aload_n 0, 1) := by decide +kernel
theorem own_d3_25 : decode method_2_code 25 = .ok (.invokevirtual 12, 3) := by decide +kernel
theorem own_d3_28 : decode method_2_code 28 = .ok (.istore 4, 2) := by decide +kernel
theorem own_d3_30 : decode method_2_code 30 = .ok (.iload_n 1, 1) := by decide +kernel
theorem own_d3_31 : decode method_2_code 31 = .ok (.iload_n 2, 1) := by decide +kernel
theorem own_d3_32 : decode method_2_code 32 = .ok (.if_icmp .ge 7, 3) := by decide +kernel
theorem own_d3_35 : decode method_2_code 35 = .ok (.iconst 1, 1) := by decide +kernel
theorem own_d3_36 : decode method_2_code 36 = .ok (.goto 4, 3) := by decide +kernel
theorem own_d3_39 : decode method_2_code 39 = .ok (.iconst 0, 1) := by decide +kernel
theorem own_d3_40 : decode method_2_code 40 = .ok (.istore 5, 2) := by decide +kernel
theorem own_d3_42 : decode method_2_code 42 = .ok (.iload 4, 2) := by decide +kernel
theorem own_d3_44 : decode method_2_code 44 = .ok (.iload 5, 2) := by decide +kernel
theorem own_d3_46 : decode method_2_code 46 = .ok (.if_icmp .eq 5, 3) := by decide +kernel
theorem own_d3_49 : decode method_2_code 49 = .ok (.iconst (-1), 1) := by decide +kernel
theorem own_d3_50 : decode method_2_code 50 = .ok (.ireturn, 1) := by decide +kernel
theorem own_d3_51 : decode method_2_code 51 = .ok (.iload 5, 2) := by decide +kernel
theorem own_d3_53 : decode method_2_code 53 = .ok (.ifCond .eq 7, 3) := by decide +kernel
theorem own_d3_56 : decode method_2_code 56 = .ok (.iload_n 1, 1) := by decide +kernel
theorem own_d3_57 : decode method_2_code 57 = .ok (.iconst 1, 1) := by decide +kernel
theorem own_d3_58 : decode method_2_code 58 = .ok (.iadd, 1) := by decide +kernel
theorem own_d3_59 : decode method_2_code 59 = .ok (.ireturn, 1) := by decide +kernel
theorem own_d3_60 : decode method_2_code 60 = .ok (.iload_n 1, 1) := by decide +kernel
theorem own_d3_61 : decode method_2_code 61 = .ok (.ireturn, 1) := by decide +kernel
theorem own_ef3 (m : MethodId) (r0 : Addr) (p1 : Int32) (p2 : Int32) (p3 : Int32) : entryFrame m #[(.ref r0), (.int p1), (.int p2), (.int p3)] 6 = mkF m 0 #[.val (.ref r0), .val (.int p1), .val (.int p2), .val (.int p3), .unset, .unset] [] := by first | (simp [entryFrame, mkF, argsToLocals, Value.category]; done) | rfl
def own_Q3 (Z : State) (r0 : Addr) (p1 : Int32) (p2 : Int32) (p3 : Int32) (h0 : Heap) (n0 : Nat) (v : Option Value) (h : Heap) (L : List Loc) : Prop := (v = some (.int (if p1 < (0 : Int32) then p1 else (if (p3 &&& (1 : Int32)) = (0 : Int32) then (if (0 : Int32) < p1 then (p1 - (1 : Int32)) else (if (¬ (p1 = p2)) ↔ (p1 < p2) then (if p1 < p2 then (p1 + (1 : Int32)) else p1) else (-1 : Int32))) else (if (¬ (p1 = p2)) ↔ (p1 < p2) then (if p1 < p2 then (p1 + (1 : Int32)) else p1) else (-1 : Int32)))))) ∧ (Fr n0 L) ∧ (Keep h0 h [r0]) ∧ (Exa Z h r0 "com/example/wireform/wireform/wire/Nesting") ∧ (Fld Z h r0 "com/example/wireform/wireform/wire/Nesting" "limit" "I" (.int p2)) ∧ (Fld Z h r0 "com/example/wireform/wireform/wire/Nesting" "depth" "I" (.int (if p1 < (0 : Int32) then p1 else (if (p3 &&& (1 : Int32)) = (0 : Int32) then (if (0 : Int32) < p1 then ((p1 - (1 : Int32))) else ((if p1 = p2 then p1 else (p1 + (1 : Int32))))) else ((if p1 = p2 then p1 else (p1 + (1 : Int32))))))))
set_option maxRecDepth 65536 in
set_option maxHeartbeats 40000000 in
theorem own_rm3 (l : Launch) (Z : State) (a0 : Array Value) (hw : ∀ d ∈ tables_1, d.before a0 Z = true) (ws : List Jvm.Cond) (r0 : Addr) (p1 : Int32) (p2 : Int32) (p3 : Int32) (h0 : Heap) (n0 : Nat) (Z0 : n0 ≤ h0.size) (E_r0 : Exa Z h0 r0 "com/example/wireform/wireform/wire/Nesting") (F_r0_limit : Fld Z h0 r0 "com/example/wireform/wireform/wire/Nesting" "limit" "I" (.int p2)) (F_r0_depth : Fld Z h0 r0 "com/example/wireform/wireform/wire/Nesting" "depth" "I" (.int p1)) (g_r0 : n0 ≤ r0) :
    MetFree l (⟨"com/example/wireform/wireform/wire/NestingEnterPinLaw", "step", "(Lcom/example/wireform/wireform/wire/Nesting;III)I"⟩ : MethodName) (head1 (Jvm.Cond.code (⟨"com/example/wireform/wireform/wire/NestingEnterPinLaw", "step", "(Lcom/example/wireform/wireform/wire/Nesting;III)I"⟩ : MethodName) method_2_code 6 (some .int) :: ws) ({ frames := 1, cells := 0, slots := 0, locals := 12 } : Room)) (fun a U => a = #[(.ref r0), (.int p1), (.int p2), (.int p3)] ∧ Z.Warmed39 U.vm ∧ U.heap = h0) (fun _ _ _ _ _ => True) (fun _ U o U' => ∃ v L, o = .returned v ∧ own_Q3 Z r0 p1 p2 p3 h0 n0 v U'.heap L ∧ FrameEnd U o U' L ({ frames := 1, cells := 0, slots := 0, locals := 12 } : Room).cells ({ frames := 1, cells := 0, slots := 0, locals := 12 } : Room).slots) := by
  refine MetFree.of_bodySF (plainFor_of_name own_pn1) hisR ?_
  intro p e s m args below meth c s₁ Bd hml0 hP hK
  obtain ⟨rfl, hZ, hh⟩ := hP
  have hx := Bd.exec
  have hby := Bd.bytes
  have hml : c.maxLocals = 6 := hml0
  have hown : s.vm.findClass "com/example/wireform/wireform/wire/NestingEnterPinLaw" = some m.cls := findClass_of_methodNamed Bd.named
  have hnm := (name_of_methodNamed Bd.named Bd.method).1
  have X0 : Stand p l e ({ frames := 1, cells := 0, slots := 0, locals := 12 } : Room) s m #[(.ref r0), (.int p1), (.int p2), (.int p3)] below meth c s₁ [] 0 0 := Stand.of_body Bd
  have e0 : s₁.heap = h0 := by rw [← hh, Bd.state]; rfl
  have N0 := Fr.nil n0
  have pre0 : ∀ t, Steps p.tables e below (s₁.setTop (mkF m 0 #[.val (.ref r0), .val (.int p1), .val (.int p2), .val (.int p3), .unset, .unset] [])) t → Steps p.tables e below (s₁.setTop (entryFrame m #[(.ref r0), (.int p1), (.int p2), (.int p3)] 6)) t := fun t k => castTop (own_ef3 m r0 p1 p2 p3) k
  refine own_run (own_st pre0 ?_)
  refine own_st (B := s₁.setTop (mkF m 1 #[.val (.ref r0), .val (.int p1), .val (.int p2), .val (.int p3), .unset, .unset] [(.int p1)])) (fun target kt => ?_) ?_
  · show Steps p.tables e below (s₁.setTop (mkF m 0 #[.val (.ref r0), .val (.int p1), .val (.int p2), .val (.int p3), .unset, .unset] [])) target
    refine XS.iloadN X0.here hx rfl (hb hby own_d3_0) rfl ?_
    exact kt
  by_cases c1 : p1 < (0 : Int32)
  · refine own_st (B := s₁.setTop (mkF m 5 #[.val (.ref r0), .val (.int p1), .val (.int p2), .val (.int p3), .unset, .unset] [(.int p1)])) (fun target kt => ?_) ?_
    · show Steps p.tables e below (s₁.setTop (mkF m 1 #[.val (.ref r0), .val (.int p1), .val (.int p2), .val (.int p3), .unset, .unset] [(.int p1)])) target
      refine XS.ifNo X0.here hx rfl (hb hby own_d3_1) rfl ((if0 _ _).trans (tlt c1).2.1) ?_
      show Steps p.tables e below (s₁.setTop (mkF m 4 #[.val (.ref r0), .val (.int p1), .val (.int p2), .val (.int p3), .unset, .unset] [])) target
      refine XS.iloadN X0.here hx rfl (hb hby own_d3_4) rfl ?_
      exact kt
    obtain ⟨fs, hr, hrun, hended, hW, hsame⟩ := X0.leave (v := some (.int p1)) (fun h => by rw [Bd.returns] at h; cases h)
    have hend : Steps p.tables e below (s₁.setTop (mkF m 5 #[.val (.ref r0), .val (.int p1), .val (.int p2), .val (.int p3), .unset, .unset] [(.int p1)])) (s₁.setFrames fs) := by
      exact retI X0 hx Bd.returns (hb hby own_d3_5) hr
    refine own_fin hend ⟨_, hrun, hended, _, _, rfl, ?_, ⟨_, rfl⟩, hW, hsame.mono (by decide) (by decide)⟩
    show own_Q3 Z r0 p1 p2 p3 h0 n0 _ s₁.heap _
    rw [e0]
    exact ⟨(congrArg (fun z => some (Value.int z)) (if_pos c1).symm), N0, (Keep.refl h0 [r0]), E_r0, F_r0_limit, (own_cast (congrArg Value.int (if_pos c1).symm) F_r0_depth)⟩
  · refine own_st (B := s₁.setTop (mkF m 9 #[.val (.ref r0), .val (.int p1), .val (.int p2), .val (.int p3), .unset, .unset] [(.int (p3 &&& (1 : Int32)))])) (fun target kt => ?_) ?_
    · show Steps p.tables e below (s₁.setTop (mkF m 1 #[.val (.ref r0), .val (.int p1), .val (.int p2), .val (.int p3), .unset, .unset] [(.int p1)])) target
      refine XS.ifYes X0.here hx rfl (pc0 := 1) (pc' := 6) rfl (hb hby own_d3_1) rfl ((if0 _ _).trans (flt c1).2.1) (by decide) (by decide) ?_
      show Steps p.tables e below (s₁.setTop (mkF m 6 #[.val (.ref r0), .val (.int p1), .val (.int p2), .val (.int p3), .unset, .unset] [])) target
      refine XS.iloadN X0.here hx rfl (hb hby own_d3_6) rfl ?_
      show Steps p.tables e below (s₁.setTop (mkF m 7 #[.val (.ref r0), .val (.int p1), .val (.int p2), .val (.int p3), .unset, .unset] [(.int p3)])) target
      refine XS.iconst X0.here hx rfl (hb hby own_d3_7) ?_
      show Steps p.tables e below (s₁.setTop (mkF m 8 #[.val (.ref r0), .val (.int p1), .val (.int p2), .val (.int p3), .unset, .unset] [(.int (1 : Int32)), (.int p3)])) target
      refine XS.iand X0.here hx rfl (hb hby own_d3_8) rfl ?_
      exact kt
    by_cases c9 : (p3 &&& (1 : Int32)) = (0 : Int32)
    · refine own_st (B := s₁.setTop (mkF m 13 #[.val (.ref r0), .val (.int p1), .val (.int p2), .val (.int p3), .unset, .unset] [(.int p1)])) (fun target kt => ?_) ?_
      · show Steps p.tables e below (s₁.setTop (mkF m 9 #[.val (.ref r0), .val (.int p1), .val (.int p2), .val (.int p3), .unset, .unset] [(.int (p3 &&& (1 : Int32)))])) target
        refine XS.ifNo X0.here hx rfl (hb hby own_d3_9) rfl ((if0 _ _).trans (teq c9).2) ?_
        show Steps p.tables e below (s₁.setTop (mkF m 12 #[.val (.ref r0), .val (.int p1), .val (.int p2), .val (.int p3), .unset, .unset] [])) target
        refine XS.iloadN X0.here hx rfl (hb hby own_d3_12) rfl ?_
        exact kt
      by_cases c13 : (0 : Int32) < p1
      · refine own_st (B := s₁.setTop (mkF m 17 #[.val (.ref r0), .val (.int p1), .val (.int p2), .val (.int p3), .unset, .unset] [(.ref r0)])) (fun target kt => ?_) ?_
        · show Steps p.tables e below (s₁.setTop (mkF m 13 #[.val (.ref r0), .val (.int p1), .val (.int p2), .val (.int p3), .unset, .unset] [(.int p1)])) target
          refine XS.ifNo X0.here hx rfl (hb hby own_d3_13) rfl ((if0 _ _).trans (tlt c13).2.2.2) ?_
          show Steps p.tables e below (s₁.setTop (mkF m 16 #[.val (.ref r0), .val (.int p1), .val (.int p2), .val (.int p3), .unset, .unset] [])) target
          refine XS.aloadN X0.here hx rfl (hb hby own_d3_16) rfl rfl ?_
          exact kt
        obtain ⟨cqg17, kqg17, qg17a, qg17b, qg17c⟩ := isOf hZ e0 E_r0
        obtain ⟨_, _, ⟨Tg17, Lg17, kg17, ng17⟩, -, Xg17, ⟨Lcg17, hQg17, lg17, yg17, zg17⟩, stg17⟩ := X0.virtualBack hx (y := (⟨"com/example/wireform/wireform/wire/Nesting", "exit", "()V"⟩ : MethodName)) (z := (⟨"com/example/wireform/wireform/wire/Nesting", "exit", "()V"⟩ : MethodName)) hown (mvT hZ (hw _ (List.mem_of_getElem? (i := 23) rfl))) (mvT hZ (hw _ (List.mem_of_getElem? (i := 24) rfl))) (notFace_of_selects (args := #[]) (mvT hZ (hw _ (List.mem_of_getElem? (i := 26) rfl)))) (mvT hZ (hw _ (List.mem_of_getElem? (i := 26) rfl))) (mvT hZ (hw _ (List.mem_of_getElem? (i := 25) rfl))) (by decide) (backOf (W := 0) (own_rm5 l Z a0 hw [] r0 p2 p1 h0 n0 Z0 E_r0 F_r0_limit F_r0_depth g_r0) hZ (hw _ (List.mem_of_getElem? (i := 27) rfl)) (hw _ (List.mem_of_getElem? (i := 3) rfl)) (by decide) (by decide)) qg17a qg17c (g := (mkF m 17 #[.val (.ref r0), .val (.int p1), .val (.int p2), .val (.int p3), .unset, .unset] [(.ref r0)])) rfl (by rw [hml]; rfl) (Steps.refl _) (argsL := []) (rest := []) (lenOf own_pd0 rfl) rfl (by show 2 * 0 + _ ≤ _; exact Nat.le_of_eq rfl) (hb hby own_d3_17) (fun _ _ => ⟨rfl, e0, (by decide : 0 + 0 ≤ _), (by decide : 0 + 0 ≤ _)⟩)
        dsimp only [Pt.U, Pt.locs, Pt.cells, Pt.slots] at Xg17 lg17 yg17 zg17 stg17 hQg17
        subst lg17 yg17 zg17
        obtain ⟨rfl, Ng17q, Kg17, F, F_1, F_2⟩ := hQg17
        have Zz : n0 ≤ Tg17.heap.size := Nat.le_trans Z0 Kg17.1
        have Kc := (Keep.refl h0 [r0]).trans Kg17 (allS (Or.inl (List.mem_of_getElem? (i := 0) rfl)) all0)
        obtain ⟨w17_depth, hw17_depth⟩ : ∃ z : Int32, z = (p1 - (1 : Int32)) := ⟨_, rfl⟩
        have F_3 : Fld Z Tg17.heap r0 "com/example/wireform/wireform/wire/Nesting" "depth" "I" (.int w17_depth) := by subst hw17_depth; exact F_2
        have Ng17 := Fr.app N0 Ng17q
        refine own_st (fun _ k => stg17.trans k) ?_
        refine own_st (B := Tg17.setTop (mkF m 23 #[.val (.ref r0), .val (.int p1), .val (.int p2), .val (.int p3), .unset, .unset] [(.int (p1 - (1 : Int32)))])) (fun target kt => ?_) ?_
        · show Steps p.tables e below (Tg17.setTop (mkF m 20 #[.val (.ref r0), .val (.int p1), .val (.int p2), .val (.int p3), .unset, .unset] [])) target
          refine XS.iloadN Xg17.here hx rfl (hb hby own_d3_20) rfl ?_
          show Steps p.tables e below (Tg17.setTop (mkF m 21 #[.val (.ref r0), .val (.int p1), .val (.int p2), .val (.int p3), .unset, .unset] [(.int p1)])) target
          refine XS.iconst Xg17.here hx rfl (hb hby own_d3_21) ?_
          show Steps p.tables e below (Tg17.setTop (mkF m 22 #[.val (.ref r0), .val (.int p1), .val (.int p2), .val (.int p3), .unset, .unset] [(.int (1 : Int32)), (.int p1)])) target
          refine XS.isub Xg17.here hx rfl (hb hby own_d3_22) rfl ?_
          exact kt
        obtain ⟨fs, hr, hrun, hended, hW, hsame⟩ := Xg17.leave (v := some (.int (p1 - (1 : Int32)))) (fun h => by rw [Bd.returns] at h; cases h)
        have hend : Steps p.tables e below (Tg17.setTop (mkF m 23 #[.val (.ref r0), .val (.int p1), .val (.int p2), .val (.int p3), .unset, .unset] [(.int (p1 - (1 : Int32)))])) (Tg17.setFrames fs) := by
          exact retI Xg17 hx Bd.returns (hb hby own_d3_23) hr
        refine own_fin hend ⟨_, hrun, hended, _, _, rfl, ?_, ⟨_, rfl⟩, hW, hsame.mono (by decide) (by decide)⟩
        show own_Q3 Z r0 p1 p2 p3 h0 n0 _ Tg17.heap _
        subst hw17_depth
        exact ⟨(congrArg (fun z => some (Value.int z)) (Eq.trans (Eq.trans (if_pos c13).symm (if_pos c9).symm) (if_neg c1).symm)), Ng17, Kc, F, F_1, (own_cast (congrArg Value.int (Eq.trans (Eq.trans (if_pos c13).symm (if_pos c9).symm) (if_neg c1).symm)) F_3)⟩
      · refine own_st (B := s₁.setTop (mkF m 25 #[.val (.ref r0), .val (.int p1), .val (.int p2), .val (.int p3), .unset, .unset] [(.ref r0)])) (fun target kt => ?_) ?_
        · show Steps p.tables e below (s₁.setTop (mkF m 13 #[.val (.ref r0), .val (.int p1), .val (.int p2), .val (.int p3), .unset, .unset] [(.int p1)])) target
          refine XS.ifYes X0.here hx rfl (pc0 := 13) (pc' := 24) rfl (hb hby own_d3_13) rfl ((if0 _ _).trans (flt c13).2.2.2) (by decide) (by decide) ?_
          show Steps p.tables e below (s₁.setTop (mkF m 24 #[.val (.ref r0), .val (.int p1), .val (.int p2), .val (.int p3), .unset, .unset] [])) target
          refine XS.aloadN X0.here hx rfl (hb hby own_d3_24) rfl rfl ?_
          exact kt
        obtain ⟨cqg25, kqg25, qg25a, qg25b, qg25c⟩ := isOf hZ e0 E_r0
        obtain ⟨_, _, ⟨Tg25, Lg25, kg25, ng25⟩, -, Xg25, ⟨Lcg25, hQg25, lg25, yg25, zg25⟩, stg25⟩ := X0.virtualBack hx (y := (⟨"com/example/wireform/wireform/wire/Nesting", "enter", "()Z"⟩ : MethodName)) (z := (⟨"com/example/wireform/wireform/wire/Nesting", "enter", "()Z"⟩ : MethodName)) hown (mvT hZ (hw _ (List.mem_of_getElem? (i := 16) rfl))) (mvT hZ (hw _ (List.mem_of_getElem? (i := 17) rfl))) (notFace_of_selects (args := #[]) (mvT hZ (hw _ (List.mem_of_getElem? (i := 19) rfl)))) (mvT hZ (hw _ (List.mem_of_getElem? (i := 19) rfl))) (mvT hZ (hw _ (List.mem_of_getElem? (i := 18) rfl))) (by decide) (backOf (W := 0) (own_rm4 l Z a0 hw [] r0 p2 p1 h0 n0 Z0 E_r0 F_r0_limit F_r0_depth g_r0) hZ (hw _ (List.mem_of_getElem? (i := 20) rfl)) (hw _ (List.mem_of_getElem? (i := 3) rfl)) (by decide) (by decide)) qg25a qg25c (g := (mkF m 25 #[.val (.ref r0), .val (.int p1), .val (.int p2), .val (.int p3), .unset, .unset] [(.ref r0)])) rfl (by rw [hml]; rfl) (Steps.refl _) (argsL := []) (rest := []) (lenOf own_pd1 rfl) rfl (by show 2 * 0 + _ ≤ _; exact Nat.le_of_eq rfl) (hb hby own_d3_25) (fun _ _ => ⟨rfl, e0, (by decide : 0 + 0 ≤ _), (by decide : 0 + 0 ≤ _)⟩)
        dsimp only [Pt.U, Pt.locs, Pt.cells, Pt.slots] at Xg25 lg25 yg25 zg25 stg25 hQg25
        subst lg25 yg25 zg25
        obtain ⟨rfl, Ng25q, Kg25, F, F_1, F_2⟩ := hQg25
        have Zz : n0 ≤ Tg25.heap.size := Nat.le_trans Z0 Kg25.1
        have Kc := (Keep.refl h0 [r0]).trans Kg25 (allS (Or.inl (List.mem_of_getElem? (i := 0) rfl)) all0)
        obtain ⟨w25_depth, hw25_depth⟩ : ∃ z : Int32, z = (if p1 = p2 then p1 else (p1 + (1 : Int32))) := ⟨_, rfl⟩
        have F_3 : Fld Z Tg25.heap r0 "com/example/wireform/wireform/wire/Nesting" "depth" "I" (.int w25_depth) := by subst hw25_depth; exact F_2
        have Ng25 := Fr.app N0 Ng25q
        refine own_st (fun _ k => stg25.trans k) ?_
        refine own_st (B := Tg25.setTop (mkF m 32 #[.val (.ref r0), .val (.int p1), .val (.int p2), .val (.int p3), .val (.int (own_b (¬ (p1 = p2)))), .unset] [(.int p2), (.int p1)])) (fun target kt => ?_) ?_
        · show Steps p.tables e below (Tg25.setTop (mkF m 28 #[.val (.ref r0), .val (.int p1), .val (.int p2), .val (.int p3), .unset, .unset] [(.int (own_b (¬ (p1 = p2))))])) target
          refine XS.istore Xg25.here hx rfl (hb hby own_d3_28) rfl (l' := #[.val (.ref r0), .val (.int p1), .val (.int p2), .val (.int p3), .val (.int (own_b (¬ (p1 = p2)))), .unset]) rfl ?_
          show Steps p.tables e below (Tg25.setTop (mkF m 30 #[.val (.ref r0), .val (.int p1), .val (.int p2), .val (.int p3), .val (.int (own_b (¬ (p1 = p2)))), .unset] [])) target
          refine XS.iloadN Xg25.here hx rfl (hb hby own_d3_30) rfl ?_
          show Steps p.tables e below (Tg25.setTop (mkF m 31 #[.val (.ref r0), .val (.int p1), .val (.int p2), .val (.int p3), .val (.int (own_b (¬ (p1 = p2)))), .unset] [(.int p1)])) target
          refine XS.iloadN Xg25.here hx rfl (hb hby own_d3_31) rfl ?_
          exact kt
        obtain ⟨_, ⟨j40_s0, rfl, rfl⟩, st_M40⟩ : own_Lead p.tables e below (Tg25.setTop (mkF m 32 #[.val (.ref r0), .val (.int p1), .val (.int p2), .val (.int p3), .val (.int (own_b (¬ (p1 = p2)))), .unset] [(.int p2), (.int p1)])) (fun B => ∃ (j40_s0 : Int32), B = Tg25.setTop (mkF m 40 #[.val (.ref r0), .val (.int p1), .val (.int p2), .val (.int p3), .val (.int (own_b (¬ (p1 = p2)))), .unset] [(.int j40_s0)]) ∧ j40_s0 = own_b (p1 < p2)) := by
          by_cases c32 : p1 < p2
          · refine own_st (B := Tg25.setTop (mkF m 40 #[.val (.ref r0), .val (.int p1), .val (.int p2), .val (.int p3), .val (.int (own_b (¬ (p1 = p2)))), .unset] [(.int (1 : Int32))])) (fun target kt => ?_) ?_
            · show Steps p.tables e below (Tg25.setTop (mkF m 32 #[.val (.ref r0), .val (.int p1), .val (.int p2), .val (.int p3), .val (.int (own_b (¬ (p1 = p2)))), .unset] [(.int p2), (.int p1)])) target
              refine XS.icmpNo Xg25.here hx rfl (hb hby own_d3_32) rfl (tlt c32).2.1 ?_
              show Steps p.tables e below (Tg25.setTop (mkF m 35 #[.val (.ref r0), .val (.int p1), .val (.int p2), .val (.int p3), .val (.int (own_b (¬ (p1 = p2)))), .unset] [])) target
              refine XS.iconst Xg25.here hx rfl (hb hby own_d3_35) ?_
              show Steps p.tables e below (Tg25.setTop (mkF m 36 #[.val (.ref r0), .val (.int p1), .val (.int p2), .val (.int p3), .val (.int (own_b (¬ (p1 = p2)))), .unset] [(.int (1 : Int32))])) target
              refine XS.goto Xg25.here hx rfl (pc0 := 36) (pc' := 40) rfl (hb hby own_d3_36) (by decide) (by decide) ?_
              exact kt
            exact ⟨_, ⟨(1 : Int32), rfl, (own_b1 c32).symm⟩, fun _ k => k⟩
          · refine own_st (B := Tg25.setTop (mkF m 40 #[.val (.ref r0), .val (.int p1), .val (.int p2), .val (.int p3), .val (.int (own_b (¬ (p1 = p2)))), .unset] [(.int (0 : Int32))])) (fun target kt => ?_) ?_
            · show Steps p.tables e below (Tg25.setTop (mkF m 32 #[.val (.ref r0), .val (.int p1), .val (.int p2), .val (.int p3), .val (.int (own_b (¬ (p1 = p2)))), .unset] [(.int p2), (.int p1)])) target
              refine XS.icmpYes Xg25.here hx rfl (pc0 := 32) (pc' := 39) rfl (hb hby own_d3_32) rfl (flt c32).2.1 (by decide) (by decide) ?_
              show Steps p.tables e below (Tg25.setTop (mkF m 39 #[.val (.ref r0), .val (.int p1), .val (.int p2), .val (.int p3), .val (.int (own_b (¬ (p1 = p2)))), .unset] [])) target
              refine XS.iconst Xg25.here hx rfl (hb hby own_d3_39) ?_
              exact kt
            exact ⟨_, ⟨(0 : Int32), rfl, (own_b0 c32).symm⟩, fun _ k => k⟩
        refine own_st st_M40 ?_
        refine own_st (B := Tg25.setTop (mkF m 46 #[.val (.ref r0), .val (.int p1), .val (.int p2), .val (.int p3), .val (.int (own_b (¬ (p1 = p2)))), .val (.int (own_b (p1 < p2)))] [(.int (own_b (p1 < p2))), (.int (own_b (¬ (p1 = p2))))])) (fun target kt => ?_) ?_
        · show Steps p.tables e below (Tg25.setTop (mkF m 40 #[.val (.ref r0), .val (.int p1), .val (.int p2), .val (.int p3), .val (.int (own_b (¬ (p1 = p2)))), .unset] [(.int (own_b (p1 < p2)))])) target
          refine XS.istore Xg25.here hx rfl (hb hby own_d3_40) rfl (l' := #[.val (.ref r0), .val (.int p1), .val (.int p2), .val (.int p3), .val (.int (own_b (¬ (p1 = p2)))), .val (.int (own_b (p1 < p2)))]) rfl ?_
          show Steps p.tables e below (Tg25.setTop (mkF m 42 #[.val (.ref r0), .val (.int p1), .val (.int p2), .val (.int p3), .val (.int (own_b (¬ (p1 = p2)))), .val (.int (own_b (p1 < p2)))] [])) target
          refine XS.iload Xg25.here hx rfl (hb hby own_d3_42) rfl ?_
          show Steps p.tables e below (Tg25.setTop (mkF m 44 #[.val (.ref r0), .val (.int p1), .val (.int p2), .val (.int p3), .val (.int (own_b (¬ (p1 = p2)))), .val (.int (own_b (p1 < p2)))] [(.int (own_b (¬ (p1 = p2))))])) target
          refine XS.iload Xg25.here hx rfl (hb hby own_d3_44) rfl ?_
          exact kt
        by_cases c46 : (¬ (p1 = p2)) ↔ (p1 < p2)
        · refine own_st (B := Tg25.setTop (mkF m 53 #[.val (.ref r0), .val (.int p1), .val (.int p2), .val (.int p3), .val (.int (own_b (¬ (p1 = p2)))), .val (.int (own_b (p1 < p2)))] [(.int (own_b (p1 < p2)))])) (fun target kt => ?_) ?_
          · show Steps p.tables e below (Tg25.setTop (mkF m 46 #[.val (.ref r0), .val (.int p1), .val (.int p2), .val (.int p3), .val (.int (own_b (¬ (p1 = p2)))), .val (.int (own_b (p1 < p2)))] [(.int (own_b (p1 < p2))), (.int (own_b (¬ (p1 = p2))))])) target
            refine XS.icmpYes Xg25.here hx rfl (pc0 := 46) (pc' := 51) rfl (hb hby own_d3_46) rfl (teq (own_bb rfl rfl c46)).1 (by decide) (by decide) ?_
            show Steps p.tables e below (Tg25.setTop (mkF m 51 #[.val (.ref r0), .val (.int p1), .val (.int p2), .val (.int p3), .val (.int (own_b (¬ (p1 = p2)))), .val (.int (own_b (p1 < p2)))] [])) target
            refine XS.iload Xg25.here hx rfl (hb hby own_d3_51) rfl ?_
            exact kt
          by_cases c53 : p1 < p2
          · refine own_st (B := Tg25.setTop (mkF m 59 #[.val (.ref r0), .val (.int p1), .val (.int p2), .val (.int p3), .val (.int (own_b (¬ (p1 = p2)))), .val (.int (own_b (p1 < p2)))] [(.int (p1 + (1 : Int32)))])) (fun target kt => ?_) ?_
            · show Steps p.tables e below (Tg25.setTop (mkF m 53 #[.val (.ref r0), .val (.int p1), .val (.int p2), .val (.int p3), .val (.int (own_b (¬ (p1 = p2)))), .val (.int (own_b (p1 < p2)))] [(.int (own_b (p1 < p2)))])) target
              refine XS.ifNo Xg25.here hx rfl (hb hby own_d3_53) rfl ((if0 _ _).trans (feq (own_bn0 rfl c53)).1) ?_
              show Steps p.tables e below (Tg25.setTop (mkF m 56 #[.val (.ref r0), .val (.int p1), .val (.int p2), .val (.int p3), .val (.int (own_b (¬ (p1 = p2)))), .val (.int (own_b (p1 < p2)))] [])) target
              refine XS.iloadN Xg25.here hx rfl (hb hby own_d3_56) rfl ?_
              show Steps p.tables e below (Tg25.setTop (mkF m 57 #[.val (.ref r0), .val (.int p1), .val (.int p2), .val (.int p3), .val (.int (own_b (¬ (p1 = p2)))), .val (.int (own_b (p1 < p2)))] [(.int p1)])) target
              refine XS.iconst Xg25.here hx rfl (hb hby own_d3_57) ?_
              show Steps p.tables e below (Tg25.setTop (mkF m 58 #[.val (.ref r0), .val (.int p1), .val (.int p2), .val (.int p3), .val (.int (own_b (¬ (p1 = p2)))), .val (.int (own_b (p1 < p2)))] [(.int (1 : Int32)), (.int p1)])) target
              refine XS.iadd Xg25.here hx rfl (hb hby own_d3_58) rfl ?_
              exact kt
            obtain ⟨fs, hr, hrun, hended, hW, hsame⟩ := Xg25.leave (v := some (.int (p1 + (1 : Int32)))) (fun h => by rw [Bd.returns] at h; cases h)
            have hend : Steps p.tables e below (Tg25.setTop (mkF m 59 #[.val (.ref r0), .val (.int p1), .val (.int p2), .val (.int p3), .val (.int (own_b (¬ (p1 = p2)))), .val (.int (own_b (p1 < p2)))] [(.int (p1 + (1 : Int32)))])) (Tg25.setFrames fs) := by
              exact retI Xg25 hx Bd.returns (hb hby own_d3_59) hr
            refine own_fin hend ⟨_, hrun, hended, _, _, rfl, ?_, ⟨_, rfl⟩, hW, hsame.mono (by decide) (by decide)⟩
            show own_Q3 Z r0 p1 p2 p3 h0 n0 _ Tg25.heap _
            subst hw25_depth
            exact ⟨(congrArg (fun z => some (Value.int z)) (Eq.trans (Eq.trans (Eq.trans (Eq.trans (if_pos c53).symm (if_pos c46).symm) (if_neg c13).symm) (if_pos c9).symm) (if_neg c1).symm)), Ng25, Kc, F, F_1, (own_cast (congrArg Value.int (Eq.trans (Eq.trans (if_neg c13).symm (if_pos c9).symm) (if_neg c1).symm)) F_3)⟩
          · refine own_st (B := Tg25.setTop (mkF m 61 #[.val (.ref r0), .val (.int p1), .val (.int p2), .val (.int p3), .val (.int (own_b (¬ (p1 = p2)))), .val (.int (own_b (p1 < p2)))] [(.int p1)])) (fun target kt => ?_) ?_
            · show Steps p.tables e below (Tg25.setTop (mkF m 53 #[.val (.ref r0), .val (.int p1), .val (.int p2), .val (.int p3), .val (.int (own_b (¬ (p1 = p2)))), .val (.int (own_b (p1 < p2)))] [(.int (own_b (p1 < p2)))])) target
              refine XS.ifYes Xg25.here hx rfl (pc0 := 53) (pc' := 60) rfl (hb hby own_d3_53) rfl ((if0 _ _).trans (teq (own_b00 rfl c53)).1) (by decide) (by decide) ?_
              show Steps p.tables e below (Tg25.setTop (mkF m 60 #[.val (.ref r0), .val (.int p1), .val (.int p2), .val (.int p3), .val (.int (own_b (¬ (p1 = p2)))), .val (.int (own_b (p1 < p2)))] [])) target
              refine XS.iloadN Xg25.here hx rfl (hb hby own_d3_60) rfl ?_
              exact kt
            obtain ⟨fs, hr, hrun, hended, hW, hsame⟩ := Xg25.leave (v := some (.int p1)) (fun h => by rw [Bd.returns] at h; cases h)
            have hend : Steps p.tables e below (Tg25.setTop (mkF m 61 #[.val (.ref r0), .val (.int p1), .val (.int p2), .val (.int p3), .val (.int (own_b (¬ (p1 = p2)))), .val (.int (own_b (p1 < p2)))] [(.int p1)])) (Tg25.setFrames fs) := by
              exact retI Xg25 hx Bd.returns (hb hby own_d3_61) hr
            refine own_fin hend ⟨_, hrun, hended, _, _, rfl, ?_, ⟨_, rfl⟩, hW, hsame.mono (by decide) (by decide)⟩
            show own_Q3 Z r0 p1 p2 p3 h0 n0 _ Tg25.heap _
            subst hw25_depth
            exact ⟨(congrArg (fun z => some (Value.int z)) (Eq.trans (Eq.trans (Eq.trans (Eq.trans (if_neg c53).symm (if_pos c46).symm) (if_neg c13).symm) (if_pos c9).symm) (if_neg c1).symm)), Ng25, Kc, F, F_1, (own_cast (congrArg Value.int (Eq.trans (Eq.trans (if_neg c13).symm (if_pos c9).symm) (if_neg c1).symm)) F_3)⟩
        · refine own_st (B := Tg25.setTop (mkF m 50 #[.val (.ref r0), .val (.int p1), .val (.int p2), .val (.int p3), .val (.int (own_b (¬ (p1 = p2)))), .val (.int (own_b (p1 < p2)))] [(.int (-1 : Int32))])) (fun target kt => ?_) ?_
          · show Steps p.tables e below (Tg25.setTop (mkF m 46 #[.val (.ref r0), .val (.int p1), .val (.int p2), .val (.int p3), .val (.int (own_b (¬ (p1 = p2)))), .val (.int (own_b (p1 < p2)))] [(.int (own_b (p1 < p2))), (.int (own_b (¬ (p1 = p2))))])) target
            refine XS.icmpNo Xg25.here hx rfl (hb hby own_d3_46) rfl (feq (own_bbn rfl rfl c46)).1 ?_
            show Steps p.tables e below (Tg25.setTop (mkF m 49 #[.val (.ref r0), .val (.int p1), .val (.int p2), .val (.int p3), .val (.int (own_b (¬ (p1 = p2)))), .val (.int (own_b (p1 < p2)))] [])) target
            refine XS.iconst Xg25.here hx rfl (hb hby own_d3_49) ?_
            exact kt
          obtain ⟨fs, hr, hrun, hended, hW, hsame⟩ := Xg25.leave (v := some (.int (-1 : Int32))) (fun h => by rw [Bd.returns] at h; cases h)
          have hend : Steps p.tables e below (Tg25.setTop (mkF m 50 #[.val (.ref r0), .val (.int p1), .val (.int p2), .val (.int p3), .val (.int (own_b (¬ (p1 = p2)))), .val (.int (own_b (p1 < p2)))] [(.int (-1 : Int32))])) (Tg25.setFrames fs) := by
            exact retI Xg25 hx Bd.returns (hb hby own_d3_50) hr
          refine own_fin hend ⟨_, hrun, hended, _, _, rfl, ?_, ⟨_, rfl⟩, hW, hsame.mono (by decide) (by decide)⟩
          show own_Q3 Z r0 p1 p2 p3 h0 n0 _ Tg25.heap _
          subst hw25_depth
          exact ⟨(congrArg (fun z => some (Value.int z)) (Eq.trans (Eq.trans (Eq.trans (if_neg c46).symm (if_neg c13).symm) (if_pos c9).symm) (if_neg c1).symm)), Ng25, Kc, F, F_1, (own_cast (congrArg Value.int (Eq.trans (Eq.trans (if_neg c13).symm (if_pos c9).symm) (if_neg c1).symm)) F_3)⟩
    · refine own_st (B := s₁.setTop (mkF m 25 #[.val (.ref r0), .val (.int p1), .val (.int p2), .val (.int p3), .unset, .unset] [(.ref r0)])) (fun target kt => ?_) ?_
      · show Steps p.tables e below (s₁.setTop (mkF m 9 #[.val (.ref r0), .val (.int p1), .val (.int p2), .val (.int p3), .unset, .unset] [(.int (p3 &&& (1 : Int32)))])) target
        refine XS.ifYes X0.here hx rfl (pc0 := 9) (pc' := 24) rfl (hb hby own_d3_9) rfl ((if0 _ _).trans (feq c9).2) (by decide) (by decide) ?_
        show Steps p.tables e below (s₁.setTop (mkF m 24 #[.val (.ref r0), .val (.int p1), .val (.int p2), .val (.int p3), .unset, .unset] [])) target
        refine XS.aloadN X0.here hx rfl (hb hby own_d3_24) rfl rfl ?_
        exact kt
      obtain ⟨cqg25, kqg25, qg25a, qg25b, qg25c⟩ := isOf hZ e0 E_r0
      obtain ⟨_, _, ⟨Tg25, Lg25, kg25, ng25⟩, -, Xg25, ⟨Lcg25, hQg25, lg25, yg25, zg25⟩, stg25⟩ := X0.virtualBack hx (y := (⟨"com/example/wireform/wireform/wire/Nesting", "enter", "()Z"⟩ : MethodName)) (z := (⟨"com/example/wireform/wireform/wire/Nesting", "enter", "()Z"⟩ : MethodName)) hown (mvT hZ (hw _ (List.mem_of_getElem? (i := 16) rfl))) (mvT hZ (hw _ (List.mem_of_getElem? (i := 17) rfl))) (notFace_of_selects (args := #[]) (mvT hZ (hw _ (List.mem_of_getElem? (i := 19) rfl)))) (mvT hZ (hw _ (List.mem_of_getElem? (i := 19) rfl))) (mvT hZ (hw _ (List.mem_of_getElem? (i := 18) rfl))) (by decide) (backOf (W := 0) (own_rm4 l Z a0 hw [] r0 p2 p1 h0 n0 Z0 E_r0 F_r0_limit F_r0_depth g_r0) hZ (hw _ (List.mem_of_getElem? (i := 20) rfl)) (hw _ (List.mem_of_getElem? (i := 3) rfl)) (by decide) (by decide)) qg25a qg25c (g := (mkF m 25 #[.val (.ref r0), .val (.int p1), .val (.int p2), .val (.int p3), .unset, .unset] [(.ref r0)])) rfl (by rw [hml]; rfl) (Steps.refl _) (argsL := []) (rest := []) (lenOf own_pd1 rfl) rfl (by show 2 * 0 + _ ≤ _; exact Nat.le_of_eq rfl) (hb hby own_d3_25) (fun _ _ => ⟨rfl, e0, (by decide : 0 + 0 ≤ _), (by decide : 0 + 0 ≤ _)⟩)
      dsimp only [Pt.U, Pt.locs, Pt.cells, Pt.slots] at Xg25 lg25 yg25 zg25 stg25 hQg25
      subst lg25 yg25 zg25
      obtain ⟨rfl, Ng25q, Kg25, F, F_1, F_2⟩ := hQg25
      have Zz : n0 ≤ Tg25.heap.size := Nat.le_trans Z0 Kg25.1
      have Kc := (Keep.refl h0 [r0]).trans Kg25 (allS (Or.inl (List.mem_of_getElem? (i := 0) rfl)) all0)
      obtain ⟨w25_depth, hw25_depth⟩ : ∃ z : Int32, z = (if p1 = p2 then p1 else (p1 + (1 : Int32))) := ⟨_, rfl⟩
      have F_3 : Fld Z Tg25.heap r0 "com/example/wireform/wireform/wire/Nesting" "depth" "I" (.int w25_depth) := by subst hw25_depth; exact F_2
      have Ng25 := Fr.app N0 Ng25q
      refine own_st (fun _ k => stg25.trans k) ?_
      refine own_st (B := Tg25.setTop (mkF m 32 #[.val (.ref r0), .val (.int p1), .val (.int p2), .val (.int p3), .val (.int (own_b (¬ (p1 = p2)))), .unset] [(.int p2), (.int p1)])) (fun target kt => ?_) ?_
      · show Steps p.tables e below (Tg25.setTop (mkF m 28 #[.val (.ref r0), .val (.int p1), .val (.int p2), .val (.int p3), .unset, .unset] [(.int (own_b (¬ (p1 = p2))))])) target
        refine XS.istore Xg25.here hx rfl (hb hby own_d3_28) rfl (l' := #[.val (.ref r0), .val (.int p1), .val (.int p2), .val (.int p3), .val (.int (own_b (¬ (p1 = p2)))), .unset]) rfl ?_
        show Steps p.tables e below (Tg25.setTop (mkF m 30 #[.val (.ref r0), .val (.int p1), .val (.int p2), .val (.int p3), .val (.int (own_b (¬ (p1 = p2)))), .unset] [])) target
        refine XS.iloadN Xg25.here hx rfl (hb hby own_d3_30) rfl ?_
        show Steps p.tables e below (Tg25.setTop (mkF m 31 #[.val (.ref r0), .val (.int p1), .val (.int p2), .val (.int p3), .val (.int (own_b (¬ (p1 = p2)))), .unset] [(.int p1)])) target
        refine XS.iloadN Xg25.here hx rfl (hb hby own_d3_31) rfl ?_
        exact kt
      obtain ⟨_, ⟨j40_s0, rfl, rfl⟩, st_M40⟩ : own_Lead p.tables e below (Tg25.setTop (mkF m 32 #[.val (.ref r0), .val (.int p1), .val (.int p2), .val (.int p3), .val (.int (own_b (¬ (p1 = p2)))), .unset] [(.int p2), (.int p1)])) (fun B => ∃ (j40_s0 : Int32), B = Tg25.setTop (mkF m 40 #[.val (.ref r0), .val (.int p1), .val (.int p2), .val (.int p3), .val (.int (own_b (¬ (p1 = p2)))), .unset] [(.int j40_s0)]) ∧ j40_s0 = own_b (p1 < p2)) := by
        by_cases c32 : p1 < p2
        · refine own_st (B := Tg25.setTop (mkF m 40 #[.val (.ref r0), .val (.int p1), .val (.int p2), .val (.int p3), .val (.int (own_b (¬ (p1 = p2)))), .unset] [(.int (1 : Int32))])) (fun target kt => ?_) ?_
          · show Steps p.tables e below (Tg25.setTop (mkF m 32 #[.val (.ref r0), .val (.int p1), .val (.int p2), .val (.int p3), .val (.int (own_b (¬ (p1 = p2)))), .unset] [(.int p2), (.int p1)])) target
            refine XS.icmpNo Xg25.here hx rfl (hb hby own_d3_32) rfl (tlt c32).2.1 ?_
            show Steps p.tables e below (Tg25.setTop (mkF m 35 #[.val (.ref r0), .val (.int p1), .val (.int p2), .val (.int p3), .val (.int (own_b (¬ (p1 = p2)))), .unset] [])) target
            refine XS.iconst Xg25.here hx rfl (hb hby own_d3_35) ?_
            show Steps p.tables e below (Tg25.setTop (mkF m 36 #[.val (.ref r0), .val (.int p1), .val (.int p2), .val (.int p3), .val (.int (own_b (¬ (p1 = p2)))), .unset] [(.int (1 : Int32))])) target
            refine XS.goto Xg25.here hx rfl (pc0 := 36) (pc' := 40) rfl (hb hby own_d3_36) (by decide) (by decide) ?_
            exact kt
          exact ⟨_, ⟨(1 : Int32), rfl, (own_b1 c32).symm⟩, fun _ k => k⟩
        · refine own_st (B := Tg25.setTop (mkF m 40 #[.val (.ref r0), .val (.int p1), .val (.int p2), .val (.int p3), .val (.int (own_b (¬ (p1 = p2)))), .unset] [(.int (0 : Int32))])) (fun target kt => ?_) ?_
          · show Steps p.tables e below (Tg25.setTop (mkF m 32 #[.val (.ref r0), .val (.int p1), .val (.int p2), .val (.int p3), .val (.int (own_b (¬ (p1 = p2)))), .unset] [(.int p2), (.int p1)])) target
            refine XS.icmpYes Xg25.here hx rfl (pc0 := 32) (pc' := 39) rfl (hb hby own_d3_32) rfl (flt c32).2.1 (by decide) (by decide) ?_
            show Steps p.tables e below (Tg25.setTop (mkF m 39 #[.val (.ref r0), .val (.int p1), .val (.int p2), .val (.int p3), .val (.int (own_b (¬ (p1 = p2)))), .unset] [])) target
            refine XS.iconst Xg25.here hx rfl (hb hby own_d3_39) ?_
            exact kt
          exact ⟨_, ⟨(0 : Int32), rfl, (own_b0 c32).symm⟩, fun _ k => k⟩
      refine own_st st_M40 ?_
      refine own_st (B := Tg25.setTop (mkF m 46 #[.val (.ref r0), .val (.int p1), .val (.int p2), .val (.int p3), .val (.int (own_b (¬ (p1 = p2)))), .val (.int (own_b (p1 < p2)))] [(.int (own_b (p1 < p2))), (.int (own_b (¬ (p1 = p2))))])) (fun target kt => ?_) ?_
      · show Steps p.tables e below (Tg25.setTop (mkF m 40 #[.val (.ref r0), .val (.int p1), .val (.int p2), .val (.int p3), .val (.int (own_b (¬ (p1 = p2)))), .unset] [(.int (own_b (p1 < p2)))])) target
        refine XS.istore Xg25.here hx rfl (hb hby own_d3_40) rfl (l' := #[.val (.ref r0), .val (.int p1), .val (.int p2), .val (.int p3), .val (.int (own_b (¬ (p1 = p2)))), .val (.int (own_b (p1 < p2)))]) rfl ?_
        show Steps p.tables e below (Tg25.setTop (mkF m 42 #[.val (.ref r0), .val (.int p1), .val (.int p2), .val (.int p3), .val (.int (own_b (¬ (p1 = p2)))), .val (.int (own_b (p1 < p2)))] [])) target
        refine XS.iload Xg25.here hx rfl (hb hby own_d3_42) rfl ?_
        show Steps p.tables e below (Tg25.setTop (mkF m 44 #[.val (.ref r0), .val (.int p1), .val (.int p2), .val (.int p3), .val (.int (own_b (¬ (p1 = p2)))), .val (.int (own_b (p1 < p2)))] [(.int (own_b (¬ (p1 = p2))))])) target
        refine XS.iload Xg25.here hx rfl (hb hby own_d3_44) rfl ?_
        exact kt
      by_cases c46 : (¬ (p1 = p2)) ↔ (p1 < p2)
      · refine own_st (B := Tg25.setTop (mkF m 53 #[.val (.ref r0), .val (.int p1), .val (.int p2), .val (.int p3), .val (.int (own_b (¬ (p1 = p2)))), .val (.int (own_b (p1 < p2)))] [(.int (own_b (p1 < p2)))])) (fun target kt => ?_) ?_
        · show Steps p.tables e below (Tg25.setTop (mkF m 46 #[.val (.ref r0), .val (.int p1), .val (.int p2), .val (.int p3), .val (.int (own_b (¬ (p1 = p2)))), .val (.int (own_b (p1 < p2)))] [(.int (own_b (p1 < p2))), (.int (own_b (¬ (p1 = p2))))])) target
          refine XS.icmpYes Xg25.here hx rfl (pc0 := 46) (pc' := 51) rfl (hb hby own_d3_46) rfl (teq (own_bb rfl rfl c46)).1 (by decide) (by decide) ?_
          show Steps p.tables e below (Tg25.setTop (mkF m 51 #[.val (.ref r0), .val (.int p1), .val (.int p2), .val (.int p3), .val (.int (own_b (¬ (p1 = p2)))), .val (.int (own_b (p1 < p2)))] [])) target
          refine XS.iload Xg25.here hx rfl (hb hby own_d3_51) rfl ?_
          exact kt
        by_cases c53 : p1 < p2
        · refine own_st (B := Tg25.setTop (mkF m 59 #[.val (.ref r0), .val (.int p1), .val (.int p2), .val (.int p3), .val (.int (own_b (¬ (p1 = p2)))), .val (.int (own_b (p1 < p2)))] [(.int (p1 + (1 : Int32)))])) (fun target kt => ?_) ?_
          · show Steps p.tables e below (Tg25.setTop (mkF m 53 #[.val (.ref r0), .val (.int p1), .val (.int p2), .val (.int p3), .val (.int (own_b (¬ (p1 = p2)))), .val (.int (own_b (p1 < p2)))] [(.int (own_b (p1 < p2)))])) target
            refine XS.ifNo Xg25.here hx rfl (hb hby own_d3_53) rfl ((if0 _ _).trans (feq (own_bn0 rfl c53)).1) ?_
            show Steps p.tables e below (Tg25.setTop (mkF m 56 #[.val (.ref r0), .val (.int p1), .val (.int p2), .val (.int p3), .val (.int (own_b (¬ (p1 = p2)))), .val (.int (own_b (p1 < p2)))] [])) target
            refine XS.iloadN Xg25.here hx rfl (hb hby own_d3_56) rfl ?_
            show Steps p.tables e below (Tg25.setTop (mkF m 57 #[.val (.ref r0), .val (.int p1), .val (.int p2), .val (.int p3), .val (.int (own_b (¬ (p1 = p2)))), .val (.int (own_b (p1 < p2)))] [(.int p1)])) target
            refine XS.iconst Xg25.here hx rfl (hb hby own_d3_57) ?_
            show Steps p.tables e below (Tg25.setTop (mkF m 58 #[.val (.ref r0), .val (.int p1), .val (.int p2), .val (.int p3), .val (.int (own_b (¬ (p1 = p2)))), .val (.int (own_b (p1 < p2)))] [(.int (1 : Int32)), (.int p1)])) target
            refine XS.iadd Xg25.here hx rfl (hb hby own_d3_58) rfl ?_
            exact kt
          obtain ⟨fs, hr, hrun, hended, hW, hsame⟩ := Xg25.leave (v := some (.int (p1 + (1 : Int32)))) (fun h => by rw [Bd.returns] at h; cases h)
          have hend : Steps p.tables e below (Tg25.setTop (mkF m 59 #[.val (.ref r0), .val (.int p1), .val (.int p2), .val (.int p3), .val (.int (own_b (¬ (p1 = p2)))), .val (.int (own_b (p1 < p2)))] [(.int (p1 + (1 : Int32)))])) (Tg25.setFrames fs) := by
            exact retI Xg25 hx Bd.returns (hb hby own_d3_59) hr
          refine own_fin hend ⟨_, hrun, hended, _, _, rfl, ?_, ⟨_, rfl⟩, hW, hsame.mono (by decide) (by decide)⟩
          show own_Q3 Z r0 p1 p2 p3 h0 n0 _ Tg25.heap _
          subst hw25_depth
          exact ⟨(congrArg (fun z => some (Value.int z)) (Eq.trans (Eq.trans (Eq.trans (if_pos c53).symm (if_pos c46).symm) (if_neg c9).symm) (if_neg c1).symm)), Ng25, Kc, F, F_1, (own_cast (congrArg Value.int (Eq.trans (if_neg c9).symm (if_neg c1).symm)) F_3)⟩
        · refine own_st (B := Tg25.setTop (mkF m 61 #[.val (.ref r0), .val (.int p1), .val (.int p2), .val (.int p3), .val (.int (own_b (¬ (p1 = p2)))), .val (.int (own_b (p1 < p2)))] [(.int p1)])) (fun target kt => ?_) ?_
          · show Steps p.tables e below (Tg25.setTop (mkF m 53 #[.val (.ref r0), .val (.int p1), .val (.int p2), .val (.int p3), .val (.int (own_b (¬ (p1 = p2)))), .val (.int (own_b (p1 < p2)))] [(.int (own_b (p1 < p2)))])) target
            refine XS.ifYes Xg25.here hx rfl (pc0 := 53) (pc' := 60) rfl (hb hby own_d3_53) rfl ((if0 _ _).trans (teq (own_b00 rfl c53)).1) (by decide) (by decide) ?_
            show Steps p.tables e below (Tg25.setTop (mkF m 60 #[.val (.ref r0), .val (.int p1), .val (.int p2), .val (.int p3), .val (.int (own_b (¬ (p1 = p2)))), .val (.int (own_b (p1 < p2)))] [])) target
            refine XS.iloadN Xg25.here hx rfl (hb hby own_d3_60) rfl ?_
            exact kt
          obtain ⟨fs, hr, hrun, hended, hW, hsame⟩ := Xg25.leave (v := some (.int p1)) (fun h => by rw [Bd.returns] at h; cases h)
          have hend : Steps p.tables e below (Tg25.setTop (mkF m 61 #[.val (.ref r0), .val (.int p1), .val (.int p2), .val (.int p3), .val (.int (own_b (¬ (p1 = p2)))), .val (.int (own_b (p1 < p2)))] [(.int p1)])) (Tg25.setFrames fs) := by
            exact retI Xg25 hx Bd.returns (hb hby own_d3_61) hr
          refine own_fin hend ⟨_, hrun, hended, _, _, rfl, ?_, ⟨_, rfl⟩, hW, hsame.mono (by decide) (by decide)⟩
          show own_Q3 Z r0 p1 p2 p3 h0 n0 _ Tg25.heap _
          subst hw25_depth
          exact ⟨(congrArg (fun z => some (Value.int z)) (Eq.trans (Eq.trans (Eq.trans (if_neg c53).symm (if_pos c46).symm) (if_neg c9).symm) (if_neg c1).symm)), Ng25, Kc, F, F_1, (own_cast (congrArg Value.int (Eq.trans (if_neg c9).symm (if_neg c1).symm)) F_3)⟩
      · refine own_st (B := Tg25.setTop (mkF m 50 #[.val (.ref r0), .val (.int p1), .val (.int p2), .val (.int p3), .val (.int (own_b (¬ (p1 = p2)))), .val (.int (own_b (p1 < p2)))] [(.int (-1 : Int32))])) (fun target kt => ?_) ?_
        · show Steps p.tables e below (Tg25.setTop (mkF m 46 #[.val (.ref r0), .val (.int p1), .val (.int p2), .val (.int p3), .val (.int (own_b (¬ (p1 = p2)))), .val (.int (own_b (p1 < p2)))] [(.int (own_b (p1 < p2))), (.int (own_b (¬ (p1 = p2))))])) target
          refine XS.icmpNo Xg25.here hx rfl (hb hby own_d3_46) rfl (feq (own_bbn rfl rfl c46)).1 ?_
          show Steps p.tables e below (Tg25.setTop (mkF m 49 #[.val (.ref r0), .val (.int p1), .val (.int p2), .val (.int p3), .val (.int (own_b (¬ (p1 = p2)))), .val (.int (own_b (p1 < p2)))] [])) target
          refine XS.iconst Xg25.here hx rfl (hb hby own_d3_49) ?_
          exact kt
        obtain ⟨fs, hr, hrun, hended, hW, hsame⟩ := Xg25.leave (v := some (.int (-1 : Int32))) (fun h => by rw [Bd.returns] at h; cases h)
        have hend : Steps p.tables e below (Tg25.setTop (mkF m 50 #[.val (.ref r0), .val (.int p1), .val (.int p2), .val (.int p3), .val (.int (own_b (¬ (p1 = p2)))), .val (.int (own_b (p1 < p2)))] [(.int (-1 : Int32))])) (Tg25.setFrames fs) := by
          exact retI Xg25 hx Bd.returns (hb hby own_d3_50) hr
        refine own_fin hend ⟨_, hrun, hended, _, _, rfl, ?_, ⟨_, rfl⟩, hW, hsame.mono (by decide) (by decide)⟩
        show own_Q3 Z r0 p1 p2 p3 h0 n0 _ Tg25.heap _
        subst hw25_depth
        exact ⟨(congrArg (fun z => some (Value.int z)) (Eq.trans (Eq.trans (if_neg c46).symm (if_neg c9).symm) (if_neg c1).symm)), Ng25, Kc, F, F_1, (own_cast (congrArg Value.int (Eq.trans (if_neg c9).symm (if_neg c1).symm)) F_3)⟩
theorem own_stepOk (p1 p2 p3 : Int32) (h1 : ¬ p1 < (0 : Int32)) (h2 : ¬ p2 < p1) (h3 : ¬ p2 < (0 : Int32)) : (if p1 < (0 : Int32) then p1 else (if (p3 &&& (1 : Int32)) = (0 : Int32) then (if (0 : Int32) < p1 then ((p1 - (1 : Int32))) else ((if p1 = p2 then p1 else (p1 + (1 : Int32))))) else ((if p1 = p2 then p1 else (p1 + (1 : Int32)))))) = (if p1 < (0 : Int32) then p1 else (if (p3 &&& (1 : Int32)) = (0 : Int32) then (if (0 : Int32) < p1 then (p1 - (1 : Int32)) else (if (¬ (p1 = p2)) ↔ (p1 < p2) then (if p1 < p2 then (p1 + (1 : Int32)) else p1) else (-1 : Int32))) else (if (¬ (p1 = p2)) ↔ (p1 < p2) then (if p1 < p2 then (p1 + (1 : Int32)) else p1) else (-1 : Int32)))) ∧ ¬ (if p1 < (0 : Int32) then p1 else (if (p3 &&& (1 : Int32)) = (0 : Int32) then (if (0 : Int32) < p1 then (p1 - (1 : Int32)) else (if (¬ (p1 = p2)) ↔ (p1 < p2) then (if p1 < p2 then (p1 + (1 : Int32)) else p1) else (-1 : Int32))) else (if (¬ (p1 = p2)) ↔ (p1 < p2) then (if p1 < p2 then (p1 + (1 : Int32)) else p1) else (-1 : Int32)))) < (0 : Int32) ∧ ¬ p2 < (if p1 < (0 : Int32) then p1 else (if (p3 &&& (1 : Int32)) = (0 : Int32) then (if (0 : Int32) < p1 then (p1 - (1 : Int32)) else (if (¬ (p1 = p2)) ↔ (p1 < p2) then (if p1 < p2 then (p1 + (1 : Int32)) else p1) else (-1 : Int32))) else (if (¬ (p1 = p2)) ↔ (p1 < p2) then (if p1 < p2 then (p1 + (1 : Int32)) else p1) else (-1 : Int32)))) := by
  have e0 : (0 : Int32).toInt = 0 := by decide
  have e1 : (1 : Int32).toInt = 1 := by decide
  have k1 := c_iadd p1 1
  have k2 := c_isub p1 1
  have r1 := rng32 p1
  have r2 := rng32 p2
  have r3 := rng32 (p1 + 1)
  have r4 := rng32 (p1 - 1)
  rw [e1] at k1 k2
  have hI : (¬ p1 = p2) ↔ p1 < p2 := by
    rw [Int32.lt_iff_toInt_lt] at h2 ⊢
    rw [← Int32.toInt_inj]
    omega
  have key : ∀ q : Int32, q = (if p1 = p2 then p1 else (p1 + (1 : Int32))) → q = (if p1 < p2 then (p1 + (1 : Int32)) else p1) ∧ ¬ q < (0 : Int32) ∧ ¬ p2 < q := by
    intro q hq
    by_cases hc : p1 = p2
    · have hn : ¬ p1 < p2 := fun z => (hI.mpr z) hc
      rw [if_pos hc] at hq
      rw [if_neg hn, hq]
      exact ⟨rfl, h1, h2⟩
    · have hn := hI.mp hc
      rw [if_neg hc] at hq
      rw [if_pos hn, hq]
      refine ⟨rfl, ?_, ?_⟩
      · simp only [Int32.lt_iff_toInt_lt, e0] at h1 h2 h3 hn ⊢
        omega
      · simp only [Int32.lt_iff_toInt_lt, e0] at h1 h2 h3 hn ⊢
        omega
  obtain ⟨j1, j2, j3⟩ := key _ rfl
  rw [if_neg h1, if_neg h1, if_pos hI, ← j1]
  by_cases h5 : (p3 &&& (1 : Int32)) = (0 : Int32)
  · rw [if_pos h5]
    by_cases h6 : (0 : Int32) < p1
    · rw [if_pos h6]
      refine ⟨rfl, ?_, ?_⟩
      · simp only [Int32.lt_iff_toInt_lt, e0] at h1 h2 h3 h6 ⊢
        omega
      · simp only [Int32.lt_iff_toInt_lt, e0] at h1 h2 h3 h6 ⊢
        omega
    · rw [if_neg h6]
      exact ⟨rfl, j2, j3⟩
  · rw [if_neg h5]
    exact ⟨rfl, j2, j3⟩
theorem own_pd2 : parseMethodDescriptor "(I)V" = some ⟨[.int], none⟩ := by decide +kernel
theorem own_pd3 : parseMethodDescriptor "(Lcom/example/wireform/wireform/wire/Nesting;III)I" = some ⟨[(.object "com/example/wireform/wireform/wire/Nesting"), .int, .int, .int], some .int⟩ := by decide +kernel
theorem own_ef0 (m : MethodId) (p0 : Int32) (p1 : Int32) : entryFrame m #[(.int p0), (.int p1)] maxLocals = mkF m 0 #[.val (.int p0), .val (.int p1), .unset, .unset, .unset] [] := by first | (simp [entryFrame, mkF, argsToLocals, Value.category, maxLocals]; done) | rfl
def own_Q0 (Z : State) (p0 : Int32) (p1 : Int32) (h0 : Heap) (n0 : Nat) (v : Option Value) (h : Heap) (L : List Loc) : Prop := (v = some (.int (1 : Int32))) ∧ (Fr n0 L)
set_option maxRecDepth 65536 in
set_option maxHeartbeats 40000000 in
theorem own_rm0 (l : Launch) (Z : State) (a0 : Array Value) (hw : ∀ d ∈ tables_1, d.before a0 Z = true) (ws : List Jvm.Cond) (p0 : Int32) (p1 : Int32) (h0 : Heap) (n0 : Nat) (Z0 : n0 ≤ h0.size) :
    MetFree l x (head1 (Jvm.Cond.code x code maxLocals ret :: ws) room_1) (fun a U => a = #[(.int p0), (.int p1)] ∧ Z.Warmed39 U.vm ∧ U.heap = h0) (fun _ _ _ _ _ => True) (fun _ U o U' => ∃ v L, o = .returned v ∧ own_Q0 Z p0 p1 h0 n0 v U'.heap L ∧ FrameEnd U o U' L room_1.cells room_1.slots) := by
  refine MetFree.of_bodySF (plainFor_of_name own_pn1) hisR ?_
  intro p e s m args below meth c s₁ Bd hml0 hP hK
  obtain ⟨rfl, hZ, hh⟩ := hP
  have hx := Bd.exec
  have hby := Bd.bytes
  have hml : c.maxLocals = 5 := hml0
  have hown : s.vm.findClass "com/example/wireform/wireform/wire/NestingEnterPinLaw" = some m.cls := findClass_of_methodNamed Bd.named
  have hnm := (name_of_methodNamed Bd.named Bd.method).1
  have X0 : Stand p l e room_1 s m #[(.int p0), (.int p1)] below meth c s₁ [] 0 0 := Stand.of_body Bd
  have e0 : s₁.heap = h0 := by rw [← hh, Bd.state]; rfl
  have N0 := Fr.nil n0
  have pre0 : ∀ t, Steps p.tables e below (s₁.setTop (mkF m 0 #[.val (.int p0), .val (.int p1), .unset, .unset, .unset] [])) t → Steps p.tables e below (s₁.setTop (entryFrame m #[(.int p0), (.int p1)] maxLocals)) t := fun t k => castTop (own_ef0 m p0 p1) k
  refine own_run (own_st pre0 ?_)
  obtain ⟨v8, hv8⟩ : ∃ z : Int32, z = ((p0 &&& (2147483647 : Int32)) % (1001 : Int32)) := ⟨_, rfl⟩
  refine own_st (B := s₁.setTop (mkF m 9 #[.val (.int p0), .val (.int p1), .val (.int v8), .unset, .unset] [])) (fun target kt => ?_) ?_
  · show Steps p.tables e below (s₁.setTop (mkF m 0 #[.val (.int p0), .val (.int p1), .unset, .unset, .unset] [])) target
    refine XS.iloadN X0.here hx rfl (hb hby at_0) rfl ?_
    show Steps p.tables e below (s₁.setTop (mkF m 1 #[.val (.int p0), .val (.int p1), .unset, .unset, .unset] [(.int p0)])) target
    refine X0.ldcInt hx hown (mvT hZ (hw _ (List.mem_of_getElem? (i := 0) rfl))) (g := (mkF m 1 #[.val (.int p0), .val (.int p1), .unset, .unset, .unset] [(.int p0)])) rfl (hb hby at_1) _ ?_
    show Steps p.tables e below (s₁.setTop (mkF m 3 #[.val (.int p0), .val (.int p1), .unset, .unset, .unset] [(.int (2147483647 : Int32)), (.int p0)])) target
    refine XS.iand X0.here hx rfl (hb hby at_3) rfl ?_
    show Steps p.tables e below (s₁.setTop (mkF m 4 #[.val (.int p0), .val (.int p1), .unset, .unset, .unset] [(.int (p0 &&& (2147483647 : Int32)))])) target
    refine XS.sipush X0.here hx rfl (hb hby at_4) ?_
    show Steps p.tables e below (s₁.setTop (mkF m 7 #[.val (.int p0), .val (.int p1), .unset, .unset, .unset] [(.int (1001 : Int32)), (.int (p0 &&& (2147483647 : Int32)))])) target
    refine iremM X0 hx rfl (hb hby at_7) rfl (by decide) ?_
    show Steps p.tables e below (s₁.setTop (mkF m 8 #[.val (.int p0), .val (.int p1), .unset, .unset, .unset] [(.int ((p0 &&& (2147483647 : Int32)) % (1001 : Int32)))])) target
    refine XS.istoreN X0.here hx rfl (hb hby at_8) rfl (l' := #[.val (.int p0), .val (.int p1), .val (.int v8), .unset, .unset]) (by subst hv8; rfl) ?_
    exact kt
  have own_L : ¬ v8 < (0 : Int32) ∧ ¬ (1000 : Int32) < v8 := by rw [hv8]; exact own_lim p0
  obtain ⟨Tg9, hg9, Xg9, eg9, Eg9, Ag9, Dg9, -, stg9⟩ := newO X0 hx hZ hown (hw _ (List.mem_of_getElem? (i := 1) rfl)) (hw _ (List.mem_of_getElem? (i := 2) rfl)) (hw _ (List.mem_of_getElem? (i := 3) rfl)) e0 (g := (mkF m 9 #[.val (.int p0), .val (.int p1), .val (.int v8), .unset, .unset] [])) rfl (hb hby at_9) (by decide) (by decide)
  obtain ⟨b9, gg9⟩ : ∃ z, z = h0.size := ⟨_, rfl⟩
  rw [← gg9] at Ag9 Dg9 stg9
  refine own_st stg9 ?_
  have g_b9 : n0 ≤ b9 := Nat.le_trans Z0 (Nat.le_of_eq gg9.symm)
  have Zz : n0 ≤ hg9.size := Nat.le_trans Z0 Eg9.1
  have F : Fld Z hg9 b9 "com/example/wireform/wireform/wire/Nesting" "limit" "I" (.int (0 : Int32)) := Dg9 (Or.inr (hw _ (List.mem_of_getElem? (i := 11) rfl))) (ty := .int) (by decide)
  have F_1 : Fld Z hg9 b9 "com/example/wireform/wireform/wire/Nesting" "depth" "I" (.int (0 : Int32)) := Dg9 (Or.inl (hw _ (List.mem_of_getElem? (i := 22) rfl))) (ty := .int) (by decide)
  refine own_st (B := Tg9.setTop (mkF m 14 #[.val (.int p0), .val (.int p1), .val (.int v8), .unset, .unset] [(.int v8), (.ref b9), (.ref b9)])) (fun target kt => ?_) ?_
  · show Steps p.tables e below (Tg9.setTop (mkF m 12 #[.val (.int p0), .val (.int p1), .val (.int v8), .unset, .unset] [(.ref b9)])) target
    refine XS.dup Xg9.here hx rfl (hb hby at_12) rfl rfl ?_
    show Steps p.tables e below (Tg9.setTop (mkF m 13 #[.val (.int p0), .val (.int p1), .val (.int v8), .unset, .unset] [(.ref b9), (.ref b9)])) target
    refine XS.iloadN Xg9.here hx rfl (hb hby at_13) rfl ?_
    exact kt
  obtain ⟨_, _, ⟨Tg14, Lg14, kg14, ng14⟩, -, Xg14, ⟨Lcg14, hQg14, lg14, yg14, zg14⟩, stg14⟩ := Xg9.specialBack hx (y := (⟨"com/example/wireform/wireform/wire/Nesting", "<init>", "(I)V"⟩ : MethodName)) rfl hown (mvT hZ (hw _ (List.mem_of_getElem? (i := 4) rfl))) (mvT hZ (hw _ (List.mem_of_getElem? (i := 5) rfl))) (mvT hZ (hw _ (List.mem_of_getElem? (i := 6) rfl))) (by decide) (backOf (W := 1) (own_rm1 l Z a0 hw [] b9 v8 hg9 n0 Zz Ag9 F F_1 g_b9 (show ¬ (v8 < (0 : Int32)) from own_L.1) (show ¬ ((1000 : Int32) < v8) from own_L.2)) hZ (hw _ (List.mem_of_getElem? (i := 6) rfl)) (hw _ (List.mem_of_getElem? (i := 3) rfl)) (by decide) (by decide)) (g := (mkF m 14 #[.val (.int p0), .val (.int p1), .val (.int v8), .unset, .unset] [(.int v8), (.ref b9), (.ref b9)])) rfl (by rw [hml]; rfl) (Steps.refl _) (a := b9) (argsL := [(.int v8)]) (rest := [(.ref b9)]) (lenOf own_pd2 rfl) rfl (by show 2 * 0 + _ ≤ _; exact Nat.le_of_eq rfl) (hb hby at_14) (fun _ _ => ⟨rfl, eg9, (by decide : 1 + 0 ≤ _), (by decide : 2 + 0 ≤ _)⟩)
  dsimp only [Pt.U, Pt.locs, Pt.cells, Pt.slots] at Xg14 lg14 yg14 zg14 stg14 hQg14
  subst lg14 yg14 zg14
  obtain ⟨rfl, Ng14q, Kg14, F_2, F_3, F_4⟩ := hQg14
  have Zz_1 : n0 ≤ Tg14.heap.size := Nat.le_trans Zz Kg14.1
  have Ng14 := Fr.app N0 Ng14q
  refine own_st (fun _ k => stg14.trans k) ?_
  refine own_st (B := Tg14.setTop (mkF m 26 #[.val (.int p0), .val (.int p1), .val (.int v8), .val (.ref b9), .val (.int (0 : Int32))] [(.int p1), (.int v8), (.int (0 : Int32)), (.ref b9)])) (fun target kt => ?_) ?_
  · show Steps p.tables e below (Tg14.setTop (mkF m 17 #[.val (.int p0), .val (.int p1), .val (.int v8), .unset, .unset] [(.ref b9)])) target
    refine XS.astoreN Xg14.here hx rfl (hb hby at_17) rfl rfl (l' := #[.val (.int p0), .val (.int p1), .val (.int v8), .val (.ref b9), .unset]) rfl ?_
    show Steps p.tables e below (Tg14.setTop (mkF m 18 #[.val (.int p0), .val (.int p1), .val (.int v8), .val (.ref b9), .unset] [])) target
    refine XS.iconst Xg14.here hx rfl (hb hby at_18) ?_
    show Steps p.tables e below (Tg14.setTop (mkF m 19 #[.val (.int p0), .val (.int p1), .val (.int v8), .val (.ref b9), .unset] [(.int (0 : Int32))])) target
    refine XS.istore Xg14.here hx rfl (hb hby at_19) rfl (l' := #[.val (.int p0), .val (.int p1), .val (.int v8), .val (.ref b9), .val (.int (0 : Int32))]) rfl ?_
    show Steps p.tables e below (Tg14.setTop (mkF m 21 #[.val (.int p0), .val (.int p1), .val (.int v8), .val (.ref b9), .val (.int (0 : Int32))] [])) target
    refine XS.aloadN Xg14.here hx rfl (hb hby at_21) rfl rfl ?_
    show Steps p.tables e below (Tg14.setTop (mkF m 22 #[.val (.int p0), .val (.int p1), .val (.int v8), .val (.ref b9), .val (.int (0 : Int32))] [(.ref b9)])) target
    refine XS.iload Xg14.here hx rfl (hb hby at_22) rfl ?_
    show Steps p.tables e below (Tg14.setTop (mkF m 24 #[.val (.int p0), .val (.int p1), .val (.int v8), .val (.ref b9), .val (.int (0 : Int32))] [(.int (0 : Int32)), (.ref b9)])) target
    refine XS.iloadN Xg14.here hx rfl (hb hby at_24) rfl ?_
    show Steps p.tables e below (Tg14.setTop (mkF m 25 #[.val (.int p0), .val (.int p1), .val (.int v8), .val (.ref b9), .val (.int (0 : Int32))] [(.int v8), (.int (0 : Int32)), (.ref b9)])) target
    refine XS.iloadN Xg14.here hx rfl (hb hby at_25) rfl ?_
    exact kt
  obtain ⟨_, _, ⟨Tg26, Lg26, kg26, ng26⟩, -, Xg26, ⟨Lcg26, hQg26, lg26, yg26, zg26⟩, stg26⟩ := Jvm.LawKit.callS Xg14 hx (y := (⟨"com/example/wireform/wireform/wire/NestingEnterPinLaw", "step", "(Lcom/example/wireform/wireform/wire/Nesting;III)I"⟩ : MethodName)) hown (mvT hZ (hw _ (List.mem_of_getElem? (i := 12) rfl))) (mvT hZ (hw _ (List.mem_of_getElem? (i := 13) rfl))) (mvT hZ (hw _ (List.mem_of_getElem? (i := 14) rfl))) (mvT hZ (hw _ (List.mem_of_getElem? (i := 15) rfl))) (by decide) (backOf (W := 0) (own_rm3 l Z a0 hw [] b9 (0 : Int32) v8 p1 Tg14.heap n0 Zz_1 F_2 F_3 F_4 g_b9) hZ (hw _ (List.mem_of_getElem? (i := 15) rfl)) (hw _ (List.mem_of_getElem? (i := 14) rfl)) (by decide) (by decide)) (g := (mkF m 26 #[.val (.int p0), .val (.int p1), .val (.int v8), .val (.ref b9), .val (.int (0 : Int32))] [(.int p1), (.int v8), (.int (0 : Int32)), (.ref b9)])) rfl (by rw [hml]; rfl) (argsL := [(.ref b9), (.int (0 : Int32)), (.int v8), (.int p1)]) (rest := []) (lenOf own_pd3 rfl) rfl (by show 2 * 0 + _ ≤ _; exact Nat.le_of_eq rfl) (hb hby at_26) (fun _ _ => ⟨rfl, rfl, (by decide : 1 + 0 ≤ _), (by decide : 2 + 0 ≤ _)⟩)
  dsimp only [Pt.U, Pt.locs, Pt.cells, Pt.slots] at Xg26 lg26 yg26 zg26 stg26 hQg26
  subst lg26 yg26 zg26
  obtain ⟨rfl, Ng26q, Kg26, F_5, F_6, F_7⟩ := hQg26
  have Zz_2 : n0 ≤ Tg26.heap.size := Nat.le_trans Zz_1 Kg26.1
  obtain ⟨w26_depth, hw26_depth⟩ : ∃ z : Int32, z = (if (0 : Int32) < (0 : Int32) then (0 : Int32) else (if (p1 &&& (1 : Int32)) = (0 : Int32) then (if (0 : Int32) < (0 : Int32) then ((0 : Int32) - (1 : Int32)) else (if (0 : Int32) = v8 then (0 : Int32) else ((0 : Int32) + (1 : Int32)))) else (if (0 : Int32) = v8 then (0 : Int32) else ((0 : Int32) + (1 : Int32))))) := ⟨_, rfl⟩
  have F_8 : Fld Z Tg26.heap b9 "com/example/wireform/wireform/wire/Nesting" "depth" "I" (.int w26_depth) := by subst hw26_depth; exact F_7
  have Ng26 := Fr.app Ng14 Ng26q
  refine own_st (stg26) ?_
  obtain ⟨v29, hv29⟩ : ∃ z : Int32, z = (if (0 : Int32) < (0 : Int32) then (0 : Int32) else (if (p1 &&& (1 : Int32)) = (0 : Int32) then (if (0 : Int32) < (0 : Int32) then ((0 : Int32) - (1 : Int32)) else (if (¬ ((0 : Int32) = v8)) ↔ ((0 : Int32) < v8) then (if (0 : Int32) < v8 then ((0 : Int32) + (1 : Int32)) else (0 : Int32)) else (-1 : Int32))) else (if (¬ ((0 : Int32) = v8)) ↔ ((0 : Int32) < v8) then (if (0 : Int32) < v8 then ((0 : Int32) + (1 : Int32)) else (0 : Int32)) else (-1 : Int32)))) := ⟨_, rfl⟩
  refine own_st (B := Tg26.setTop (mkF m 31 #[.val (.int p0), .val (.int p1), .val (.int v8), .val (.ref b9), .val (.int v29)] [])) (fun target kt => ?_) ?_
  · show Steps p.tables e below (Tg26.setTop (mkF m 29 #[.val (.int p0), .val (.int p1), .val (.int v8), .val (.ref b9), .val (.int (0 : Int32))] [(.int (if (0 : Int32) < (0 : Int32) then (0 : Int32) else (if (p1 &&& (1 : Int32)) = (0 : Int32) then (if (0 : Int32) < (0 : Int32) then ((0 : Int32) - (1 : Int32)) else (if (¬ ((0 : Int32) = v8)) ↔ ((0 : Int32) < v8) then (if (0 : Int32) < v8 then ((0 : Int32) + (1 : Int32)) else (0 : Int32)) else (-1 : Int32))) else (if (¬ ((0 : Int32) = v8)) ↔ ((0 : Int32) < v8) then (if (0 : Int32) < v8 then ((0 : Int32) + (1 : Int32)) else (0 : Int32)) else (-1 : Int32)))))])) target
    refine XS.istore Xg26.here hx rfl (hb hby at_29) rfl (l' := #[.val (.int p0), .val (.int p1), .val (.int v8), .val (.ref b9), .val (.int v29)]) (by subst hv29; rfl) ?_
    exact kt
  have hS29 : w26_depth = v29 ∧ ¬ v29 < (0 : Int32) ∧ ¬ v8 < v29 := by
    rw [hw26_depth, hv29]
    exact own_stepOk _ _ _ (by decide) own_L.1 own_L.1
  refine own_st (B := Tg26.setTop (mkF m 38 #[.val (.int p0), .val (.int p1), .val (.int v8), .val (.ref b9), .val (.int v29)] [(.int ((p1.toUInt32 >>> ((1 : Int32) &&& 31).toUInt32).toInt32)), (.int v8), (.int v29), (.ref b9)])) (fun target kt => ?_) ?_
  · show Steps p.tables e below (Tg26.setTop (mkF m 31 #[.val (.int p0), .val (.int p1), .val (.int v8), .val (.ref b9), .val (.int v29)] [])) target
    refine XS.aloadN Xg26.here hx rfl (hb hby at_31) rfl rfl ?_
    show Steps p.tables e below (Tg26.setTop (mkF m 32 #[.val (.int p0), .val (.int p1), .val (.int v8), .val (.ref b9), .val (.int v29)] [(.ref b9)])) target
    refine XS.iload Xg26.here hx rfl (hb hby at_32) rfl ?_
    show Steps p.tables e below (Tg26.setTop (mkF m 34 #[.val (.int p0), .val (.int p1), .val (.int v8), .val (.ref b9), .val (.int v29)] [(.int v29), (.ref b9)])) target
    refine XS.iloadN Xg26.here hx rfl (hb hby at_34) rfl ?_
    show Steps p.tables e below (Tg26.setTop (mkF m 35 #[.val (.int p0), .val (.int p1), .val (.int v8), .val (.ref b9), .val (.int v29)] [(.int v8), (.int v29), (.ref b9)])) target
    refine XS.iloadN Xg26.here hx rfl (hb hby at_35) rfl ?_
    show Steps p.tables e below (Tg26.setTop (mkF m 36 #[.val (.int p0), .val (.int p1), .val (.int v8), .val (.ref b9), .val (.int v29)] [(.int p1), (.int v8), (.int v29), (.ref b9)])) target
    refine XS.iconst Xg26.here hx rfl (hb hby at_36) ?_
    show Steps p.tables e below (Tg26.setTop (mkF m 37 #[.val (.int p0), .val (.int p1), .val (.int v8), .val (.ref b9), .val (.int v29)] [(.int (1 : Int32)), (.int p1), (.int v8), (.int v29), (.ref b9)])) target
    refine XS.iushr Xg26.here hx rfl (hb hby at_37) rfl ?_
    exact kt
  obtain ⟨_, _, ⟨Tg38, Lg38, kg38, ng38⟩, -, Xg38, ⟨Lcg38, hQg38, lg38, yg38, zg38⟩, stg38⟩ := Jvm.LawKit.callS Xg26 hx (y := (⟨"com/example/wireform/wireform/wire/NestingEnterPinLaw", "step", "(Lcom/example/wireform/wireform/wire/Nesting;III)I"⟩ : MethodName)) hown (mvT hZ (hw _ (List.mem_of_getElem? (i := 12) rfl))) (mvT hZ (hw _ (List.mem_of_getElem? (i := 13) rfl))) (mvT hZ (hw _ (List.mem_of_getElem? (i := 14) rfl))) (mvT hZ (hw _ (List.mem_of_getElem? (i := 15) rfl))) (by decide) (backOf (W := 0) (own_rm3 l Z a0 hw [] b9 v29 v8 ((p1.toUInt32 >>> ((1 : Int32) &&& 31).toUInt32).toInt32) Tg26.heap n0 Zz_2 F_5 F_6 (own_cast (congrArg Value.int hS29.1) F_8) g_b9) hZ (hw _ (List.mem_of_getElem? (i := 15) rfl)) (hw _ (List.mem_of_getElem? (i := 14) rfl)) (by decide) (by decide)) (g := (mkF m 38 #[.val (.int p0), .val (.int p1), .val (.int v8), .val (.ref b9), .val (.int v29)] [(.int ((p1.toUInt32 >>> ((1 : Int32) &&& 31).toUInt32).toInt32)), (.int v8), (.int v29), (.ref b9)])) rfl (by rw [hml]; rfl) (argsL := [(.ref b9), (.int v29), (.int v8), (.int ((p1.toUInt32 >>> ((1 : Int32) &&& 31).toUInt32).toInt32))]) (rest := []) (lenOf own_pd3 rfl) rfl (by show 2 * 0 + _ ≤ _; exact Nat.le_of_eq rfl) (hb hby at_38) (fun _ _ => ⟨rfl, rfl, (by decide : 1 + 0 ≤ _), (by decide : 2 + 0 ≤ _)⟩)
  dsimp only [Pt.U, Pt.locs, Pt.cells, Pt.slots] at Xg38 lg38 yg38 zg38 stg38 hQg38
  subst lg38 yg38 zg38
  obtain ⟨rfl, Ng38q, Kg38, F_9, F_10, F_11⟩ := hQg38
  have Zz_3 : n0 ≤ Tg38.heap.size := Nat.le_trans Zz_2 Kg38.1
  obtain ⟨w38_depth, hw38_depth⟩ : ∃ z : Int32, z = (if v29 < (0 : Int32) then v29 else (if (((p1.toUInt32 >>> ((1 : Int32) &&& 31).toUInt32).toInt32) &&& (1 : Int32)) = (0 : Int32) then (if (0 : Int32) < v29 then (v29 - (1 : Int32)) else (if v29 = v8 then v29 else (v29 + (1 : Int32)))) else (if v29 = v8 then v29 else (v29 + (1 : Int32))))) := ⟨_, rfl⟩
  have F_12 : Fld Z Tg38.heap b9 "com/example/wireform/wireform/wire/Nesting" "depth" "I" (.int w38_depth) := by subst hw38_depth; exact F_11
  have Ng38 := Fr.app Ng26 Ng38q
  refine own_st (stg38) ?_
  obtain ⟨v41, hv41⟩ : ∃ z : Int32, z = (if v29 < (0 : Int32) then v29 else (if (((p1.toUInt32 >>> ((1 : Int32) &&& 31).toUInt32).toInt32) &&& (1 : Int32)) = (0 : Int32) then (if (0 : Int32) < v29 then (v29 - (1 : Int32)) else (if (¬ (v29 = v8)) ↔ (v29 < v8) then (if v29 < v8 then (v29 + (1 : Int32)) else v29) else (-1 : Int32))) else (if (¬ (v29 = v8)) ↔ (v29 < v8) then (if v29 < v8 then (v29 + (1 : Int32)) else v29) else (-1 : Int32)))) := ⟨_, rfl⟩
  refine own_st (B := Tg38.setTop (mkF m 43 #[.val (.int p0), .val (.int p1), .val (.int v8), .val (.ref b9), .val (.int v41)] [])) (fun target kt => ?_) ?_
  · show Steps p.tables e below (Tg38.setTop (mkF m 41 #[.val (.int p0), .val (.int p1), .val (.int v8), .val (.ref b9), .val (.int v29)] [(.int (if v29 < (0 : Int32) then v29 else (if (((p1.toUInt32 >>> ((1 : Int32) &&& 31).toUInt32).toInt32) &&& (1 : Int32)) = (0 : Int32) then (if (0 : Int32) < v29 then (v29 - (1 : Int32)) else (if (¬ (v29 = v8)) ↔ (v29 < v8) then (if v29 < v8 then (v29 + (1 : Int32)) else v29) else (-1 : Int32))) else (if (¬ (v29 = v8)) ↔ (v29 < v8) then (if v29 < v8 then (v29 + (1 : Int32)) else v29) else (-1 : Int32)))))])) target
    refine XS.istore Xg38.here hx rfl (hb hby at_41) rfl (l' := #[.val (.int p0), .val (.int p1), .val (.int v8), .val (.ref b9), .val (.int v41)]) (by subst hv41; rfl) ?_
    exact kt
  have hS41 : w38_depth = v41 ∧ ¬ v41 < (0 : Int32) ∧ ¬ v8 < v41 := by
    rw [hw38_depth, hv41]
    exact own_stepOk _ _ _ hS29.2.1 hS29.2.2 own_L.1
  refine own_st (B := Tg38.setTop (mkF m 50 #[.val (.int p0), .val (.int p1), .val (.int v8), .val (.ref b9), .val (.int v41)] [(.int ((p1.toUInt32 >>> ((2 : Int32) &&& 31).toUInt32).toInt32)), (.int v8), (.int v41), (.ref b9)])) (fun target kt => ?_) ?_
  · show Steps p.tables e below (Tg38.setTop (mkF m 43 #[.val (.int p0), .val (.int p1), .val (.int v8), .val (.ref b9), .val (.int v41)] [])) target
    refine XS.aloadN Xg38.here hx rfl (hb hby at_43) rfl rfl ?_
    show Steps p.tables e below (Tg38.setTop (mkF m 44 #[.val (.int p0), .val (.int p1), .val (.int v8), .val (.ref b9), .val (.int v41)] [(.ref b9)])) target
    refine XS.iload Xg38.here hx rfl (hb hby at_44) rfl ?_
    show Steps p.tables e below (Tg38.setTop (mkF m 46 #[.val (.int p0), .val (.int p1), .val (.int v8), .val (.ref b9), .val (.int v41)] [(.int v41), (.ref b9)])) target
    refine XS.iloadN Xg38.here hx rfl (hb hby at_46) rfl ?_
    show Steps p.tables e below (Tg38.setTop (mkF m 47 #[.val (.int p0), .val (.int p1), .val (.int v8), .val (.ref b9), .val (.int v41)] [(.int v8), (.int v41), (.ref b9)])) target
    refine XS.iloadN Xg38.here hx rfl (hb hby at_47) rfl ?_
    show Steps p.tables e below (Tg38.setTop (mkF m 48 #[.val (.int p0), .val (.int p1), .val (.int v8), .val (.ref b9), .val (.int v41)] [(.int p1), (.int v8), (.int v41), (.ref b9)])) target
    refine XS.iconst Xg38.here hx rfl (hb hby at_48) ?_
    show Steps p.tables e below (Tg38.setTop (mkF m 49 #[.val (.int p0), .val (.int p1), .val (.int v8), .val (.ref b9), .val (.int v41)] [(.int (2 : Int32)), (.int p1), (.int v8), (.int v41), (.ref b9)])) target
    refine XS.iushr Xg38.here hx rfl (hb hby at_49) rfl ?_
    exact kt
  obtain ⟨_, _, ⟨Tg50, Lg50, kg50, ng50⟩, -, Xg50, ⟨Lcg50, hQg50, lg50, yg50, zg50⟩, stg50⟩ := Jvm.LawKit.callS Xg38 hx (y := (⟨"com/example/wireform/wireform/wire/NestingEnterPinLaw", "step", "(Lcom/example/wireform/wireform/wire/Nesting;III)I"⟩ : MethodName)) hown (mvT hZ (hw _ (List.mem_of_getElem? (i := 12) rfl))) (mvT hZ (hw _ (List.mem_of_getElem? (i := 13) rfl))) (mvT hZ (hw _ (List.mem_of_getElem? (i := 14) rfl))) (mvT hZ (hw _ (List.mem_of_getElem? (i := 15) rfl))) (by decide) (backOf (W := 0) (own_rm3 l Z a0 hw [] b9 v41 v8 ((p1.toUInt32 >>> ((2 : Int32) &&& 31).toUInt32).toInt32) Tg38.heap n0 Zz_3 F_9 F_10 (own_cast (congrArg Value.int hS41.1) F_12) g_b9) hZ (hw _ (List.mem_of_getElem? (i := 15) rfl)) (hw _ (List.mem_of_getElem? (i := 14) rfl)) (by decide) (by decide)) (g := (mkF m 50 #[.val (.int p0), .val (.int p1), .val (.int v8), .val (.ref b9), .val (.int v41)] [(.int ((p1.toUInt32 >>> ((2 : Int32) &&& 31).toUInt32).toInt32)), (.int v8), (.int v41), (.ref b9)])) rfl (by rw [hml]; rfl) (argsL := [(.ref b9), (.int v41), (.int v8), (.int ((p1.toUInt32 >>> ((2 : Int32) &&& 31).toUInt32).toInt32))]) (rest := []) (lenOf own_pd3 rfl) rfl (by show 2 * 0 + _ ≤ _; exact Nat.le_of_eq rfl) (hb hby at_50) (fun _ _ => ⟨rfl, rfl, (by decide : 1 + 0 ≤ _), (by decide : 2 + 0 ≤ _)⟩)
  dsimp only [Pt.U, Pt.locs, Pt.cells, Pt.slots] at Xg50 lg50 yg50 zg50 stg50 hQg50
  subst lg50 yg50 zg50
  obtain ⟨rfl, Ng50q, Kg50, F_13, F_14, F_15⟩ := hQg50
  have Zz_4 : n0 ≤ Tg50.heap.size := Nat.le_trans Zz_3 Kg50.1
  obtain ⟨w50_depth, hw50_depth⟩ : ∃ z : Int32, z = (if v41 < (0 : Int32) then v41 else (if (((p1.toUInt32 >>> ((2 : Int32) &&& 31).toUInt32).toInt32) &&& (1 : Int32)) = (0 : Int32) then (if (0 : Int32) < v41 then (v41 - (1 : Int32)) else (if v41 = v8 then v41 else (v41 + (1 : Int32)))) else (if v41 = v8 then v41 else (v41 + (1 : Int32))))) := ⟨_, rfl⟩
  have F_16 : Fld Z Tg50.heap b9 "com/example/wireform/wireform/wire/Nesting" "depth" "I" (.int w50_depth) := by subst hw50_depth; exact F_15
  have Ng50 := Fr.app Ng38 Ng50q
  refine own_st (stg50) ?_
  obtain ⟨v53, hv53⟩ : ∃ z : Int32, z = (if v41 < (0 : Int32) then v41 else (if (((p1.toUInt32 >>> ((2 : Int32) &&& 31).toUInt32).toInt32) &&& (1 : Int32)) = (0 : Int32) then (if (0 : Int32) < v41 then (v41 - (1 : Int32)) else (if (¬ (v41 = v8)) ↔ (v41 < v8) then (if v41 < v8 then (v41 + (1 : Int32)) else v41) else (-1 : Int32))) else (if (¬ (v41 = v8)) ↔ (v41 < v8) then (if v41 < v8 then (v41 + (1 : Int32)) else v41) else (-1 : Int32)))) := ⟨_, rfl⟩
  refine own_st (B := Tg50.setTop (mkF m 55 #[.val (.int p0), .val (.int p1), .val (.int v8), .val (.ref b9), .val (.int v53)] [])) (fun target kt => ?_) ?_
  · show Steps p.tables e below (Tg50.setTop (mkF m 53 #[.val (.int p0), .val (.int p1), .val (.int v8), .val (.ref b9), .val (.int v41)] [(.int (if v41 < (0 : Int32) then v41 else (if (((p1.toUInt32 >>> ((2 : Int32) &&& 31).toUInt32).toInt32) &&& (1 : Int32)) = (0 : Int32) then (if (0 : Int32) < v41 then (v41 - (1 : Int32)) else (if (¬ (v41 = v8)) ↔ (v41 < v8) then (if v41 < v8 then (v41 + (1 : Int32)) else v41) else (-1 : Int32))) else (if (¬ (v41 = v8)) ↔ (v41 < v8) then (if v41 < v8 then (v41 + (1 : Int32)) else v41) else (-1 : Int32)))))])) target
    refine XS.istore Xg50.here hx rfl (hb hby at_53) rfl (l' := #[.val (.int p0), .val (.int p1), .val (.int v8), .val (.ref b9), .val (.int v53)]) (by subst hv53; rfl) ?_
    exact kt
  have hS53 : w50_depth = v53 ∧ ¬ v53 < (0 : Int32) ∧ ¬ v8 < v53 := by
    rw [hw50_depth, hv53]
    exact own_stepOk _ _ _ hS41.2.1 hS41.2.2 own_L.1
  refine own_st (B := Tg50.setTop (mkF m 62 #[.val (.int p0), .val (.int p1), .val (.int v8), .val (.ref b9), .val (.int v53)] [(.int ((p1.toUInt32 >>> ((3 : Int32) &&& 31).toUInt32).toInt32)), (.int v8), (.int v53), (.ref b9)])) (fun target kt => ?_) ?_
  · show Steps p.tables e below (Tg50.setTop (mkF m 55 #[.val (.int p0), .val (.int p1), .val (.int v8), .val (.ref b9), .val (.int v53)] [])) target
    refine XS.aloadN Xg50.here hx rfl (hb hby at_55) rfl rfl ?_
    show Steps p.tables e below (Tg50.setTop (mkF m 56 #[.val (.int p0), .val (.int p1), .val (.int v8), .val (.ref b9), .val (.int v53)] [(.ref b9)])) target
    refine XS.iload Xg50.here hx rfl (hb hby at_56) rfl ?_
    show Steps p.tables e below (Tg50.setTop (mkF m 58 #[.val (.int p0), .val (.int p1), .val (.int v8), .val (.ref b9), .val (.int v53)] [(.int v53), (.ref b9)])) target
    refine XS.iloadN Xg50.here hx rfl (hb hby at_58) rfl ?_
    show Steps p.tables e below (Tg50.setTop (mkF m 59 #[.val (.int p0), .val (.int p1), .val (.int v8), .val (.ref b9), .val (.int v53)] [(.int v8), (.int v53), (.ref b9)])) target
    refine XS.iloadN Xg50.here hx rfl (hb hby at_59) rfl ?_
    show Steps p.tables e below (Tg50.setTop (mkF m 60 #[.val (.int p0), .val (.int p1), .val (.int v8), .val (.ref b9), .val (.int v53)] [(.int p1), (.int v8), (.int v53), (.ref b9)])) target
    refine XS.iconst Xg50.here hx rfl (hb hby at_60) ?_
    show Steps p.tables e below (Tg50.setTop (mkF m 61 #[.val (.int p0), .val (.int p1), .val (.int v8), .val (.ref b9), .val (.int v53)] [(.int (3 : Int32)), (.int p1), (.int v8), (.int v53), (.ref b9)])) target
    refine XS.iushr Xg50.here hx rfl (hb hby at_61) rfl ?_
    exact kt
  obtain ⟨_, _, ⟨Tg62, Lg62, kg62, ng62⟩, -, Xg62, ⟨Lcg62, hQg62, lg62, yg62, zg62⟩, stg62⟩ := Jvm.LawKit.callS Xg50 hx (y := (⟨"com/example/wireform/wireform/wire/NestingEnterPinLaw", "step", "(Lcom/example/wireform/wireform/wire/Nesting;III)I"⟩ : MethodName)) hown (mvT hZ (hw _ (List.mem_of_getElem? (i := 12) rfl))) (mvT hZ (hw _ (List.mem_of_getElem? (i := 13) rfl))) (mvT hZ (hw _ (List.mem_of_getElem? (i := 14) rfl))) (mvT hZ (hw _ (List.mem_of_getElem? (i := 15) rfl))) (by decide) (backOf (W := 0) (own_rm3 l Z a0 hw [] b9 v53 v8 ((p1.toUInt32 >>> ((3 : Int32) &&& 31).toUInt32).toInt32) Tg50.heap n0 Zz_4 F_13 F_14 (own_cast (congrArg Value.int hS53.1) F_16) g_b9) hZ (hw _ (List.mem_of_getElem? (i := 15) rfl)) (hw _ (List.mem_of_getElem? (i := 14) rfl)) (by decide) (by decide)) (g := (mkF m 62 #[.val (.int p0), .val (.int p1), .val (.int v8), .val (.ref b9), .val (.int v53)] [(.int ((p1.toUInt32 >>> ((3 : Int32) &&& 31).toUInt32).toInt32)), (.int v8), (.int v53), (.ref b9)])) rfl (by rw [hml]; rfl) (argsL := [(.ref b9), (.int v53), (.int v8), (.int ((p1.toUInt32 >>> ((3 : Int32) &&& 31).toUInt32).toInt32))]) (rest := []) (lenOf own_pd3 rfl) rfl (by show 2 * 0 + _ ≤ _; exact Nat.le_of_eq rfl) (hb hby at_62) (fun _ _ => ⟨rfl, rfl, (by decide : 1 + 0 ≤ _), (by decide : 2 + 0 ≤ _)⟩)
  dsimp only [Pt.U, Pt.locs, Pt.cells, Pt.slots] at Xg62 lg62 yg62 zg62 stg62 hQg62
  subst lg62 yg62 zg62
  obtain ⟨rfl, Ng62q, Kg62, F_17, F_18, F_19⟩ := hQg62
  have Zz_5 : n0 ≤ Tg62.heap.size := Nat.le_trans Zz_4 Kg62.1
  obtain ⟨w62_depth, hw62_depth⟩ : ∃ z : Int32, z = (if v53 < (0 : Int32) then v53 else (if (((p1.toUInt32 >>> ((3 : Int32) &&& 31).toUInt32).toInt32) &&& (1 : Int32)) = (0 : Int32) then (if (0 : Int32) < v53 then (v53 - (1 : Int32)) else (if v53 = v8 then v53 else (v53 + (1 : Int32)))) else (if v53 = v8 then v53 else (v53 + (1 : Int32))))) := ⟨_, rfl⟩
  have F_20 : Fld Z Tg62.heap b9 "com/example/wireform/wireform/wire/Nesting" "depth" "I" (.int w62_depth) := by subst hw62_depth; exact F_19
  have Ng62 := Fr.app Ng50 Ng62q
  refine own_st (stg62) ?_
  obtain ⟨v65, hv65⟩ : ∃ z : Int32, z = (if v53 < (0 : Int32) then v53 else (if (((p1.toUInt32 >>> ((3 : Int32) &&& 31).toUInt32).toInt32) &&& (1 : Int32)) = (0 : Int32) then (if (0 : Int32) < v53 then (v53 - (1 : Int32)) else (if (¬ (v53 = v8)) ↔ (v53 < v8) then (if v53 < v8 then (v53 + (1 : Int32)) else v53) else (-1 : Int32))) else (if (¬ (v53 = v8)) ↔ (v53 < v8) then (if v53 < v8 then (v53 + (1 : Int32)) else v53) else (-1 : Int32)))) := ⟨_, rfl⟩
  refine own_st (B := Tg62.setTop (mkF m 67 #[.val (.int p0), .val (.int p1), .val (.int v8), .val (.ref b9), .val (.int v65)] [])) (fun target kt => ?_) ?_
  · show Steps p.tables e below (Tg62.setTop (mkF m 65 #[.val (.int p0), .val (.int p1), .val (.int v8), .val (.ref b9), .val (.int v53)] [(.int (if v53 < (0 : Int32) then v53 else (if (((p1.toUInt32 >>> ((3 : Int32) &&& 31).toUInt32).toInt32) &&& (1 : Int32)) = (0 : Int32) then (if (0 : Int32) < v53 then (v53 - (1 : Int32)) else (if (¬ (v53 = v8)) ↔ (v53 < v8) then (if v53 < v8 then (v53 + (1 : Int32)) else v53) else (-1 : Int32))) else (if (¬ (v53 = v8)) ↔ (v53 < v8) then (if v53 < v8 then (v53 + (1 : Int32)) else v53) else (-1 : Int32)))))])) target
    refine XS.istore Xg62.here hx rfl (hb hby at_65) rfl (l' := #[.val (.int p0), .val (.int p1), .val (.int v8), .val (.ref b9), .val (.int v65)]) (by subst hv65; rfl) ?_
    exact kt
  have hS65 : w62_depth = v65 ∧ ¬ v65 < (0 : Int32) ∧ ¬ v8 < v65 := by
    rw [hw62_depth, hv65]
    exact own_stepOk _ _ _ hS53.2.1 hS53.2.2 own_L.1
  refine own_st (B := Tg62.setTop (mkF m 74 #[.val (.int p0), .val (.int p1), .val (.int v8), .val (.ref b9), .val (.int v65)] [(.int ((p1.toUInt32 >>> ((4 : Int32) &&& 31).toUInt32).toInt32)), (.int v8), (.int v65), (.ref b9)])) (fun target kt => ?_) ?_
  · show Steps p.tables e below (Tg62.setTop (mkF m 67 #[.val (.int p0), .val (.int p1), .val (.int v8), .val (.ref b9), .val (.int v65)] [])) target
    refine XS.aloadN Xg62.here hx rfl (hb hby at_67) rfl rfl ?_
    show Steps p.tables e below (Tg62.setTop (mkF m 68 #[.val (.int p0), .val (.int p1), .val (.int v8), .val (.ref b9), .val (.int v65)] [(.ref b9)])) target
    refine XS.iload Xg62.here hx rfl (hb hby at_68) rfl ?_
    show Steps p.tables e below (Tg62.setTop (mkF m 70 #[.val (.int p0), .val (.int p1), .val (.int v8), .val (.ref b9), .val (.int v65)] [(.int v65), (.ref b9)])) target
    refine XS.iloadN Xg62.here hx rfl (hb hby at_70) rfl ?_
    show Steps p.tables e below (Tg62.setTop (mkF m 71 #[.val (.int p0), .val (.int p1), .val (.int v8), .val (.ref b9), .val (.int v65)] [(.int v8), (.int v65), (.ref b9)])) target
    refine XS.iloadN Xg62.here hx rfl (hb hby at_71) rfl ?_
    show Steps p.tables e below (Tg62.setTop (mkF m 72 #[.val (.int p0), .val (.int p1), .val (.int v8), .val (.ref b9), .val (.int v65)] [(.int p1), (.int v8), (.int v65), (.ref b9)])) target
    refine XS.iconst Xg62.here hx rfl (hb hby at_72) ?_
    show Steps p.tables e below (Tg62.setTop (mkF m 73 #[.val (.int p0), .val (.int p1), .val (.int v8), .val (.ref b9), .val (.int v65)] [(.int (4 : Int32)), (.int p1), (.int v8), (.int v65), (.ref b9)])) target
    refine XS.iushr Xg62.here hx rfl (hb hby at_73) rfl ?_
    exact kt
  obtain ⟨_, _, ⟨Tg74, Lg74, kg74, ng74⟩, -, Xg74, ⟨Lcg74, hQg74, lg74, yg74, zg74⟩, stg74⟩ := Jvm.LawKit.callS Xg62 hx (y := (⟨"com/example/wireform/wireform/wire/NestingEnterPinLaw", "step", "(Lcom/example/wireform/wireform/wire/Nesting;III)I"⟩ : MethodName)) hown (mvT hZ (hw _ (List.mem_of_getElem? (i := 12) rfl))) (mvT hZ (hw _ (List.mem_of_getElem? (i := 13) rfl))) (mvT hZ (hw _ (List.mem_of_getElem? (i := 14) rfl))) (mvT hZ (hw _ (List.mem_of_getElem? (i := 15) rfl))) (by decide) (backOf (W := 0) (own_rm3 l Z a0 hw [] b9 v65 v8 ((p1.toUInt32 >>> ((4 : Int32) &&& 31).toUInt32).toInt32) Tg62.heap n0 Zz_5 F_17 F_18 (own_cast (congrArg Value.int hS65.1) F_20) g_b9) hZ (hw _ (List.mem_of_getElem? (i := 15) rfl)) (hw _ (List.mem_of_getElem? (i := 14) rfl)) (by decide) (by decide)) (g := (mkF m 74 #[.val (.int p0), .val (.int p1), .val (.int v8), .val (.ref b9), .val (.int v65)] [(.int ((p1.toUInt32 >>> ((4 : Int32) &&& 31).toUInt32).toInt32)), (.int v8), (.int v65), (.ref b9)])) rfl (by rw [hml]; rfl) (argsL := [(.ref b9), (.int v65), (.int v8), (.int ((p1.toUInt32 >>> ((4 : Int32) &&& 31).toUInt32).toInt32))]) (rest := []) (lenOf own_pd3 rfl) rfl (by show 2 * 0 + _ ≤ _; exact Nat.le_of_eq rfl) (hb hby at_74) (fun _ _ => ⟨rfl, rfl, (by decide : 1 + 0 ≤ _), (by decide : 2 + 0 ≤ _)⟩)
  dsimp only [Pt.U, Pt.locs, Pt.cells, Pt.slots] at Xg74 lg74 yg74 zg74 stg74 hQg74
  subst lg74 yg74 zg74
  obtain ⟨rfl, Ng74q, Kg74, F_21, F_22, F_23⟩ := hQg74
  have Zz_6 : n0 ≤ Tg74.heap.size := Nat.le_trans Zz_5 Kg74.1
  obtain ⟨w74_depth, hw74_depth⟩ : ∃ z : Int32, z = (if v65 < (0 : Int32) then v65 else (if (((p1.toUInt32 >>> ((4 : Int32) &&& 31).toUInt32).toInt32) &&& (1 : Int32)) = (0 : Int32) then (if (0 : Int32) < v65 then (v65 - (1 : Int32)) else (if v65 = v8 then v65 else (v65 + (1 : Int32)))) else (if v65 = v8 then v65 else (v65 + (1 : Int32))))) := ⟨_, rfl⟩
  have F_24 : Fld Z Tg74.heap b9 "com/example/wireform/wireform/wire/Nesting" "depth" "I" (.int w74_depth) := by subst hw74_depth; exact F_23
  have Ng74 := Fr.app Ng62 Ng74q
  refine own_st (stg74) ?_
  obtain ⟨v77, hv77⟩ : ∃ z : Int32, z = (if v65 < (0 : Int32) then v65 else (if (((p1.toUInt32 >>> ((4 : Int32) &&& 31).toUInt32).toInt32) &&& (1 : Int32)) = (0 : Int32) then (if (0 : Int32) < v65 then (v65 - (1 : Int32)) else (if (¬ (v65 = v8)) ↔ (v65 < v8) then (if v65 < v8 then (v65 + (1 : Int32)) else v65) else (-1 : Int32))) else (if (¬ (v65 = v8)) ↔ (v65 < v8) then (if v65 < v8 then (v65 + (1 : Int32)) else v65) else (-1 : Int32)))) := ⟨_, rfl⟩
  refine own_st (B := Tg74.setTop (mkF m 79 #[.val (.int p0), .val (.int p1), .val (.int v8), .val (.ref b9), .val (.int v77)] [])) (fun target kt => ?_) ?_
  · show Steps p.tables e below (Tg74.setTop (mkF m 77 #[.val (.int p0), .val (.int p1), .val (.int v8), .val (.ref b9), .val (.int v65)] [(.int (if v65 < (0 : Int32) then v65 else (if (((p1.toUInt32 >>> ((4 : Int32) &&& 31).toUInt32).toInt32) &&& (1 : Int32)) = (0 : Int32) then (if (0 : Int32) < v65 then (v65 - (1 : Int32)) else (if (¬ (v65 = v8)) ↔ (v65 < v8) then (if v65 < v8 then (v65 + (1 : Int32)) else v65) else (-1 : Int32))) else (if (¬ (v65 = v8)) ↔ (v65 < v8) then (if v65 < v8 then (v65 + (1 : Int32)) else v65) else (-1 : Int32)))))])) target
    refine XS.istore Xg74.here hx rfl (hb hby at_77) rfl (l' := #[.val (.int p0), .val (.int p1), .val (.int v8), .val (.ref b9), .val (.int v77)]) (by subst hv77; rfl) ?_
    exact kt
  have hS77 : w74_depth = v77 ∧ ¬ v77 < (0 : Int32) ∧ ¬ v8 < v77 := by
    rw [hw74_depth, hv77]
    exact own_stepOk _ _ _ hS65.2.1 hS65.2.2 own_L.1
  refine own_st (B := Tg74.setTop (mkF m 86 #[.val (.int p0), .val (.int p1), .val (.int v8), .val (.ref b9), .val (.int v77)] [(.int ((p1.toUInt32 >>> ((5 : Int32) &&& 31).toUInt32).toInt32)), (.int v8), (.int v77), (.ref b9)])) (fun target kt => ?_) ?_
  · show Steps p.tables e below (Tg74.setTop (mkF m 79 #[.val (.int p0), .val (.int p1), .val (.int v8), .val (.ref b9), .val (.int v77)] [])) target
    refine XS.aloadN Xg74.here hx rfl (hb hby at_79) rfl rfl ?_
    show Steps p.tables e below (Tg74.setTop (mkF m 80 #[.val (.int p0), .val (.int p1), .val (.int v8), .val (.ref b9), .val (.int v77)] [(.ref b9)])) target
    refine XS.iload Xg74.here hx rfl (hb hby at_80) rfl ?_
    show Steps p.tables e below (Tg74.setTop (mkF m 82 #[.val (.int p0), .val (.int p1), .val (.int v8), .val (.ref b9), .val (.int v77)] [(.int v77), (.ref b9)])) target
    refine XS.iloadN Xg74.here hx rfl (hb hby at_82) rfl ?_
    show Steps p.tables e below (Tg74.setTop (mkF m 83 #[.val (.int p0), .val (.int p1), .val (.int v8), .val (.ref b9), .val (.int v77)] [(.int v8), (.int v77), (.ref b9)])) target
    refine XS.iloadN Xg74.here hx rfl (hb hby at_83) rfl ?_
    show Steps p.tables e below (Tg74.setTop (mkF m 84 #[.val (.int p0), .val (.int p1), .val (.int v8), .val (.ref b9), .val (.int v77)] [(.int p1), (.int v8), (.int v77), (.ref b9)])) target
    refine XS.iconst Xg74.here hx rfl (hb hby at_84) ?_
    show Steps p.tables e below (Tg74.setTop (mkF m 85 #[.val (.int p0), .val (.int p1), .val (.int v8), .val (.ref b9), .val (.int v77)] [(.int (5 : Int32)), (.int p1), (.int v8), (.int v77), (.ref b9)])) target
    refine XS.iushr Xg74.here hx rfl (hb hby at_85) rfl ?_
    exact kt
  obtain ⟨_, _, ⟨Tg86, Lg86, kg86, ng86⟩, -, Xg86, ⟨Lcg86, hQg86, lg86, yg86, zg86⟩, stg86⟩ := Jvm.LawKit.callS Xg74 hx (y := (⟨"com/example/wireform/wireform/wire/NestingEnterPinLaw", "step", "(Lcom/example/wireform/wireform/wire/Nesting;III)I"⟩ : MethodName)) hown (mvT hZ (hw _ (List.mem_of_getElem? (i := 12) rfl))) (mvT hZ (hw _ (List.mem_of_getElem? (i := 13) rfl))) (mvT hZ (hw _ (List.mem_of_getElem? (i := 14) rfl))) (mvT hZ (hw _ (List.mem_of_getElem? (i := 15) rfl))) (by decide) (backOf (W := 0) (own_rm3 l Z a0 hw [] b9 v77 v8 ((p1.toUInt32 >>> ((5 : Int32) &&& 31).toUInt32).toInt32) Tg74.heap n0 Zz_6 F_21 F_22 (own_cast (congrArg Value.int hS77.1) F_24) g_b9) hZ (hw _ (List.mem_of_getElem? (i := 15) rfl)) (hw _ (List.mem_of_getElem? (i := 14) rfl)) (by decide) (by decide)) (g := (mkF m 86 #[.val (.int p0), .val (.int p1), .val (.int v8), .val (.ref b9), .val (.int v77)] [(.int ((p1.toUInt32 >>> ((5 : Int32) &&& 31).toUInt32).toInt32)), (.int v8), (.int v77), (.ref b9)])) rfl (by rw [hml]; rfl) (argsL := [(.ref b9), (.int v77), (.int v8), (.int ((p1.toUInt32 >>> ((5 : Int32) &&& 31).toUInt32).toInt32))]) (rest := []) (lenOf own_pd3 rfl) rfl (by show 2 * 0 + _ ≤ _; exact Nat.le_of_eq rfl) (hb hby at_86) (fun _ _ => ⟨rfl, rfl, (by decide : 1 + 0 ≤ _), (by decide : 2 + 0 ≤ _)⟩)
  dsimp only [Pt.U, Pt.locs, Pt.cells, Pt.slots] at Xg86 lg86 yg86 zg86 stg86 hQg86
  subst lg86 yg86 zg86
  obtain ⟨rfl, Ng86q, Kg86, F_25, F_26, F_27⟩ := hQg86
  have Zz_7 : n0 ≤ Tg86.heap.size := Nat.le_trans Zz_6 Kg86.1
  obtain ⟨w86_depth, hw86_depth⟩ : ∃ z : Int32, z = (if v77 < (0 : Int32) then v77 else (if (((p1.toUInt32 >>> ((5 : Int32) &&& 31).toUInt32).toInt32) &&& (1 : Int32)) = (0 : Int32) then (if (0 : Int32) < v77 then (v77 - (1 : Int32)) else (if v77 = v8 then v77 else (v77 + (1 : Int32)))) else (if v77 = v8 then v77 else (v77 + (1 : Int32))))) := ⟨_, rfl⟩
  have F_28 : Fld Z Tg86.heap b9 "com/example/wireform/wireform/wire/Nesting" "depth" "I" (.int w86_depth) := by subst hw86_depth; exact F_27
  have Ng86 := Fr.app Ng74 Ng86q
  refine own_st (stg86) ?_
  obtain ⟨v89, hv89⟩ : ∃ z : Int32, z = (if v77 < (0 : Int32) then v77 else (if (((p1.toUInt32 >>> ((5 : Int32) &&& 31).toUInt32).toInt32) &&& (1 : Int32)) = (0 : Int32) then (if (0 : Int32) < v77 then (v77 - (1 : Int32)) else (if (¬ (v77 = v8)) ↔ (v77 < v8) then (if v77 < v8 then (v77 + (1 : Int32)) else v77) else (-1 : Int32))) else (if (¬ (v77 = v8)) ↔ (v77 < v8) then (if v77 < v8 then (v77 + (1 : Int32)) else v77) else (-1 : Int32)))) := ⟨_, rfl⟩
  refine own_st (B := Tg86.setTop (mkF m 91 #[.val (.int p0), .val (.int p1), .val (.int v8), .val (.ref b9), .val (.int v89)] [])) (fun target kt => ?_) ?_
  · show Steps p.tables e below (Tg86.setTop (mkF m 89 #[.val (.int p0), .val (.int p1), .val (.int v8), .val (.ref b9), .val (.int v77)] [(.int (if v77 < (0 : Int32) then v77 else (if (((p1.toUInt32 >>> ((5 : Int32) &&& 31).toUInt32).toInt32) &&& (1 : Int32)) = (0 : Int32) then (if (0 : Int32) < v77 then (v77 - (1 : Int32)) else (if (¬ (v77 = v8)) ↔ (v77 < v8) then (if v77 < v8 then (v77 + (1 : Int32)) else v77) else (-1 : Int32))) else (if (¬ (v77 = v8)) ↔ (v77 < v8) then (if v77 < v8 then (v77 + (1 : Int32)) else v77) else (-1 : Int32)))))])) target
    refine XS.istore Xg86.here hx rfl (hb hby at_89) rfl (l' := #[.val (.int p0), .val (.int p1), .val (.int v8), .val (.ref b9), .val (.int v89)]) (by subst hv89; rfl) ?_
    exact kt
  have hS89 : w86_depth = v89 ∧ ¬ v89 < (0 : Int32) ∧ ¬ v8 < v89 := by
    rw [hw86_depth, hv89]
    exact own_stepOk _ _ _ hS77.2.1 hS77.2.2 own_L.1
  refine own_st (B := Tg86.setTop (mkF m 99 #[.val (.int p0), .val (.int p1), .val (.int v8), .val (.ref b9), .val (.int v89)] [(.int ((p1.toUInt32 >>> ((6 : Int32) &&& 31).toUInt32).toInt32)), (.int v8), (.int v89), (.ref b9)])) (fun target kt => ?_) ?_
  · show Steps p.tables e below (Tg86.setTop (mkF m 91 #[.val (.int p0), .val (.int p1), .val (.int v8), .val (.ref b9), .val (.int v89)] [])) target
    refine XS.aloadN Xg86.here hx rfl (hb hby at_91) rfl rfl ?_
    show Steps p.tables e below (Tg86.setTop (mkF m 92 #[.val (.int p0), .val (.int p1), .val (.int v8), .val (.ref b9), .val (.int v89)] [(.ref b9)])) target
    refine XS.iload Xg86.here hx rfl (hb hby at_92) rfl ?_
    show Steps p.tables e below (Tg86.setTop (mkF m 94 #[.val (.int p0), .val (.int p1), .val (.int v8), .val (.ref b9), .val (.int v89)] [(.int v89), (.ref b9)])) target
    refine XS.iloadN Xg86.here hx rfl (hb hby at_94) rfl ?_
    show Steps p.tables e below (Tg86.setTop (mkF m 95 #[.val (.int p0), .val (.int p1), .val (.int v8), .val (.ref b9), .val (.int v89)] [(.int v8), (.int v89), (.ref b9)])) target
    refine XS.iloadN Xg86.here hx rfl (hb hby at_95) rfl ?_
    show Steps p.tables e below (Tg86.setTop (mkF m 96 #[.val (.int p0), .val (.int p1), .val (.int v8), .val (.ref b9), .val (.int v89)] [(.int p1), (.int v8), (.int v89), (.ref b9)])) target
    refine XS.bipush Xg86.here hx rfl (hb hby at_96) ?_
    show Steps p.tables e below (Tg86.setTop (mkF m 98 #[.val (.int p0), .val (.int p1), .val (.int v8), .val (.ref b9), .val (.int v89)] [(.int (6 : Int32)), (.int p1), (.int v8), (.int v89), (.ref b9)])) target
    refine XS.iushr Xg86.here hx rfl (hb hby at_98) rfl ?_
    exact kt
  obtain ⟨_, _, ⟨Tg99, Lg99, kg99, ng99⟩, -, Xg99, ⟨Lcg99, hQg99, lg99, yg99, zg99⟩, stg99⟩ := Jvm.LawKit.callS Xg86 hx (y := (⟨"com/example/wireform/wireform/wire/NestingEnterPinLaw", "step", "(Lcom/example/wireform/wireform/wire/Nesting;III)I"⟩ : MethodName)) hown (mvT hZ (hw _ (List.mem_of_getElem? (i := 12) rfl))) (mvT hZ (hw _ (List.mem_of_getElem? (i := 13) rfl))) (mvT hZ (hw _ (List.mem_of_getElem? (i := 14) rfl))) (mvT hZ (hw _ (List.mem_of_getElem? (i := 15) rfl))) (by decide) (backOf (W := 0) (own_rm3 l Z a0 hw [] b9 v89 v8 ((p1.toUInt32 >>> ((6 : Int32) &&& 31).toUInt32).toInt32) Tg86.heap n0 Zz_7 F_25 F_26 (own_cast (congrArg Value.int hS89.1) F_28) g_b9) hZ (hw _ (List.mem_of_getElem? (i := 15) rfl)) (hw _ (List.mem_of_getElem? (i := 14) rfl)) (by decide) (by decide)) (g := (mkF m 99 #[.val (.int p0), .val (.int p1), .val (.int v8), .val (.ref b9), .val (.int v89)] [(.int ((p1.toUInt32 >>> ((6 : Int32) &&& 31).toUInt32).toInt32)), (.int v8), (.int v89), (.ref b9)])) rfl (by rw [hml]; rfl) (argsL := [(.ref b9), (.int v89), (.int v8), (.int ((p1.toUInt32 >>> ((6 : Int32) &&& 31).toUInt32).toInt32))]) (rest := []) (lenOf own_pd3 rfl) rfl (by show 2 * 0 + _ ≤ _; exact Nat.le_of_eq rfl) (hb hby at_99) (fun _ _ => ⟨rfl, rfl, (by decide : 1 + 0 ≤ _), (by decide : 2 + 0 ≤ _)⟩)
  dsimp only [Pt.U, Pt.locs, Pt.cells, Pt.slots] at Xg99 lg99 yg99 zg99 stg99 hQg99
  subst lg99 yg99 zg99
  obtain ⟨rfl, Ng99q, Kg99, F_29, F_30, F_31⟩ := hQg99
  have Zz_8 : n0 ≤ Tg99.heap.size := Nat.le_trans Zz_7 Kg99.1
  obtain ⟨w99_depth, hw99_depth⟩ : ∃ z : Int32, z = (if v89 < (0 : Int32) then v89 else (if (((p1.toUInt32 >>> ((6 : Int32) &&& 31).toUInt32).toInt32) &&& (1 : Int32)) = (0 : Int32) then (if (0 : Int32) < v89 then (v89 - (1 : Int32)) else (if v89 = v8 then v89 else (v89 + (1 : Int32)))) else (if v89 = v8 then v89 else (v89 + (1 : Int32))))) := ⟨_, rfl⟩
  have F_32 : Fld Z Tg99.heap b9 "com/example/wireform/wireform/wire/Nesting" "depth" "I" (.int w99_depth) := by subst hw99_depth; exact F_31
  have Ng99 := Fr.app Ng86 Ng99q
  refine own_st (stg99) ?_
  obtain ⟨v102, hv102⟩ : ∃ z : Int32, z = (if v89 < (0 : Int32) then v89 else (if (((p1.toUInt32 >>> ((6 : Int32) &&& 31).toUInt32).toInt32) &&& (1 : Int32)) = (0 : Int32) then (if (0 : Int32) < v89 then (v89 - (1 : Int32)) else (if (¬ (v89 = v8)) ↔ (v89 < v8) then (if v89 < v8 then (v89 + (1 : Int32)) else v89) else (-1 : Int32))) else (if (¬ (v89 = v8)) ↔ (v89 < v8) then (if v89 < v8 then (v89 + (1 : Int32)) else v89) else (-1 : Int32)))) := ⟨_, rfl⟩
  refine own_st (B := Tg99.setTop (mkF m 104 #[.val (.int p0), .val (.int p1), .val (.int v8), .val (.ref b9), .val (.int v102)] [])) (fun target kt => ?_) ?_
  · show Steps p.tables e below (Tg99.setTop (mkF m 102 #[.val (.int p0), .val (.int p1), .val (.int v8), .val (.ref b9), .val (.int v89)] [(.int (if v89 < (0 : Int32) then v89 else (if (((p1.toUInt32 >>> ((6 : Int32) &&& 31).toUInt32).toInt32) &&& (1 : Int32)) = (0 : Int32) then (if (0 : Int32) < v89 then (v89 - (1 : Int32)) else (if (¬ (v89 = v8)) ↔ (v89 < v8) then (if v89 < v8 then (v89 + (1 : Int32)) else v89) else (-1 : Int32))) else (if (¬ (v89 = v8)) ↔ (v89 < v8) then (if v89 < v8 then (v89 + (1 : Int32)) else v89) else (-1 : Int32)))))])) target
    refine XS.istore Xg99.here hx rfl (hb hby at_102) rfl (l' := #[.val (.int p0), .val (.int p1), .val (.int v8), .val (.ref b9), .val (.int v102)]) (by subst hv102; rfl) ?_
    exact kt
  have hS102 : w99_depth = v102 ∧ ¬ v102 < (0 : Int32) ∧ ¬ v8 < v102 := by
    rw [hw99_depth, hv102]
    exact own_stepOk _ _ _ hS89.2.1 hS89.2.2 own_L.1
  refine own_st (B := Tg99.setTop (mkF m 112 #[.val (.int p0), .val (.int p1), .val (.int v8), .val (.ref b9), .val (.int v102)] [(.int ((p1.toUInt32 >>> ((7 : Int32) &&& 31).toUInt32).toInt32)), (.int v8), (.int v102), (.ref b9)])) (fun target kt => ?_) ?_
  · show Steps p.tables e below (Tg99.setTop (mkF m 104 #[.val (.int p0), .val (.int p1), .val (.int v8), .val (.ref b9), .val (.int v102)] [])) target
    refine XS.aloadN Xg99.here hx rfl (hb hby at_104) rfl rfl ?_
    show Steps p.tables e below (Tg99.setTop (mkF m 105 #[.val (.int p0), .val (.int p1), .val (.int v8), .val (.ref b9), .val (.int v102)] [(.ref b9)])) target
    refine XS.iload Xg99.here hx rfl (hb hby at_105) rfl ?_
    show Steps p.tables e below (Tg99.setTop (mkF m 107 #[.val (.int p0), .val (.int p1), .val (.int v8), .val (.ref b9), .val (.int v102)] [(.int v102), (.ref b9)])) target
    refine XS.iloadN Xg99.here hx rfl (hb hby at_107) rfl ?_
    show Steps p.tables e below (Tg99.setTop (mkF m 108 #[.val (.int p0), .val (.int p1), .val (.int v8), .val (.ref b9), .val (.int v102)] [(.int v8), (.int v102), (.ref b9)])) target
    refine XS.iloadN Xg99.here hx rfl (hb hby at_108) rfl ?_
    show Steps p.tables e below (Tg99.setTop (mkF m 109 #[.val (.int p0), .val (.int p1), .val (.int v8), .val (.ref b9), .val (.int v102)] [(.int p1), (.int v8), (.int v102), (.ref b9)])) target
    refine XS.bipush Xg99.here hx rfl (hb hby at_109) ?_
    show Steps p.tables e below (Tg99.setTop (mkF m 111 #[.val (.int p0), .val (.int p1), .val (.int v8), .val (.ref b9), .val (.int v102)] [(.int (7 : Int32)), (.int p1), (.int v8), (.int v102), (.ref b9)])) target
    refine XS.iushr Xg99.here hx rfl (hb hby at_111) rfl ?_
    exact kt
  obtain ⟨_, _, ⟨Tg112, Lg112, kg112, ng112⟩, -, Xg112, ⟨Lcg112, hQg112, lg112, yg112, zg112⟩, stg112⟩ := Jvm.LawKit.callS Xg99 hx (y := (⟨"com/example/wireform/wireform/wire/NestingEnterPinLaw", "step", "(Lcom/example/wireform/wireform/wire/Nesting;III)I"⟩ : MethodName)) hown (mvT hZ (hw _ (List.mem_of_getElem? (i := 12) rfl))) (mvT hZ (hw _ (List.mem_of_getElem? (i := 13) rfl))) (mvT hZ (hw _ (List.mem_of_getElem? (i := 14) rfl))) (mvT hZ (hw _ (List.mem_of_getElem? (i := 15) rfl))) (by decide) (backOf (W := 0) (own_rm3 l Z a0 hw [] b9 v102 v8 ((p1.toUInt32 >>> ((7 : Int32) &&& 31).toUInt32).toInt32) Tg99.heap n0 Zz_8 F_29 F_30 (own_cast (congrArg Value.int hS102.1) F_32) g_b9) hZ (hw _ (List.mem_of_getElem? (i := 15) rfl)) (hw _ (List.mem_of_getElem? (i := 14) rfl)) (by decide) (by decide)) (g := (mkF m 112 #[.val (.int p0), .val (.int p1), .val (.int v8), .val (.ref b9), .val (.int v102)] [(.int ((p1.toUInt32 >>> ((7 : Int32) &&& 31).toUInt32).toInt32)), (.int v8), (.int v102), (.ref b9)])) rfl (by rw [hml]; rfl) (argsL := [(.ref b9), (.int v102), (.int v8), (.int ((p1.toUInt32 >>> ((7 : Int32) &&& 31).toUInt32).toInt32))]) (rest := []) (lenOf own_pd3 rfl) rfl (by show 2 * 0 + _ ≤ _; exact Nat.le_of_eq rfl) (hb hby at_112) (fun _ _ => ⟨rfl, rfl, (by decide : 1 + 0 ≤ _), (by decide : 2 + 0 ≤ _)⟩)
  dsimp only [Pt.U, Pt.locs, Pt.cells, Pt.slots] at Xg112 lg112 yg112 zg112 stg112 hQg112
  subst lg112 yg112 zg112
  obtain ⟨rfl, Ng112q, Kg112, F_33, F_34, F_35⟩ := hQg112
  have Zz_9 : n0 ≤ Tg112.heap.size := Nat.le_trans Zz_8 Kg112.1
  obtain ⟨w112_depth, hw112_depth⟩ : ∃ z : Int32, z = (if v102 < (0 : Int32) then v102 else (if (((p1.toUInt32 >>> ((7 : Int32) &&& 31).toUInt32).toInt32) &&& (1 : Int32)) = (0 : Int32) then (if (0 : Int32) < v102 then (v102 - (1 : Int32)) else (if v102 = v8 then v102 else (v102 + (1 : Int32)))) else (if v102 = v8 then v102 else (v102 + (1 : Int32))))) := ⟨_, rfl⟩
  have F_36 : Fld Z Tg112.heap b9 "com/example/wireform/wireform/wire/Nesting" "depth" "I" (.int w112_depth) := by subst hw112_depth; exact F_35
  have Ng112 := Fr.app Ng99 Ng112q
  refine own_st (stg112) ?_
  obtain ⟨v115, hv115⟩ : ∃ z : Int32, z = (if v102 < (0 : Int32) then v102 else (if (((p1.toUInt32 >>> ((7 : Int32) &&& 31).toUInt32).toInt32) &&& (1 : Int32)) = (0 : Int32) then (if (0 : Int32) < v102 then (v102 - (1 : Int32)) else (if (¬ (v102 = v8)) ↔ (v102 < v8) then (if v102 < v8 then (v102 + (1 : Int32)) else v102) else (-1 : Int32))) else (if (¬ (v102 = v8)) ↔ (v102 < v8) then (if v102 < v8 then (v102 + (1 : Int32)) else v102) else (-1 : Int32)))) := ⟨_, rfl⟩
  refine own_st (B := Tg112.setTop (mkF m 117 #[.val (.int p0), .val (.int p1), .val (.int v8), .val (.ref b9), .val (.int v115)] [])) (fun target kt => ?_) ?_
  · show Steps p.tables e below (Tg112.setTop (mkF m 115 #[.val (.int p0), .val (.int p1), .val (.int v8), .val (.ref b9), .val (.int v102)] [(.int (if v102 < (0 : Int32) then v102 else (if (((p1.toUInt32 >>> ((7 : Int32) &&& 31).toUInt32).toInt32) &&& (1 : Int32)) = (0 : Int32) then (if (0 : Int32) < v102 then (v102 - (1 : Int32)) else (if (¬ (v102 = v8)) ↔ (v102 < v8) then (if v102 < v8 then (v102 + (1 : Int32)) else v102) else (-1 : Int32))) else (if (¬ (v102 = v8)) ↔ (v102 < v8) then (if v102 < v8 then (v102 + (1 : Int32)) else v102) else (-1 : Int32)))))])) target
    refine XS.istore Xg112.here hx rfl (hb hby at_115) rfl (l' := #[.val (.int p0), .val (.int p1), .val (.int v8), .val (.ref b9), .val (.int v115)]) (by subst hv115; rfl) ?_
    exact kt
  have hS115 : w112_depth = v115 ∧ ¬ v115 < (0 : Int32) ∧ ¬ v8 < v115 := by
    rw [hw112_depth, hv115]
    exact own_stepOk _ _ _ hS102.2.1 hS102.2.2 own_L.1
  refine own_st (B := Tg112.setTop (mkF m 119 #[.val (.int p0), .val (.int p1), .val (.int v8), .val (.ref b9), .val (.int v115)] [(.int v115)])) (fun target kt => ?_) ?_
  · show Steps p.tables e below (Tg112.setTop (mkF m 117 #[.val (.int p0), .val (.int p1), .val (.int v8), .val (.ref b9), .val (.int v115)] [])) target
    refine XS.iload Xg112.here hx rfl (hb hby at_117) rfl ?_
    exact kt
  have c119 : ¬ (v115 < (0 : Int32)) := by
    exact hS115.2.1
  refine own_st (B := Tg112.setTop (mkF m 127 #[.val (.int p0), .val (.int p1), .val (.int v8), .val (.ref b9), .val (.int v115)] [(.int (1 : Int32))])) (fun target kt => ?_) ?_
  · show Steps p.tables e below (Tg112.setTop (mkF m 119 #[.val (.int p0), .val (.int p1), .val (.int v8), .val (.ref b9), .val (.int v115)] [(.int v115)])) target
    refine XS.ifNo Xg112.here hx rfl (hb hby at_119) rfl ((if0 _ _).trans (flt c119).1) ?_
    show Steps p.tables e below (Tg112.setTop (mkF m 122 #[.val (.int p0), .val (.int p1), .val (.int v8), .val (.ref b9), .val (.int v115)] [])) target
    refine XS.iconst Xg112.here hx rfl (hb hby at_122) ?_
    show Steps p.tables e below (Tg112.setTop (mkF m 123 #[.val (.int p0), .val (.int p1), .val (.int v8), .val (.ref b9), .val (.int v115)] [(.int (1 : Int32))])) target
    refine XS.goto Xg112.here hx rfl (pc0 := 123) (pc' := 127) rfl (hb hby at_123) (by decide) (by decide) ?_
    exact kt
  obtain ⟨fs, hr, hrun, hended, hW, hsame⟩ := Xg112.leave (v := some (.int (1 : Int32))) (fun h => by rw [Bd.returns] at h; cases h)
  have hend : Steps p.tables e below (Tg112.setTop (mkF m 127 #[.val (.int p0), .val (.int p1), .val (.int v8), .val (.ref b9), .val (.int v115)] [(.int (1 : Int32))])) (Tg112.setFrames fs) := by
    exact retN Xg112 hx (t := .boolean) Bd.returns (by simp) (hb hby at_127) hr
  refine own_fin hend ⟨_, hrun, hended, _, _, rfl, ?_, ⟨_, rfl⟩, hW, hsame.mono (by decide) (by decide)⟩
  show own_Q0 Z p0 p1 h0 n0 _ Tg112.heap _
  exact ⟨rfl, Ng112⟩
set_option maxRecDepth 65536 in
set_option maxHeartbeats 40000000 in
theorem own_comes_1 {Post : Tables → Env → Array Value → State → Outcome → State → Prop} (hpost : ∀ tb e args s v u, (limb_1_1.after args s (.returned v) u = true ∧ limb_1_2.after args s (.returned v) u = true ∧ True) → FrameEnd s (.returned v) u (Jvm.fieldLocs frame_1_writes args s ++ Jvm.arrayLocs frame_1_arrays args s ++ Jvm.staticLocs frame_1_statics s) 16 128 → Post tb e args s (.returned v) u) :
    ArmFor flags0 classFile x code maxLocals ret World_1 tables_1 room_1 Calls_1 rest_1 Pre_1 Post := by
  intro l hfl _ _ p e ha hc hk s m args below hf hA hF happ hP
  obtain ⟨hcalls, hrest, hpre⟩ := hP
  obtain ⟨-, -, -, hnamed, -, -, -, hat⟩ := (Spec.applies_iff hf).mp happ
  obtain ⟨hg, hn⟩ := and_e (Cond.before_iff.mp (show (Jvm.Cond.and given_1 narrow_1).before args s = true from hpre))
  obtain ⟨g1, g2⟩ := and_e hg
  obtain ⟨g3, g4⟩ := and_e g2
  obtain ⟨w0, w1, rfl⟩ : ∃ w0 w1 : Value, args = #[w0, w1] := by
    have hs : args.size = 2 := by simpa [Cond.value, given_1] using g1
    obtain ⟨L⟩ := args
    match L, hs with
    | [w0, w1], _ => exact ⟨w0, w1, rfl⟩
  have hw := fun d (hd : d ∈ tables_1) => atoms_spec (ws := Jvm.Cond.code x code maxLocals ret :: tables_1) hat d (List.mem_cons_of_mem _ hd)
  obtain ⟨i0, ei0⟩ := is_v g3
  obtain rfl : w0 = (.int i0) := Option.some.inj ei0
  obtain ⟨i1, ei1⟩ := is_v g4
  obtain rfl : w1 = (.int i1) := Option.some.inj ei1
  obtain ⟨n, o, h1, h2, h3, _, L, rfl, ⟨rfl, N⟩, hq⟩ := own_rm0 l s _ hw tables_1 i0 i1 s.heap s.heap.size (Nat.le_refl _) p e ha hc hk s m _ below hf ((Spec.applies_iff_loose hf).mp happ).1 ⟨rfl, State.Warmed39.refl s, rfl⟩ trivial
  refine ⟨n, _, h1, h2, h3, hpost _ _ _ _ _ _ ⟨Cond.after_iff.mpr rfl, Cond.after_iff.mpr (eq_i res_at (Term.int_eval (1)) rfl), trivial⟩ ⟨hq.1, hq.2.1, (hq.2.2.sift fun y hy => Or.inr (N y hy)).mono (by decide) (by decide)⟩⟩
theorem main_1_1 : Claimed_1_1 := own_comes_1 fun _ _ _ _ _ _ h hF => ⟨h.1, hF⟩
theorem main_1_2 : Claimed_1_2 := own_comes_1 fun _ _ _ _ _ _ h hF => ⟨h.2.1, hF⟩
end Jvm.Pilot.@@N@@
namespace Jvm.Pilot.@@N@@
open Jvm Jvm.ClassFile Sem Op Lib Jvm.Free Jvm.Stand Jvm.Pilot.@@N@@.Jvm.D
/-! MADE BY PROGRAM (witnessworld.py) out of the Statement's table words and the real class files: 9 classes; the members and pool entries that the words name. The judged class is class 1, her method 2. -/
namespace start1
open Jvm.ClassFile
def u (s : String) : CpInfo := .utf8 (stringToUtf16 s)
/-- a pool by its gaps: so many unusable entries, then the entry; so many at the end -/
def gap : Nat → List CpInfo → List CpInfo
  | 0, r => r
  | n + 1, r => .unusable :: gap n r
def poolList (es : List (Nat × CpInfo)) (last : Nat) : List CpInfo := es.foldr (fun e r => gap e.1 (e.2 :: r)) (gap last [])
def pool (es : List (Nat × CpInfo)) (last : Nat) : Array CpInfo := ⟨poolList es last⟩
def fileOf (pool : Array CpInfo) (this : Nat) (attrs : Array Attribute := #[]) (ms : Array MethodInfo := #[]) (fl : Nat := 33) (sup : Nat := 0) (ifs : Array Nat := #[]) (fds : Array FieldInfo := #[]) : ClassFile where
  minorVersion := 0
  majorVersion := 65
  constantPool := pool
  accessFlags := fl
  thisClass := this
  superClass := sup
  interfaces := ifs
  fields := fds
  methods := ms
  attributes := attrs
def plain (name : String) (sup : Option ClassId) : Class where
  name := name
  kind := .ordinary
  loader := none
  accessFlags := 33
  super := sup
  interfaces := #[]
  cf := none
  fields := #[]
  methods := #[]
  instanceTypes := #[]
  staticTypes := #[]
  resolved := #[]
  callSites := []
  init := .initialized
  statics := none
  mirror := none

def pool0 : Array CpInfo := pool [(5, u "<init>"), (0, u "()V"), (1, .class_ 10), (1, u "java/lang/Object")] 113

def k0c0 : Code := { maxStack := 0, maxLocals := 1, code := object_method_1_code, exceptionTable := #[], attributes := #[] }
def k0m0 : Method := { name := "<init>", desc := "()V", sig := { parameters := [], returnType := none }, accessFlags := 1, code := some k0c0 }
/-- java/lang/Object -/
def k0 : Class := { plain "java/lang/Object" none with
  accessFlags := 33
  interfaces := #[]
  cf := some (fileOf pool0 8 #[] #[{ accessFlags := 1, nameIndex := 5, descriptorIndex := 6, attributes := #[] }] 33 0 #[] #[])
  fields := #[]
  methods := #[k0m0]
  instanceTypes := #[]
  staticTypes := #[]
  resolved := Array.replicate 124 none
  statics := none }

def pool1 : Array CpInfo := pool [(2, .class_ 4), (1, u "java/lang/Object"), (0, u "<init>"), (0, u "()V"), (0, .methodref 8 9), (0, .class_ 10), (0, .nameAndType 11 6), (0, u "com/example/wireform/wireform/wire/Nesting"), (0, u "exit"), (0, .methodref 8 13), (0, .nameAndType 14 15), (0, u "enter"), (0, u "()Z"), (0, .integer 2147483647), (0, .methodref 8 18), (0, .nameAndType 5 19), (0, u "(I)V"), (0, .methodref 21 22), (0, .class_ 23), (0, .nameAndType 24 25), (0, u "com/example/wireform/wireform/wire/NestingEnterPinLaw"), (0, u "step"), (0, u "(Lcom/example/wireform/wireform/wire/Nesting;III)I"), (3, u "law"), (0, u "(II)Z")] 2

def k1m0 : Method := { name := "<init>", desc := "()V", sig := { parameters := [], returnType := none }, accessFlags := 2, code := none }
def k1c1 : Code := { maxStack := 2, maxLocals := 6, code := method_2_code, exceptionTable := #[], attributes := #[] }
def k1m1 : Method := { name := "step", desc := "(Lcom/example/wireform/wireform/wire/Nesting;III)I", sig := { parameters := [(.object "com/example/wireform/wireform/wire/Nesting"), .int, .int, .int], returnType := some .int }, accessFlags := 10, code := some k1c1 }
def k1c2 : Code := { maxStack := 5, maxLocals := 5, code := code, exceptionTable := #[], attributes := #[] }
def k1m2 : Method := { name := "law", desc := "(II)Z", sig := { parameters := [.int, .int], returnType := some .boolean }, accessFlags := 9, code := some k1c2 }
/-- com/example/wireform/wireform/wire/NestingEnterPinLaw -/
def k1 : Class := { plain "com/example/wireform/wireform/wire/NestingEnterPinLaw" (some 0) with
  accessFlags := 49
  interfaces := #[]
  cf := some (fileOf pool1 21 #[] #[{ accessFlags := 2, nameIndex := 5, descriptorIndex := 6, attributes := #[] }, { accessFlags := 10, nameIndex := 24, descriptorIndex := 25, attributes := #[] }, { accessFlags := 9, nameIndex := 29, descriptorIndex := 30, attributes := #[] }] 49 2 #[] #[])
  fields := #[]
  methods := #[k1m0, k1m1, k1m2]
  instanceTypes := #[]
  staticTypes := #[]
  resolved := Array.replicate 33 none
  statics := none }

def pool2 : Array CpInfo := pool [(1, .methodref 2 3), (0, .class_ 4), (0, .nameAndType 5 6), (0, u "java/lang/Object"), (0, u "<init>"), (0, u "()V"), (0, .class_ 8), (0, u "com/example/wireform/wireform/wire/Nesting"), (9, .fieldref 7 19), (0, .nameAndType 20 21), (0, u "limit"), (0, u "I"), (0, .fieldref 7 23), (0, .nameAndType 24 21), (0, u "depth"), (0, u "DEFAULT_LIMIT"), (2, u "MAX_LIMIT"), (1, u "(I)V"), (4, u "enter"), (0, u "()Z"), (0, u "exit")] 17

def k2c0 : Code := { maxStack := 3, maxLocals := 2, code := prog_67_method_1_code, exceptionTable := #[], attributes := #[] }
def k2m0 : Method := { name := "<init>", desc := "(I)V", sig := { parameters := [.int], returnType := none }, accessFlags := 0, code := some k2c0 }
def k2c1 : Code := { maxStack := 3, maxLocals := 1, code := prog_67_method_3_code, exceptionTable := #[], attributes := #[] }
def k2m1 : Method := { name := "enter", desc := "()Z", sig := { parameters := [], returnType := some .boolean }, accessFlags := 0, code := some k2c1 }
def k2c2 : Code := { maxStack := 3, maxLocals := 1, code := prog_67_method_4_code, exceptionTable := #[], attributes := #[] }
def k2m2 : Method := { name := "exit", desc := "()V", sig := { parameters := [], returnType := none }, accessFlags := 0, code := some k2c2 }
/-- com/example/wireform/wireform/wire/Nesting -/
def k2 : Class := { plain "com/example/wireform/wireform/wire/Nesting" (some 0) with
  accessFlags := 49
  interfaces := #[]
  cf := some (fileOf pool2 7 #[] #[{ accessFlags := 0, nameIndex := 5, descriptorIndex := 30, attributes := #[] }, { accessFlags := 0, nameIndex := 35, descriptorIndex := 36, attributes := #[] }, { accessFlags := 0, nameIndex := 37, descriptorIndex := 6, attributes := #[] }] 49 2 #[] #[{ accessFlags := 25, nameIndex := 25, descriptorIndex := 21, attributes := #[] }, { accessFlags := 24, nameIndex := 28, descriptorIndex := 21, attributes := #[] }, { accessFlags := 18, nameIndex := 20, descriptorIndex := 21, attributes := #[] }, { accessFlags := 2, nameIndex := 24, descriptorIndex := 21, attributes := #[] }])
  fields := #[{ name := "DEFAULT_LIMIT", type := .int, accessFlags := 25, slot := 0, constantValue := 0 }, { name := "MAX_LIMIT", type := .int, accessFlags := 24, slot := 1, constantValue := 0 }, { name := "limit", type := .int, accessFlags := 18, slot := 0, constantValue := 0 }, { name := "depth", type := .int, accessFlags := 2, slot := 1, constantValue := 0 }]
  methods := #[k2m0, k2m1, k2m2]
  instanceTypes := #[.int, .int]
  staticTypes := #[.int, .int]
  resolved := Array.replicate 55 none
  statics := none }

def pool3 : Array CpInfo := pool [(1, u "java/lang/Cloneable"), (0, .class_ 1), (0, u "java/lang/Object"), (0, .class_ 3)] 3

/-- java/lang/Cloneable -/
def k3 : Class := { plain "java/lang/Cloneable" (some 0) with
  accessFlags := 1537
  interfaces := #[]
  cf := some (fileOf pool3 2 #[] #[] 1537 4 #[] #[])
  fields := #[]
  methods := #[]
  instanceTypes := #[]
  staticTypes := #[]
  resolved := Array.replicate 8 none
  statics := none }

def pool4 : Array CpInfo := pool [(1, u "java/io/Serializable"), (0, .class_ 1), (0, u "java/lang/Object"), (0, .class_ 3)] 3

/-- java/io/Serializable -/
def k4 : Class := { plain "java/io/Serializable" (some 0) with
  accessFlags := 1537
  interfaces := #[]
  cf := some (fileOf pool4 2 #[] #[] 1537 4 #[] #[])
  fields := #[]
  methods := #[]
  instanceTypes := #[]
  staticTypes := #[]
  resolved := Array.replicate 8 none
  statics := none }

/-- the primitive byte -/
def k5 : Class := { plain "byte" none with kind := .primitive 'B', accessFlags := 0x411 }
/-- [B -/
def k6 : Class := { plain "[B" (some 0) with kind := .array 5 .byte, interfaces := #[3, 4], accessFlags := 1041 }

/-- the primitive int -/
def k7 : Class := { plain "int" none with kind := .primitive 'I', accessFlags := 0x411 }
/-- [I -/
def k8 : Class := { plain "[I" (some 0) with kind := .array 7 .int, interfaces := #[3, 4], accessFlags := 1041 }

def heap : Heap := #[]
def classes : Array Class := #[k0, k1, k2, k3, k4, k5, k6, k7, k8]
def interned : List (Array UInt16 × Addr) := []
def slotsUsed : Nat := 0
def theMethod : MethodId := ⟨1, 2⟩
def args0 : Array Value := #[.int 3, .int 4]
def aboutOver (below : List Frame) : State where
  vm := { classes := classes, interned := interned.toArray }
  heap := heap
  slotsUsed := slotsUsed
  threads := #[{ frames := .invoking theMethod args0 :: below }]
def below0 : List Frame := [.native { method := ⟨0, 0⟩, args := #[] }]
def about1 : State := aboutOver below0
def p0 : Program := .bare "" "" ""
def e0 : Env := launch0.env 0 0 0
theorem w_frames : about1.frames = Frame.invoking theMethod args0 :: below0 := rfl
set_option maxRecDepth 65536 in
theorem w_args : argsFit about1.vm theMethod args0 = true := by decide +kernel
set_option maxRecDepth 65536 in
theorem w_heap : heapFits about1 = true := by decide +kernel
set_option maxRecDepth 65536 in
theorem w_runnable : about1.curStatus? = some .runnable := by decide +kernel
set_option maxRecDepth 65536 in
theorem w_alone : about1.alone = true := by decide +kernel
set_option maxRecDepth 65536 in
theorem w_named : about1.methodNamed? x = some theMethod := by decide +kernel
set_option maxRecDepth 65536 in
theorem w_hears : about1.hears theMethod below0 = true := by decide +kernel
set_option maxRecDepth 65536 in
theorem w_ripe : about1.ripe theMethod args0 below0 = true := by decide +kernel
theorem w_running : about1.status = .running := rfl
set_option maxRecDepth 65536 in
theorem w_room : about1.hasRoom e0.platform room_1 = true :=
  launch0.hasRoom_least _ room_1 (by decide +kernel) (by decide +kernel) (by decide +kernel) (by decide +kernel) (by decide +kernel) (by decide +kernel)
theorem allAtoms_all (ts : List Jvm.Cond) (a : Array Jvm.Value) (st : Jvm.State) : (allAtoms ts).before a st = ts.all (fun c => c.before a st) := by
  induction ts with
  | nil => rfl
  | cons c t ih =>
    show (Jvm.Cond.and c (allAtoms t)).before a st = _
    rw [Jvm.Cond.before_and, ih, List.all_cons]
def words1 : List Jvm.Cond := Jvm.Cond.code x code maxLocals ret :: tables_1
/-- a 'code' word, met by the world's own term for the bytes: nothing is compared byte by byte -/
theorem code_word {y : MethodName} {bytes : ByteArray} {mx : Nat} {rt : Option FieldType} {a : Array Value} {s : State} {m : MethodId} {meth : Method} {c : Code} (h1 : s.methodNamed? y = some m) (h2 : s.vm.method? m = some meth) (h3 : meth.code = some c) (h4 : c.code = bytes)
    (h5 : (c.maxLocals == mx && c.exceptionTable.isEmpty && decide (c.maxStack ≤ mostOperands) && decide (meth.sig.returnType = rt) && !meth.locks && decide (parseMethodDescriptor y.desc = some meth.sig)) = true) : (Jvm.Cond.code y bytes mx rt).before a s = true := by
  simp only [Bool.and_eq_true, beq_iff_eq, Bool.not_eq_true', decide_eq_true_eq] at h5
  obtain ⟨⟨⟨⟨⟨g1, g2⟩, g3⟩, g4⟩, g5⟩, g6⟩ := h5
  simp [Cond.before, Cond.holds, Cond.value, h1, h2, h3, h4, g1, g2, g3, g4, g5, g6]
def isCode : Jvm.Cond → Bool
  | .code _ _ _ _ => true
  | _ => false
theorem all_split {L : List Jvm.Cond} {P : Jvm.Cond → Bool} (h1 : L.all (fun c => isCode c || P c) = true) (h2 : ∀ c ∈ L.filter isCode, P c = true) : L.all P = true := by
  refine List.all_eq_true.mpr fun c hc => ?_
  have h := List.all_eq_true.mp h1 c hc
  rcases Bool.eq_false_or_eq_true (isCode c) with hi | hi
  · exact h2 c (List.mem_filter.mpr ⟨hc, hi⟩)
  · simpa [hi] using h
set_option maxRecDepth 65536 in
theorem w_c0 : (Jvm.Cond.code x code maxLocals ret).before args0 about1 = true := code_word (m := ⟨1, 2⟩) (meth := k1m2) (c := k1c2) (by decide +kernel) rfl rfl rfl (by decide +kernel)
set_option maxRecDepth 65536 in
theorem w_c1 : (Jvm.Cond.code ({ cls := "com/example/wireform/wireform/wire/Nesting", name := "<init>", desc := "(I)V" } : Jvm.MethodName) prog_67_method_1_code (2 : Nat) (Option.none : Option Jvm.ClassFile.FieldType)).before args0 about1 = true := code_word (m := ⟨2, 0⟩) (meth := k2m0) (c := k2c0) (by decide +kernel) rfl rfl rfl (by decide +kernel)
set_option maxRecDepth 65536 in
theorem w_c2 : (Jvm.Cond.code ({ cls := "java/lang/Object", name := "<init>", desc := "()V" } : Jvm.MethodName) object_method_1_code (1 : Nat) (Option.none : Option Jvm.ClassFile.FieldType)).before args0 about1 = true := code_word (m := ⟨0, 0⟩) (meth := k0m0) (c := k0c0) (by decide +kernel) rfl rfl rfl (by decide +kernel)
set_option maxRecDepth 65536 in
theorem w_c3 : (Jvm.Cond.code ({ cls := "com/example/wireform/wireform/wire/NestingEnterPinLaw", name := "step", desc := "(Lcom/example/wireform/wireform/wire/Nesting;III)I" } : Jvm.MethodName) method_2_code (6 : Nat) (Option.some Jvm.ClassFile.FieldType.int)).before args0 about1 = true := code_word (m := ⟨1, 1⟩) (meth := k1m1) (c := k1c1) (by decide +kernel) rfl rfl rfl (by decide +kernel)
set_option maxRecDepth 65536 in
theorem w_c4 : (Jvm.Cond.code ({ cls := "com/example/wireform/wireform/wire/Nesting", name := "enter", desc := "()Z" } : Jvm.MethodName) prog_67_method_3_code (1 : Nat) (Option.some Jvm.ClassFile.FieldType.boolean)).before args0 about1 = true := code_word (m := ⟨2, 1⟩) (meth := k2m1) (c := k2c1) (by decide +kernel) rfl rfl rfl (by decide +kernel)
set_option maxRecDepth 65536 in
theorem w_c5 : (Jvm.Cond.code ({ cls := "com/example/wireform/wireform/wire/Nesting", name := "exit", desc := "()V" } : Jvm.MethodName) prog_67_method_4_code (1 : Nat) (Option.none : Option Jvm.ClassFile.FieldType)).before args0 about1 = true := code_word (m := ⟨2, 2⟩) (meth := k2m2) (c := k2c2) (by decide +kernel) rfl rfl rfl (by decide +kernel)
def codes1 : List Jvm.Cond := [Jvm.Cond.code x code maxLocals ret, Jvm.Cond.code ({ cls := "com/example/wireform/wireform/wire/Nesting", name := "<init>", desc := "(I)V" } : Jvm.MethodName) prog_67_method_1_code (2 : Nat) (Option.none : Option Jvm.ClassFile.FieldType), Jvm.Cond.code ({ cls := "java/lang/Object", name := "<init>", desc := "()V" } : Jvm.MethodName) object_method_1_code (1 : Nat) (Option.none : Option Jvm.ClassFile.FieldType), Jvm.Cond.code ({ cls := "com/example/wireform/wireform/wire/NestingEnterPinLaw", name := "step", desc := "(Lcom/example/wireform/wireform/wire/Nesting;III)I" } : Jvm.MethodName) method_2_code (6 : Nat) (Option.some Jvm.ClassFile.FieldType.int), Jvm.Cond.code ({ cls := "com/example/wireform/wireform/wire/Nesting", name := "enter", desc := "()Z" } : Jvm.MethodName) prog_67_method_3_code (1 : Nat) (Option.some Jvm.ClassFile.FieldType.boolean), Jvm.Cond.code ({ cls := "com/example/wireform/wireform/wire/Nesting", name := "exit", desc := "()V" } : Jvm.MethodName) prog_67_method_4_code (1 : Nat) (Option.none : Option Jvm.ClassFile.FieldType)]
set_option maxRecDepth 65536 in
theorem codes_eq : words1.filter isCode = codes1 := rfl
theorem w_codes : ∀ c ∈ words1.filter isCode, c.before args0 about1 = true := by
  rw [codes_eq]
  intro c hc
  simp only [codes1, List.mem_cons, List.not_mem_nil, or_false] at hc
  rcases hc with rfl | rfl | rfl | rfl | rfl | rfl
  · exact w_c0
  · exact w_c1
  · exact w_c2
  · exact w_c3
  · exact w_c4
  · exact w_c5
set_option maxRecDepth 65536 in
theorem w_t1 : (words1.take 24).all (fun c => isCode c || c.before args0 about1) = true := by decide +kernel
set_option maxRecDepth 65536 in
theorem w_t2 : (words1.drop 24).all (fun c => isCode c || c.before args0 about1) = true := by decide +kernel
theorem w_tables : (allAtoms (Jvm.Cond.code x code maxLocals ret :: tables_1)).before args0 about1 = true := by
  rw [allAtoms_all]
  show words1.all (fun c => c.before args0 about1) = true
  refine all_split ?_ w_codes
  rw [← List.take_append_drop 24 words1, List.all_append, w_t1, w_t2]
  rfl
set_option maxRecDepth 65536 in
theorem w_case : (Jvm.Cond.and given_1 narrow_1).before args0 about1 = true := by decide +kernel
theorem w_applies : (headSpec (Jvm.Cond.code x code maxLocals ret :: tables_1) room_1).applies x e0.platform about1 = true :=
  (Spec.applies_iff w_frames).mpr ⟨w_running, w_runnable, w_alone, w_named, w_hears, w_ripe, w_room, w_tables⟩
theorem atStart : AtStart classFile x code maxLocals ret World_1 tables_1 room_1 Calls_1 rest_1 Pre_1 launch0 p0 e0 about1 theMethod args0 below0 :=
  ⟨lists_1, trivial, launch0.admits_env _ _ _, launch0.least_env, fairChoices_fair.cas, fairChoices_fair.clock, w_frames, w_args, w_heap, w_applies, trivial, trivial, w_case⟩
end start1
theorem witness_1 : WitnessClaimed_1 := ⟨start1.p0, start1.e0, start1.about1, start1.theMethod, start1.args0, start1.below0, start1.atStart⟩
end Jvm.Pilot.@@N@@
