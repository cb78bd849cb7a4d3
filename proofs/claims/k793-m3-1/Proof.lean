import JvmDerived
import JvmDerived.Pilot.@@N@@Statement
import JvmDerived.Pilot.@@N@@Code
set_option linter.unusedVariables false
set_option linter.unusedSimpArgs false
namespace Jvm.RoadKit
open Sem ClassFile Op Lib Jvm.Stand Jvm.Free Jvm.LawKit
section New
variable {p : Program} {l : Launch} {e : Env} {R : Room} {s : State} {m : MethodId} {args : Array Value} {below : List Frame} {meth : Method} {c : Code} {T : State} {locs : List Loc} {cells slots : Nat}
theorem retI (X : Stand p l e R s m args below meth c T locs cells slots) (hx : p.tables.exec = Jvm.exec) {pc : Nat} {Ls : Array Slot} {z : Int32} {rest : List Value} (hret : meth.sig.returnType = some .int) (hd : decode c.code pc = .ok (.ireturn, 1)) {fs : List Frame}
    (hl : ∀ (f : JFrame) (acts : List Action), f.method = m → f.locked = none → f.entered = [] → (doReturn e (T.setTop f) acts (some (.int z))).1 = T.setFrames fs) : Steps p.tables e below (T.setTop (mkF m pc Ls (.int z :: rest))) (T.setFrames fs) := by
  have hm' : T.vm.method? m = some meth := X.method'
  have hn : narrow .int (.int z) = .int z := rfl
  show Steps p.tables e below (T.setTop { method := m, pc := pc, locals := Ls, stack := _ :: rest, locked := none }) _
  jvm_step X.here [X.here.top, hx, hd, hm', hret, hn]
  first | (intro acts; rw [hl _ acts rfl rfl rfl]) | rw [hl _ _ rfl rfl rfl]
  exact Steps.refl _
end New
/-- from the state A the run comes to a state that P describes -/
def own_Lead (tb : Tables) (e : Env) (below : List Frame) (A : State) (P : State → Prop) : Prop := ∃ B, P B ∧ ∀ t, Steps tb e below B t → Steps tb e below A t
theorem own_st {tb : Tables} {e : Env} {below : List Frame} {A B : State} {P : State → Prop} (st : ∀ t, Steps tb e below B t → Steps tb e below A t) (h : own_Lead tb e below B P) : own_Lead tb e below A P := by
  obtain ⟨C, hp, hs⟩ := h
  exact ⟨C, hp, fun t k => st t (hs t k)⟩
theorem own_fin {tb : Tables} {e : Env} {below : List Frame} {A B : State} {P : State → Prop} (st : Steps tb e below A B) (h : P B) : own_Lead tb e below A P := ⟨B, h, fun t k => st.trans k⟩
theorem own_run {tb : Tables} {e : Env} {below : List Frame} {A : State} {K : State → Outcome → Prop} (h : own_Lead tb e below A (fun B => ∃ o, K B o)) : ∃ s₂ o, Steps tb e below A s₂ ∧ K s₂ o := by
  obtain ⟨B, ⟨o, hk⟩, st⟩ := h
  exact ⟨B, o, st B (Steps.refl _), hk⟩
/-- a boolean as an int -/
def own_b (P : Prop) [Decidable P] : Int32 := if P then 1 else 0
theorem own_b1 {P : Prop} [Decidable P] (h : P) : own_b P = 1 := if_pos h
theorem own_b0 {P : Prop} [Decidable P] (h : ¬ P) : own_b P = 0 := if_neg h
theorem own_bn0 {P : Prop} [Decidable P] {x : Int32} (hx : x = own_b P) (h : P) : ¬ x = 0 := by rw [hx, own_b1 h]; decide
theorem own_b00 {P : Prop} [Decidable P] {x : Int32} (hx : x = own_b P) (h : ¬ P) : x = 0 := by rw [hx, own_b0 h]
section Copy
variable {p : Program} {l : Launch} {e : Env} {R : Room} {s : State} {m : MethodId} {args : Array Value} {below : List Frame} {meth : Method} {c : Code} {T : State} {locs : List Loc} {cells slots : Nat} {Z : State} {h : Heap} {a b : Addr}
end Copy
section Cold
variable {p : Program} {l : Launch} {e : Env} {R : Room} {s : State} {vm0 : Vm} {m : MethodId} {args : Array Value} {below : List Frame} {meth : Method} {c : Code} {T : State} {locs : List Loc} {cells slots : Nat} {Z : State} {a0 : Array Value} {h : Heap}
end Cold
end Jvm.RoadKit
namespace Jvm.Pilot.@@N@@
open Jvm Jvm.ClassFile Sem Op Lib Jvm.Free Jvm.Stand Jvm.LawKit Jvm.RoadKit Bundle Jvm.Pilot.@@N@@.Jvm.D
theorem own_pn0 : plainName "com/example/barnacle/barnacle/cli/Tally" = true := by first | (simp [plainName, overriddenIn]; done) | decide +kernel
theorem own_d1_0 : decode prog_42_method_1_code 0 = .ok (.aload_n 0, 1) := by decide +kernel
theorem own_d1_1 : decode prog_42_method_1_code 1 = .ok (.invokespecial 1, 3) := by decide +kernel
theorem own_d1_4 : decode prog_42_method_1_code 4 = .ok (.return_, 1) := by decide +kernel
theorem own_ef1 (m : MethodId) (r0 : Addr) : entryFrame m #[(.ref r0)] 1 = mkF m 0 #[.val (.ref r0)] [] := by first | (simp [entryFrame, mkF, argsToLocals, Value.category]; done) | rfl
def own_Q1 (Z : State) (r0 : Addr) (h0 : Heap) (n0 : Nat) (v : Option Value) (h : Heap) (L : List Loc) : Prop := (v = none) ∧ (Fr n0 L) ∧ (h = h0)
set_option maxRecDepth 65536 in
set_option maxHeartbeats 40000000 in
theorem own_rm1 (l : Launch) (Z : State) (a0 : Array Value) (hw : ∀ d ∈ tables_1, d.before a0 Z = true) (ws : List Jvm.Cond) (r0 : Addr) (h0 : Heap) (n0 : Nat) (Z0 : n0 ≤ h0.size) :
    MetFree l (⟨"com/example/barnacle/barnacle/cli/Tally", "<init>", "()V"⟩ : MethodName) (head1 (Jvm.Cond.code (⟨"com/example/barnacle/barnacle/cli/Tally", "<init>", "()V"⟩ : MethodName) prog_42_method_1_code 1 none :: ws) ({ frames := 1, cells := 0, slots := 0, locals := 12 } : Room)) (fun a U => a = #[(.ref r0)] ∧ Z.Warmed39 U.vm ∧ U.heap = h0) (fun _ _ _ _ _ => True) (fun _ U o U' => ∃ v L, o = .returned v ∧ own_Q1 Z r0 h0 n0 v U'.heap L ∧ FrameEnd U o U' L ({ frames := 1, cells := 0, slots := 0, locals := 12 } : Room).cells ({ frames := 1, cells := 0, slots := 0, locals := 12 } : Room).slots) := by
  refine MetFree.of_bodySF (plainFor_of_name own_pn0) hisR ?_
  intro p e s m args below meth c s₁ Bd hml0 hP hK
  obtain ⟨rfl, hZ, hh⟩ := hP
  have hx := Bd.exec
  have hby := Bd.bytes
  have hml : c.maxLocals = 1 := hml0
  have hown : s.vm.findClass "com/example/barnacle/barnacle/cli/Tally" = some m.cls := findClass_of_methodNamed Bd.named
  have hnm := (name_of_methodNamed Bd.named Bd.method).1
  have X0 : Stand p l e ({ frames := 1, cells := 0, slots := 0, locals := 12 } : Room) s m #[(.ref r0)] below meth c s₁ [] 0 0 := Stand.of_body Bd
  have e0 : s₁.heap = h0 := by rw [← hh, Bd.state]; rfl
  have N0 := Fr.nil n0
  have pre0 : ∀ t, Steps p.tables e below (s₁.setTop (mkF m 0 #[.val (.ref r0)] [])) t → Steps p.tables e below (s₁.setTop (entryFrame m #[(.ref r0)] 1)) t := fun t k => castTop (own_ef1 m r0) k
  refine own_run (own_st pre0 ?_)
  refine own_st (B := s₁.setTop (mkF m 1 #[.val (.ref r0)] [(.ref r0)])) (fun target kt => ?_) ?_
  · show Steps p.tables e below (s₁.setTop (mkF m 0 #[.val (.ref r0)] [])) target
    refine XS.aloadN X0.here hx rfl (hb hby own_d1_0) rfl rfl ?_
    exact kt
  obtain ⟨Tg1, Xg1, eg1, stg1⟩ := initO X0 hx hZ hown (hw _ (List.mem_of_getElem? (i := 6) rfl)) (hw _ (List.mem_of_getElem? (i := 7) rfl)) (hw _ (List.mem_of_getElem? (i := 8) rfl)) e0 (g := (mkF m 1 #[.val (.ref r0)] [(.ref r0)])) rfl (by rw [hml]; rfl) rfl (hb hby own_d1_1) (by decide) (W := 0) (by show 2 * 0 + _ ≤ _; exact Nat.le_of_eq rfl) (by decide)
  refine own_st stg1 ?_
  obtain ⟨fs, hr, hrun, hended, hW, hsame⟩ := Xg1.leave (v := none) (fun _ => rfl)
  have hend : Steps p.tables e below (Tg1.setTop (mkF m 4 #[.val (.ref r0)] [])) (Tg1.setFrames fs) := by
    exact Xg1.returnOut hx Bd.returns (hb hby own_d1_4) hr
  refine own_fin hend ⟨_, hrun, hended, _, _, rfl, ?_, ⟨_, rfl⟩, hW, hsame.mono (by decide) (by decide)⟩
  show own_Q1 Z r0 h0 n0 _ Tg1.heap _
  rw [eg1]
  exact ⟨rfl, N0, rfl⟩
theorem own_d3_0 : decode prog_42_method_3_code 0 = .ok (.iload_n 1, 1) := by decide +kernel
theorem own_d3_1 : decode prog_42_method_3_code 1 = .ok (.ifCond .eq 16, 3) := by decide +kernel
theorem own_d3_4 : decode prog_42_method_3_code 4 = .ok (.aload_n 0, 1) := by decide +kernel
theorem own_d3_5 : decode prog_42_method_3_code 5 = .ok (.dup, 1) := by decide +kernel
theorem own_d3_6 : decode prog_42_method_3_code 6 = .ok (.getfield 7, 3) := by decide +kernel
theorem own_d3_9 : decode prog_42_method_3_code 9 = .ok (.lload_n 2, 1) := by decide +kernel
theorem own_d3_10 : decode prog_42_method_3_code 10 = .ok (.ladd, 1) := by decide +kernel
theorem own_d3_11 : decode prog_42_method_3_code 11 = .ok (.putfield 7, 3) := by decide +kernel
theorem own_d3_14 : decode prog_42_method_3_code 14 = .ok (.goto 13, 3) := by decide +kernel
theorem own_d3_17 : decode prog_42_method_3_code 17 = .ok (.aload_n 0, 1) := by decide +kernel
theorem own_d3_18 : decode prog_42_method_3_code 18 = .ok (.dup, 1) := by decide +kernel
theorem own_d3_19 : decode prog_42_method_3_code 19 = .ok (.getfield 13, 3) := by decide +kernel
theorem own_d3_22 : decode prog_42_method_3_code 22 = .ok (.lload_n 2, 1) := by decide +kernel
theorem own_d3_23 : decode prog_42_method_3_code 23 = .ok (.ladd, 1) := by decide +kernel
theorem own_d3_24 : decode prog_42_method_3_code 24 = .ok (.putfield 13, 3) := by decide +kernel
theorem own_d3_27 : decode prog_42_method_3_code 27 = .ok (.return_, 1) := by decide +kernel
theorem own_ef3 (m : MethodId) (r0 : Addr) (q2 : Int64) (B1 : Prop) [Decidable B1] : entryFrame m #[(.ref r0), (.int (own_b B1)), (.long q2)] 4 = mkF m 0 #[.val (.ref r0), .val (.int (own_b B1)), .val (.long q2), .second] [] := by first | (simp [entryFrame, mkF, argsToLocals, Value.category]; done) | rfl
def own_Q3 (Z : State) (r0 : Addr) (B1 : Prop) [Decidable B1] (q2 : Int64) (w_y : Int64) (w_n : Int64) (h0 : Heap) (n0 : Nat) (v : Option Value) (h : Heap) (L : List Loc) : Prop := (v = none) ∧ (Fr n0 L) ∧ (Keep h0 h [r0]) ∧ (Exa Z h r0 "com/example/barnacle/barnacle/cli/Tally") ∧ (Fld Z h r0 "com/example/barnacle/barnacle/cli/Tally" "yes" "J" (.long ((if B1 then ((w_y + q2)) else w_y)))) ∧ (Fld Z h r0 "com/example/barnacle/barnacle/cli/Tally" "no" "J" (.long ((if B1 then w_n else ((w_n + q2))))))
set_option maxRecDepth 65536 in
set_option maxHeartbeats 40000000 in
theorem own_rm3 (l : Launch) (Z : State) (a0 : Array Value) (hw : ∀ d ∈ tables_1, d.before a0 Z = true) (ws : List Jvm.Cond) (r0 : Addr) (B1 : Prop) [Decidable B1] (q2 : Int64) (w_y : Int64) (w_n : Int64) (h0 : Heap) (n0 : Nat) (Z0 : n0 ≤ h0.size) (E_r0 : Exa Z h0 r0 "com/example/barnacle/barnacle/cli/Tally") (F_r0_yes : Fld Z h0 r0 "com/example/barnacle/barnacle/cli/Tally" "yes" "J" (.long w_y)) (F_r0_no : Fld Z h0 r0 "com/example/barnacle/barnacle/cli/Tally" "no" "J" (.long w_n)) (g_r0 : n0 ≤ r0) :
    MetFree l (⟨"com/example/barnacle/barnacle/cli/Tally", "count", "(ZJ)V"⟩ : MethodName) (head1 (Jvm.Cond.code (⟨"com/example/barnacle/barnacle/cli/Tally", "count", "(ZJ)V"⟩ : MethodName) prog_42_method_3_code 4 none :: ws) ({ frames := 0, cells := 0, slots := 0, locals := 0 } : Room)) (fun a U => a = #[(.ref r0), (.int (own_b B1)), (.long q2)] ∧ Z.Warmed39 U.vm ∧ U.heap = h0) (fun _ _ _ _ _ => True) (fun _ U o U' => ∃ v L, o = .returned v ∧ own_Q3 Z r0 B1 q2 w_y w_n h0 n0 v U'.heap L ∧ FrameEnd U o U' L ({ frames := 0, cells := 0, slots := 0, locals := 0 } : Room).cells ({ frames := 0, cells := 0, slots := 0, locals := 0 } : Room).slots) := by
  refine MetFree.of_bodySF (plainFor_of_name own_pn0) hisR ?_
  intro p e s m args below meth c s₁ Bd hml0 hP hK
  obtain ⟨rfl, hZ, hh⟩ := hP
  have hx := Bd.exec
  have hby := Bd.bytes
  have hml : c.maxLocals = 4 := hml0
  have hown : s.vm.findClass "com/example/barnacle/barnacle/cli/Tally" = some m.cls := findClass_of_methodNamed Bd.named
  have hnm := (name_of_methodNamed Bd.named Bd.method).1
  have X0 : Stand p l e ({ frames := 0, cells := 0, slots := 0, locals := 0 } : Room) s m #[(.ref r0), (.int (own_b B1)), (.long q2)] below meth c s₁ [] 0 0 := Stand.of_body Bd
  have e0 : s₁.heap = h0 := by rw [← hh, Bd.state]; rfl
  have N0 := Fr.nil n0
  have pre0 : ∀ t, Steps p.tables e below (s₁.setTop (mkF m 0 #[.val (.ref r0), .val (.int (own_b B1)), .val (.long q2), .second] [])) t → Steps p.tables e below (s₁.setTop (entryFrame m #[(.ref r0), (.int (own_b B1)), (.long q2)] 4)) t := fun t k => castTop (own_ef3 m r0 q2 B1) k
  refine own_run (own_st pre0 ?_)
  refine own_st (B := s₁.setTop (mkF m 1 #[.val (.ref r0), .val (.int (own_b B1)), .val (.long q2), .second] [(.int (own_b B1))])) (fun target kt => ?_) ?_
  · show Steps p.tables e below (s₁.setTop (mkF m 0 #[.val (.ref r0), .val (.int (own_b B1)), .val (.long q2), .second] [])) target
    refine XS.iloadN X0.here hx rfl (hb hby own_d3_0) rfl ?_
    exact kt
  obtain ⟨_, ⟨T_M27, h_M27, lc_M27, j27_f_r0_yes, j27_f_r0_no, rfl, X_M27, e_M27, N_M27, Z_M27, K_M27, F_4, F_5, F_6, hj27_f_r0_yes, hj27_f_r0_no⟩, st_M27⟩ : own_Lead p.tables e below (s₁.setTop (mkF m 1 #[.val (.ref r0), .val (.int (own_b B1)), .val (.long q2), .second] [(.int (own_b B1))])) (fun B => ∃ (T_M27 : State) (h_M27 : Heap) (lc_M27 : List Loc) (j27_f_r0_yes : Int64) (j27_f_r0_no : Int64), B = T_M27.setTop (mkF m 27 #[.val (.ref r0), .val (.int (own_b B1)), .val (.long q2), .second] []) ∧ Stand p l e ({ frames := 0, cells := 0, slots := 0, locals := 0 } : Room) s m #[(.ref r0), (.int (own_b B1)), (.long q2)] below meth c T_M27 lc_M27 0 0 ∧ T_M27.heap = h_M27 ∧ Fr n0 lc_M27 ∧ n0 ≤ h_M27.size ∧ Keep h0 h_M27 [r0] ∧ Exa Z h_M27 r0 "com/example/barnacle/barnacle/cli/Tally" ∧ Fld Z h_M27 r0 "com/example/barnacle/barnacle/cli/Tally" "yes" "J" (.long j27_f_r0_yes) ∧ Fld Z h_M27 r0 "com/example/barnacle/barnacle/cli/Tally" "no" "J" (.long j27_f_r0_no) ∧ j27_f_r0_yes = (if B1 then ((w_y + q2)) else w_y) ∧ j27_f_r0_no = (if B1 then w_n else ((w_n + q2)))) := by
    by_cases c1 : B1
    · refine own_st (B := s₁.setTop (mkF m 6 #[.val (.ref r0), .val (.int (own_b B1)), .val (.long q2), .second] [(.ref r0), (.ref r0)])) (fun target kt => ?_) ?_
      · show Steps p.tables e below (s₁.setTop (mkF m 1 #[.val (.ref r0), .val (.int (own_b B1)), .val (.long q2), .second] [(.int (own_b B1))])) target
        refine XS.ifNo X0.here hx rfl (hb hby own_d3_1) rfl ((if0 _ _).trans (feq (own_bn0 rfl c1)).1) ?_
        show Steps p.tables e below (s₁.setTop (mkF m 4 #[.val (.ref r0), .val (.int (own_b B1)), .val (.long q2), .second] [])) target
        refine XS.aloadN X0.here hx rfl (hb hby own_d3_4) rfl rfl ?_
        show Steps p.tables e below (s₁.setTop (mkF m 5 #[.val (.ref r0), .val (.int (own_b B1)), .val (.long q2), .second] [(.ref r0)])) target
        refine XS.dup X0.here hx rfl (hb hby own_d3_5) rfl rfl ?_
        exact kt
      obtain ⟨Tg6, Xg6, eg6, stg6⟩ := getF X0 hx hZ hown (host := "") (Or.inl (hw _ (List.mem_of_getElem? (i := 14) rfl))) Via.refl e0 F_r0_yes (g := (mkF m 6 #[.val (.ref r0), .val (.int (own_b B1)), .val (.long q2), .second] [(.ref r0), (.ref r0)])) rfl rfl (hb hby own_d3_6)
      refine own_st stg6 ?_
      refine own_st (B := Tg6.setTop (mkF m 11 #[.val (.ref r0), .val (.int (own_b B1)), .val (.long q2), .second] [(.long (w_y + q2)), (.ref r0)])) (fun target kt => ?_) ?_
      · show Steps p.tables e below (Tg6.setTop (mkF m 9 #[.val (.ref r0), .val (.int (own_b B1)), .val (.long q2), .second] [(.long w_y), (.ref r0)])) target
        refine XS.lloadN Xg6.here hx rfl (hb hby own_d3_9) rfl ?_
        show Steps p.tables e below (Tg6.setTop (mkF m 10 #[.val (.ref r0), .val (.int (own_b B1)), .val (.long q2), .second] [(.long q2), (.long w_y), (.ref r0)])) target
        refine XS.ladd Xg6.here hx rfl (hb hby own_d3_10) rfl ?_
        exact kt
      obtain ⟨Tg11, hg11, Xg11, eg11, Wg11, stg11⟩ := putF Xg6 hx hZ hown (host := "") (Or.inl (hw _ (List.mem_of_getElem? (i := 14) rfl))) Via.refl eg6 F_r0_yes E_r0 (Or.inl (hw _ (List.mem_of_getElem? (i := 15) rfl))) (hw _ (List.mem_of_getElem? (i := 1) rfl)) (ty := .long) (by decide) rfl rfl (g := (mkF m 11 #[.val (.ref r0), .val (.int (own_b B1)), .val (.long q2), .second] [(.long (w_y + q2)), (.ref r0)])) rfl rfl (hb hby own_d3_11)
      refine own_st stg11 ?_
      have Ng11 := Fr.snoc Xg11 N0 g_r0
      have F := E_r0.wr Wg11
      have F_1 := F_r0_yes.same Wg11
      have F_2 := F_r0_no.other Wg11 (Or.inr (slot_ne (Or.inl (hw _ (List.mem_of_getElem? (i := 17) rfl))) (Or.inl (hw _ (List.mem_of_getElem? (i := 15) rfl))) (by decide) (t := .long) (t' := .long) (by decide) (by decide)))
      have Zz : n0 ≤ hg11.size := Nat.le_trans Z0 (Keep.of_wr Wg11).1
      have Kc := (Keep.refl h0 [r0]).wr Wg11 (Or.inl (List.mem_of_getElem? (i := 0) rfl))
      obtain ⟨v11, hv11⟩ : ∃ z : Int64, z = (w_y + q2) := ⟨_, rfl⟩
      have F_3 : Fld Z hg11 r0 "com/example/barnacle/barnacle/cli/Tally" "yes" "J" (.long v11) := by subst hv11; exact F_1
      refine own_st (B := Tg11.setTop (mkF m 27 #[.val (.ref r0), .val (.int (own_b B1)), .val (.long q2), .second] [])) (fun target kt => ?_) ?_
      · show Steps p.tables e below (Tg11.setTop (mkF m 14 #[.val (.ref r0), .val (.int (own_b B1)), .val (.long q2), .second] [])) target
        refine XS.goto Xg11.here hx rfl (pc0 := 14) (pc' := 27) rfl (hb hby own_d3_14) (by decide) (by decide) ?_
        exact kt
      subst hv11
      exact ⟨_, ⟨Tg11, hg11, _, ((w_y + q2)), w_n, rfl, Xg11, eg11, Ng11, Zz, Kc, F, F_3, F_2, (if_pos c1).symm, (if_pos c1).symm⟩, fun _ k => k⟩
    · refine own_st (B := s₁.setTop (mkF m 19 #[.val (.ref r0), .val (.int (own_b B1)), .val (.long q2), .second] [(.ref r0), (.ref r0)])) (fun target kt => ?_) ?_
      · show Steps p.tables e below (s₁.setTop (mkF m 1 #[.val (.ref r0), .val (.int (own_b B1)), .val (.long q2), .second] [(.int (own_b B1))])) target
        refine XS.ifYes X0.here hx rfl (pc0 := 1) (pc' := 17) rfl (hb hby own_d3_1) rfl ((if0 _ _).trans (teq (own_b00 rfl c1)).1) (by decide) (by decide) ?_
        show Steps p.tables e below (s₁.setTop (mkF m 17 #[.val (.ref r0), .val (.int (own_b B1)), .val (.long q2), .second] [])) target
        refine XS.aloadN X0.here hx rfl (hb hby own_d3_17) rfl rfl ?_
        show Steps p.tables e below (s₁.setTop (mkF m 18 #[.val (.ref r0), .val (.int (own_b B1)), .val (.long q2), .second] [(.ref r0)])) target
        refine XS.dup X0.here hx rfl (hb hby own_d3_18) rfl rfl ?_
        exact kt
      obtain ⟨Tg19, Xg19, eg19, stg19⟩ := getF X0 hx hZ hown (host := "") (Or.inl (hw _ (List.mem_of_getElem? (i := 16) rfl))) Via.refl e0 F_r0_no (g := (mkF m 19 #[.val (.ref r0), .val (.int (own_b B1)), .val (.long q2), .second] [(.ref r0), (.ref r0)])) rfl rfl (hb hby own_d3_19)
      refine own_st stg19 ?_
      refine own_st (B := Tg19.setTop (mkF m 24 #[.val (.ref r0), .val (.int (own_b B1)), .val (.long q2), .second] [(.long (w_n + q2)), (.ref r0)])) (fun target kt => ?_) ?_
      · show Steps p.tables e below (Tg19.setTop (mkF m 22 #[.val (.ref r0), .val (.int (own_b B1)), .val (.long q2), .second] [(.long w_n), (.ref r0)])) target
        refine XS.lloadN Xg19.here hx rfl (hb hby own_d3_22) rfl ?_
        show Steps p.tables e below (Tg19.setTop (mkF m 23 #[.val (.ref r0), .val (.int (own_b B1)), .val (.long q2), .second] [(.long q2), (.long w_n), (.ref r0)])) target
        refine XS.ladd Xg19.here hx rfl (hb hby own_d3_23) rfl ?_
        exact kt
      obtain ⟨Tg24, hg24, Xg24, eg24, Wg24, stg24⟩ := putF Xg19 hx hZ hown (host := "") (Or.inl (hw _ (List.mem_of_getElem? (i := 16) rfl))) Via.refl eg19 F_r0_no E_r0 (Or.inl (hw _ (List.mem_of_getElem? (i := 17) rfl))) (hw _ (List.mem_of_getElem? (i := 1) rfl)) (ty := .long) (by decide) rfl rfl (g := (mkF m 24 #[.val (.ref r0), .val (.int (own_b B1)), .val (.long q2), .second] [(.long (w_n + q2)), (.ref r0)])) rfl rfl (hb hby own_d3_24)
      refine own_st stg24 ?_
      have Ng24 := Fr.snoc Xg24 N0 g_r0
      have F := E_r0.wr Wg24
      have F_1 := F_r0_yes.other Wg24 (Or.inr (slot_ne (Or.inl (hw _ (List.mem_of_getElem? (i := 15) rfl))) (Or.inl (hw _ (List.mem_of_getElem? (i := 17) rfl))) (by decide) (t := .long) (t' := .long) (by decide) (by decide)))
      have F_2 := F_r0_no.same Wg24
      have Zz : n0 ≤ hg24.size := Nat.le_trans Z0 (Keep.of_wr Wg24).1
      have Kc := (Keep.refl h0 [r0]).wr Wg24 (Or.inl (List.mem_of_getElem? (i := 0) rfl))
      obtain ⟨v24, hv24⟩ : ∃ z : Int64, z = (w_n + q2) := ⟨_, rfl⟩
      have F_3 : Fld Z hg24 r0 "com/example/barnacle/barnacle/cli/Tally" "no" "J" (.long v24) := by subst hv24; exact F_2
      subst hv24
      exact ⟨_, ⟨Tg24, hg24, _, w_y, ((w_n + q2)), rfl, Xg24, eg24, Ng24, Zz, Kc, F, F_1, F_3, (if_neg c1).symm, (if_neg c1).symm⟩, fun _ k => k⟩
  refine own_st st_M27 ?_
  obtain ⟨fs, hr, hrun, hended, hW, hsame⟩ := X_M27.leave (v := none) (fun _ => rfl)
  have hend : Steps p.tables e below (T_M27.setTop (mkF m 27 #[.val (.ref r0), .val (.int (own_b B1)), .val (.long q2), .second] [])) (T_M27.setFrames fs) := by
    exact X_M27.returnOut hx Bd.returns (hb hby own_d3_27) hr
  refine own_fin hend ⟨_, hrun, hended, _, _, rfl, ?_, ⟨_, rfl⟩, hW, hsame.mono (by decide) (by decide)⟩
  show own_Q3 Z r0 B1 q2 w_y w_n h0 n0 _ T_M27.heap _
  rw [e_M27]
  subst hj27_f_r0_yes hj27_f_r0_no
  exact ⟨rfl, N_M27, K_M27, F_4, F_5, F_6⟩
theorem own_d6_0 : decode prog_42_method_2_code 0 = .ok (.iload_n 1, 1) := by decide +kernel
theorem own_d6_1 : decode prog_42_method_2_code 1 = .ok (.ifCond .eq 16, 3) := by decide +kernel
theorem own_d6_4 : decode prog_42_method_2_code 4 = .ok (.aload_n 0, 1) := by decide +kernel
theorem own_d6_5 : decode prog_42_method_2_code 5 = .ok (.dup, 1) := by decide +kernel
theorem own_d6_6 : decode prog_42_method_2_code 6 = .ok (.getfield 7, 3) := by decide +kernel
theorem own_d6_9 : decode prog_42_method_2_code 9 = .ok (.lconst 1, 1) := by decide +kernel
theorem own_d6_10 : decode prog_42_method_2_code 10 = .ok (.ladd, 1) := by decide +kernel
theorem own_d6_11 : decode prog_42_method_2_code 11 = .ok (.putfield 7, 3) := by decide +kernel
theorem own_d6_14 : decode prog_42_method_2_code 14 = .ok (.goto 13, 3) := by decide +kernel
theorem own_d6_17 : decode prog_42_method_2_code 17 = .ok (.aload_n 0, 1) := by decide +kernel
theorem own_d6_18 : decode prog_42_method_2_code 18 = .ok (.dup, 1) := by decide +kernel
theorem own_d6_19 : decode prog_42_method_2_code 19 = .ok (.getfield 13, 3) := by decide +kernel
theorem own_d6_22 : decode prog_42_method_2_code 22 = .ok (.lconst 1, 1) := by decide +kernel
theorem own_d6_23 : decode prog_42_method_2_code 23 = .ok (.ladd, 1) := by decide +kernel
theorem own_d6_24 : decode prog_42_method_2_code 24 = .ok (.putfield 13, 3) := by decide +kernel
theorem own_d6_27 : decode prog_42_method_2_code 27 = .ok (.return_, 1) := by decide +kernel
theorem own_ef6 (m : MethodId) (r0 : Addr) (B1 : Prop) [Decidable B1] : entryFrame m #[(.ref r0), (.int (own_b B1))] 2 = mkF m 0 #[.val (.ref r0), .val (.int (own_b B1))] [] := by first | (simp [entryFrame, mkF, argsToLocals, Value.category]; done) | rfl
def own_Q6 (Z : State) (r0 : Addr) (B1 : Prop) [Decidable B1] (w_y : Int64) (w_n : Int64) (h0 : Heap) (n0 : Nat) (v : Option Value) (h : Heap) (L : List Loc) : Prop := (v = none) ∧ (Fr n0 L) ∧ (Keep h0 h [r0]) ∧ (Exa Z h r0 "com/example/barnacle/barnacle/cli/Tally") ∧ (Fld Z h r0 "com/example/barnacle/barnacle/cli/Tally" "yes" "J" (.long ((if B1 then ((w_y + (1 : Int64))) else w_y)))) ∧ (Fld Z h r0 "com/example/barnacle/barnacle/cli/Tally" "no" "J" (.long ((if B1 then w_n else ((w_n + (1 : Int64)))))))
set_option maxRecDepth 65536 in
set_option maxHeartbeats 40000000 in
theorem own_rm6 (l : Launch) (Z : State) (a0 : Array Value) (hw : ∀ d ∈ tables_1, d.before a0 Z = true) (ws : List Jvm.Cond) (r0 : Addr) (B1 : Prop) [Decidable B1] (w_y : Int64) (w_n : Int64) (h0 : Heap) (n0 : Nat) (Z0 : n0 ≤ h0.size) (E_r0 : Exa Z h0 r0 "com/example/barnacle/barnacle/cli/Tally") (F_r0_yes : Fld Z h0 r0 "com/example/barnacle/barnacle/cli/Tally" "yes" "J" (.long w_y)) (F_r0_no : Fld Z h0 r0 "com/example/barnacle/barnacle/cli/Tally" "no" "J" (.long w_n)) (g_r0 : n0 ≤ r0) :
    MetFree l (⟨"com/example/barnacle/barnacle/cli/Tally", "count", "(Z)V"⟩ : MethodName) (head1 (Jvm.Cond.code (⟨"com/example/barnacle/barnacle/cli/Tally", "count", "(Z)V"⟩ : MethodName) prog_42_method_2_code 2 none :: ws) ({ frames := 0, cells := 0, slots := 0, locals := 0 } : Room)) (fun a U => a = #[(.ref r0), (.int (own_b B1))] ∧ Z.Warmed39 U.vm ∧ U.heap = h0) (fun _ _ _ _ _ => True) (fun _ U o U' => ∃ v L, o = .returned v ∧ own_Q6 Z r0 B1 w_y w_n h0 n0 v U'.heap L ∧ FrameEnd U o U' L ({ frames := 0, cells := 0, slots := 0, locals := 0 } : Room).cells ({ frames := 0, cells := 0, slots := 0, locals := 0 } : Room).slots) := by
  refine MetFree.of_bodySF (plainFor_of_name own_pn0) hisR ?_
  intro p e s m args below meth c s₁ Bd hml0 hP hK
  obtain ⟨rfl, hZ, hh⟩ := hP
  have hx := Bd.exec
  have hby := Bd.bytes
  have hml : c.maxLocals = 2 := hml0
  have hown : s.vm.findClass "com/example/barnacle/barnacle/cli/Tally" = some m.cls := findClass_of_methodNamed Bd.named
  have hnm := (name_of_methodNamed Bd.named Bd.method).1
  have X0 : Stand p l e ({ frames := 0, cells := 0, slots := 0, locals := 0 } : Room) s m #[(.ref r0), (.int (own_b B1))] below meth c s₁ [] 0 0 := Stand.of_body Bd
  have e0 : s₁.heap = h0 := by rw [← hh, Bd.state]; rfl
  have N0 := Fr.nil n0
  have pre0 : ∀ t, Steps p.tables e below (s₁.setTop (mkF m 0 #[.val (.ref r0), .val (.int (own_b B1))] [])) t → Steps p.tables e below (s₁.setTop (entryFrame m #[(.ref r0), (.int (own_b B1))] 2)) t := fun t k => castTop (own_ef6 m r0 B1) k
  refine own_run (own_st pre0 ?_)
  refine own_st (B := s₁.setTop (mkF m 1 #[.val (.ref r0), .val (.int (own_b B1))] [(.int (own_b B1))])) (fun target kt => ?_) ?_
  · show Steps p.tables e below (s₁.setTop (mkF m 0 #[.val (.ref r0), .val (.int (own_b B1))] [])) target
    refine XS.iloadN X0.here hx rfl (hb hby own_d6_0) rfl ?_
    exact kt
  obtain ⟨_, ⟨T_M27, h_M27, lc_M27, j27_f_r0_yes, j27_f_r0_no, rfl, X_M27, e_M27, N_M27, Z_M27, K_M27, F_4, F_5, F_6, hj27_f_r0_yes, hj27_f_r0_no⟩, st_M27⟩ : own_Lead p.tables e below (s₁.setTop (mkF m 1 #[.val (.ref r0), .val (.int (own_b B1))] [(.int (own_b B1))])) (fun B => ∃ (T_M27 : State) (h_M27 : Heap) (lc_M27 : List Loc) (j27_f_r0_yes : Int64) (j27_f_r0_no : Int64), B = T_M27.setTop (mkF m 27 #[.val (.ref r0), .val (.int (own_b B1))] []) ∧ Stand p l e ({ frames := 0, cells := 0, slots := 0, locals := 0 } : Room) s m #[(.ref r0), (.int (own_b B1))] below meth c T_M27 lc_M27 0 0 ∧ T_M27.heap = h_M27 ∧ Fr n0 lc_M27 ∧ n0 ≤ h_M27.size ∧ Keep h0 h_M27 [r0] ∧ Exa Z h_M27 r0 "com/example/barnacle/barnacle/cli/Tally" ∧ Fld Z h_M27 r0 "com/example/barnacle/barnacle/cli/Tally" "yes" "J" (.long j27_f_r0_yes) ∧ Fld Z h_M27 r0 "com/example/barnacle/barnacle/cli/Tally" "no" "J" (.long j27_f_r0_no) ∧ j27_f_r0_yes = (if B1 then ((w_y + (1 : Int64))) else w_y) ∧ j27_f_r0_no = (if B1 then w_n else ((w_n + (1 : Int64))))) := by
    by_cases c1 : B1
    · refine own_st (B := s₁.setTop (mkF m 6 #[.val (.ref r0), .val (.int (own_b B1))] [(.ref r0), (.ref r0)])) (fun target kt => ?_) ?_
      · show Steps p.tables e below (s₁.setTop (mkF m 1 #[.val (.ref r0), .val (.int (own_b B1))] [(.int (own_b B1))])) target
        refine XS.ifNo X0.here hx rfl (hb hby own_d6_1) rfl ((if0 _ _).trans (feq (own_bn0 rfl c1)).1) ?_
        show Steps p.tables e below (s₁.setTop (mkF m 4 #[.val (.ref r0), .val (.int (own_b B1))] [])) target
        refine XS.aloadN X0.here hx rfl (hb hby own_d6_4) rfl rfl ?_
        show Steps p.tables e below (s₁.setTop (mkF m 5 #[.val (.ref r0), .val (.int (own_b B1))] [(.ref r0)])) target
        refine XS.dup X0.here hx rfl (hb hby own_d6_5) rfl rfl ?_
        exact kt
      obtain ⟨Tg6, Xg6, eg6, stg6⟩ := getF X0 hx hZ hown (host := "") (Or.inl (hw _ (List.mem_of_getElem? (i := 14) rfl))) Via.refl e0 F_r0_yes (g := (mkF m 6 #[.val (.ref r0), .val (.int (own_b B1))] [(.ref r0), (.ref r0)])) rfl rfl (hb hby own_d6_6)
      refine own_st stg6 ?_
      refine own_st (B := Tg6.setTop (mkF m 11 #[.val (.ref r0), .val (.int (own_b B1))] [(.long (w_y + (1 : Int64))), (.ref r0)])) (fun target kt => ?_) ?_
      · show Steps p.tables e below (Tg6.setTop (mkF m 9 #[.val (.ref r0), .val (.int (own_b B1))] [(.long w_y), (.ref r0)])) target
        refine XS.lconst Xg6.here hx rfl (hb hby own_d6_9) ?_
        show Steps p.tables e below (Tg6.setTop (mkF m 10 #[.val (.ref r0), .val (.int (own_b B1))] [(.long (1 : Int64)), (.long w_y), (.ref r0)])) target
        refine XS.ladd Xg6.here hx rfl (hb hby own_d6_10) rfl ?_
        exact kt
      obtain ⟨Tg11, hg11, Xg11, eg11, Wg11, stg11⟩ := putF Xg6 hx hZ hown (host := "") (Or.inl (hw _ (List.mem_of_getElem? (i := 14) rfl))) Via.refl eg6 F_r0_yes E_r0 (Or.inl (hw _ (List.mem_of_getElem? (i := 15) rfl))) (hw _ (List.mem_of_getElem? (i := 1) rfl)) (ty := .long) (by decide) rfl rfl (g := (mkF m 11 #[.val (.ref r0), .val (.int (own_b B1))] [(.long (w_y + (1 : Int64))), (.ref r0)])) rfl rfl (hb hby own_d6_11)
      refine own_st stg11 ?_
      have Ng11 := Fr.snoc Xg11 N0 g_r0
      have F := E_r0.wr Wg11
      have F_1 := F_r0_yes.same Wg11
      have F_2 := F_r0_no.other Wg11 (Or.inr (slot_ne (Or.inl (hw _ (List.mem_of_getElem? (i := 17) rfl))) (Or.inl (hw _ (List.mem_of_getElem? (i := 15) rfl))) (by decide) (t := .long) (t' := .long) (by decide) (by decide)))
      have Zz : n0 ≤ hg11.size := Nat.le_trans Z0 (Keep.of_wr Wg11).1
      have Kc := (Keep.refl h0 [r0]).wr Wg11 (Or.inl (List.mem_of_getElem? (i := 0) rfl))
      obtain ⟨v11, hv11⟩ : ∃ z : Int64, z = (w_y + (1 : Int64)) := ⟨_, rfl⟩
      have F_3 : Fld Z hg11 r0 "com/example/barnacle/barnacle/cli/Tally" "yes" "J" (.long v11) := by subst hv11; exact F_1
      refine own_st (B := Tg11.setTop (mkF m 27 #[.val (.ref r0), .val (.int (own_b B1))] [])) (fun target kt => ?_) ?_
      · show Steps p.tables e below (Tg11.setTop (mkF m 14 #[.val (.ref r0), .val (.int (own_b B1))] [])) target
        refine XS.goto Xg11.here hx rfl (pc0 := 14) (pc' := 27) rfl (hb hby own_d6_14) (by decide) (by decide) ?_
        exact kt
      subst hv11
      exact ⟨_, ⟨Tg11, hg11, _, ((w_y + (1 : Int64))), w_n, rfl, Xg11, eg11, Ng11, Zz, Kc, F, F_3, F_2, (if_pos c1).symm, (if_pos c1).symm⟩, fun _ k => k⟩
    · refine own_st (B := s₁.setTop (mkF m 19 #[.val (.ref r0), .val (.int (own_b B1))] [(.ref r0), (.ref r0)])) (fun target kt => ?_) ?_
      · show Steps p.tables e below (s₁.setTop (mkF m 1 #[.val (.ref r0), .val (.int (own_b B1))] [(.int (own_b B1))])) target
        refine XS.ifYes X0.here hx rfl (pc0 := 1) (pc' := 17) rfl (hb hby own_d6_1) rfl ((if0 _ _).trans (teq (own_b00 rfl c1)).1) (by decide) (by decide) ?_
        show Steps p.tables e below (s₁.setTop (mkF m 17 #[.val (.ref r0), .val (.int (own_b B1))] [])) target
        refine XS.aloadN X0.here hx rfl (hb hby own_d6_17) rfl rfl ?_
        show Steps p.tables e below (s₁.setTop (mkF m 18 #[.val (.ref r0), .val (.int (own_b B1))] [(.ref r0)])) target
        refine XS.dup X0.here hx rfl (hb hby own_d6_18) rfl rfl ?_
        exact kt
      obtain ⟨Tg19, Xg19, eg19, stg19⟩ := getF X0 hx hZ hown (host := "") (Or.inl (hw _ (List.mem_of_getElem? (i := 16) rfl))) Via.refl e0 F_r0_no (g := (mkF m 19 #[.val (.ref r0), .val (.int (own_b B1))] [(.ref r0), (.ref r0)])) rfl rfl (hb hby own_d6_19)
      refine own_st stg19 ?_
      refine own_st (B := Tg19.setTop (mkF m 24 #[.val (.ref r0), .val (.int (own_b B1))] [(.long (w_n + (1 : Int64))), (.ref r0)])) (fun target kt => ?_) ?_
      · show Steps p.tables e below (Tg19.setTop (mkF m 22 #[.val (.ref r0), .val (.int (own_b B1))] [(.long w_n), (.ref r0)])) target
        refine XS.lconst Xg19.here hx rfl (hb hby own_d6_22) ?_
        show Steps p.tables e below (Tg19.setTop (mkF m 23 #[.val (.ref r0), .val (.int (own_b B1))] [(.long (1 : Int64)), (.long w_n), (.ref r0)])) target
        refine XS.ladd Xg19.here hx rfl (hb hby own_d6_23) rfl ?_
        exact kt
      obtain ⟨Tg24, hg24, Xg24, eg24, Wg24, stg24⟩ := putF Xg19 hx hZ hown (host := "") (Or.inl (hw _ (List.mem_of_getElem? (i := 16) rfl))) Via.refl eg19 F_r0_no E_r0 (Or.inl (hw _ (List.mem_of_getElem? (i := 17) rfl))) (hw _ (List.mem_of_getElem? (i := 1) rfl)) (ty := .long) (by decide) rfl rfl (g := (mkF m 24 #[.val (.ref r0), .val (.int (own_b B1))] [(.long (w_n + (1 : Int64))), (.ref r0)])) rfl rfl (hb hby own_d6_24)
      refine own_st stg24 ?_
      have Ng24 := Fr.snoc Xg24 N0 g_r0
      have F := E_r0.wr Wg24
      have F_1 := F_r0_yes.other Wg24 (Or.inr (slot_ne (Or.inl (hw _ (List.mem_of_getElem? (i := 15) rfl))) (Or.inl (hw _ (List.mem_of_getElem? (i := 17) rfl))) (by decide) (t := .long) (t' := .long) (by decide) (by decide)))
      have F_2 := F_r0_no.same Wg24
      have Zz : n0 ≤ hg24.size := Nat.le_trans Z0 (Keep.of_wr Wg24).1
      have Kc := (Keep.refl h0 [r0]).wr Wg24 (Or.inl (List.mem_of_getElem? (i := 0) rfl))
      obtain ⟨v24, hv24⟩ : ∃ z : Int64, z = (w_n + (1 : Int64)) := ⟨_, rfl⟩
      have F_3 : Fld Z hg24 r0 "com/example/barnacle/barnacle/cli/Tally" "no" "J" (.long v24) := by subst hv24; exact F_2
      subst hv24
      exact ⟨_, ⟨Tg24, hg24, _, w_y, ((w_n + (1 : Int64))), rfl, Xg24, eg24, Ng24, Zz, Kc, F, F_1, F_3, (if_neg c1).symm, (if_neg c1).symm⟩, fun _ k => k⟩
  refine own_st st_M27 ?_
  obtain ⟨fs, hr, hrun, hended, hW, hsame⟩ := X_M27.leave (v := none) (fun _ => rfl)
  have hend : Steps p.tables e below (T_M27.setTop (mkF m 27 #[.val (.ref r0), .val (.int (own_b B1))] [])) (T_M27.setFrames fs) := by
    exact X_M27.returnOut hx Bd.returns (hb hby own_d6_27) hr
  refine own_fin hend ⟨_, hrun, hended, _, _, rfl, ?_, ⟨_, rfl⟩, hW, hsame.mono (by decide) (by decide)⟩
  show own_Q6 Z r0 B1 w_y w_n h0 n0 _ T_M27.heap _
  rw [e_M27]
  subst hj27_f_r0_yes hj27_f_r0_no
  exact ⟨rfl, N_M27, K_M27, F_4, F_5, F_6⟩
theorem own_d4_0 : decode prog_42_method_4_code 0 = .ok (.aload_n 0, 1) := by decide +kernel
theorem own_d4_1 : decode prog_42_method_4_code 1 = .ok (.getfield 7, 3) := by decide +kernel
theorem own_d4_4 : decode prog_42_method_4_code 4 = .ok (.lreturn, 1) := by decide +kernel
theorem own_ef4 (m : MethodId) (r0 : Addr) : entryFrame m #[(.ref r0)] 1 = mkF m 0 #[.val (.ref r0)] [] := by first | (simp [entryFrame, mkF, argsToLocals, Value.category]; done) | rfl
def own_Q4 (Z : State) (r0 : Addr) (w_y : Int64) (h0 : Heap) (n0 : Nat) (v : Option Value) (h : Heap) (L : List Loc) : Prop := (v = some (.long w_y)) ∧ (Fr n0 L) ∧ (h = h0)
set_option maxRecDepth 65536 in
set_option maxHeartbeats 40000000 in
theorem own_rm4 (l : Launch) (Z : State) (a0 : Array Value) (hw : ∀ d ∈ tables_1, d.before a0 Z = true) (ws : List Jvm.Cond) (r0 : Addr) (w_y : Int64) (h0 : Heap) (n0 : Nat) (Z0 : n0 ≤ h0.size) (F_r0_yes : Fld Z h0 r0 "com/example/barnacle/barnacle/cli/Tally" "yes" "J" (.long w_y)) :
    MetFree l (⟨"com/example/barnacle/barnacle/cli/Tally", "yes", "()J"⟩ : MethodName) (head1 (Jvm.Cond.code (⟨"com/example/barnacle/barnacle/cli/Tally", "yes", "()J"⟩ : MethodName) prog_42_method_4_code 1 (some .long) :: ws) ({ frames := 0, cells := 0, slots := 0, locals := 0 } : Room)) (fun a U => a = #[(.ref r0)] ∧ Z.Warmed39 U.vm ∧ U.heap = h0) (fun _ _ _ _ _ => True) (fun _ U o U' => ∃ v L, o = .returned v ∧ own_Q4 Z r0 w_y h0 n0 v U'.heap L ∧ FrameEnd U o U' L ({ frames := 0, cells := 0, slots := 0, locals := 0 } : Room).cells ({ frames := 0, cells := 0, slots := 0, locals := 0 } : Room).slots) := by
  refine MetFree.of_bodySF (plainFor_of_name own_pn0) hisR ?_
  intro p e s m args below meth c s₁ Bd hml0 hP hK
  obtain ⟨rfl, hZ, hh⟩ := hP
  have hx := Bd.exec
  have hby := Bd.bytes
  have hml : c.maxLocals = 1 := hml0
  have hown : s.vm.findClass "com/example/barnacle/barnacle/cli/Tally" = some m.cls := findClass_of_methodNamed Bd.named
  have hnm := (name_of_methodNamed Bd.named Bd.method).1
  have X0 : Stand p l e ({ frames := 0, cells := 0, slots := 0, locals := 0 } : Room) s m #[(.ref r0)] below meth c s₁ [] 0 0 := Stand.of_body Bd
  have e0 : s₁.heap = h0 := by rw [← hh, Bd.state]; rfl
  have N0 := Fr.nil n0
  have pre0 : ∀ t, Steps p.tables e below (s₁.setTop (mkF m 0 #[.val (.ref r0)] [])) t → Steps p.tables e below (s₁.setTop (entryFrame m #[(.ref r0)] 1)) t := fun t k => castTop (own_ef4 m r0) k
  refine own_run (own_st pre0 ?_)
  refine own_st (B := s₁.setTop (mkF m 1 #[.val (.ref r0)] [(.ref r0)])) (fun target kt => ?_) ?_
  · show Steps p.tables e below (s₁.setTop (mkF m 0 #[.val (.ref r0)] [])) target
    refine XS.aloadN X0.here hx rfl (hb hby own_d4_0) rfl rfl ?_
    exact kt
  obtain ⟨Tg1, Xg1, eg1, stg1⟩ := getF X0 hx hZ hown (host := "") (Or.inl (hw _ (List.mem_of_getElem? (i := 14) rfl))) Via.refl e0 F_r0_yes (g := (mkF m 1 #[.val (.ref r0)] [(.ref r0)])) rfl rfl (hb hby own_d4_1)
  refine own_st stg1 ?_
  obtain ⟨fs, hr, hrun, hended, hW, hsame⟩ := Xg1.leave (v := some (.long w_y)) (fun h => by rw [Bd.returns] at h; cases h)
  have hend : Steps p.tables e below (Tg1.setTop (mkF m 4 #[.val (.ref r0)] [(.long w_y)])) (Tg1.setFrames fs) := by
    jvm_step Xg1.here [Xg1.here.top, hx, (hb hby own_d4_4), Xg1.method', Bd.returns, narrow]
    first | (intro acts; rw [hr _ acts rfl rfl rfl]) | rw [hr _ _ rfl rfl rfl]
    exact Steps.refl _
  refine own_fin hend ⟨_, hrun, hended, _, _, rfl, ?_, ⟨_, rfl⟩, hW, hsame.mono (by decide) (by decide)⟩
  show own_Q4 Z r0 w_y h0 n0 _ Tg1.heap _
  rw [eg1]
  exact ⟨(congrArg (fun z => some (Value.long z)) rfl), N0, rfl⟩
theorem own_d5_0 : decode prog_42_method_5_code 0 = .ok (.aload_n 0, 1) := by decide +kernel
theorem own_d5_1 : decode prog_42_method_5_code 1 = .ok (.getfield 13, 3) := by decide +kernel
theorem own_d5_4 : decode prog_42_method_5_code 4 = .ok (.lreturn, 1) := by decide +kernel
theorem own_ef5 (m : MethodId) (r0 : Addr) : entryFrame m #[(.ref r0)] 1 = mkF m 0 #[.val (.ref r0)] [] := by first | (simp [entryFrame, mkF, argsToLocals, Value.category]; done) | rfl
def own_Q5 (Z : State) (r0 : Addr) (w_n : Int64) (h0 : Heap) (n0 : Nat) (v : Option Value) (h : Heap) (L : List Loc) : Prop := (v = some (.long w_n)) ∧ (Fr n0 L) ∧ (h = h0)
set_option maxRecDepth 65536 in
set_option maxHeartbeats 40000000 in
theorem own_rm5 (l : Launch) (Z : State) (a0 : Array Value) (hw : ∀ d ∈ tables_1, d.before a0 Z = true) (ws : List Jvm.Cond) (r0 : Addr) (w_n : Int64) (h0 : Heap) (n0 : Nat) (Z0 : n0 ≤ h0.size) (F_r0_no : Fld Z h0 r0 "com/example/barnacle/barnacle/cli/Tally" "no" "J" (.long w_n)) :
    MetFree l (⟨"com/example/barnacle/barnacle/cli/Tally", "no", "()J"⟩ : MethodName) (head1 (Jvm.Cond.code (⟨"com/example/barnacle/barnacle/cli/Tally", "no", "()J"⟩ : MethodName) prog_42_method_5_code 1 (some .long) :: ws) ({ frames := 0, cells := 0, slots := 0, locals := 0 } : Room)) (fun a U => a = #[(.ref r0)] ∧ Z.Warmed39 U.vm ∧ U.heap = h0) (fun _ _ _ _ _ => True) (fun _ U o U' => ∃ v L, o = .returned v ∧ own_Q5 Z r0 w_n h0 n0 v U'.heap L ∧ FrameEnd U o U' L ({ frames := 0, cells := 0, slots := 0, locals := 0 } : Room).cells ({ frames := 0, cells := 0, slots := 0, locals := 0 } : Room).slots) := by
  refine MetFree.of_bodySF (plainFor_of_name own_pn0) hisR ?_
  intro p e s m args below meth c s₁ Bd hml0 hP hK
  obtain ⟨rfl, hZ, hh⟩ := hP
  have hx := Bd.exec
  have hby := Bd.bytes
  have hml : c.maxLocals = 1 := hml0
  have hown : s.vm.findClass "com/example/barnacle/barnacle/cli/Tally" = some m.cls := findClass_of_methodNamed Bd.named
  have hnm := (name_of_methodNamed Bd.named Bd.method).1
  have X0 : Stand p l e ({ frames := 0, cells := 0, slots := 0, locals := 0 } : Room) s m #[(.ref r0)] below meth c s₁ [] 0 0 := Stand.of_body Bd
  have e0 : s₁.heap = h0 := by rw [← hh, Bd.state]; rfl
  have N0 := Fr.nil n0
  have pre0 : ∀ t, Steps p.tables e below (s₁.setTop (mkF m 0 #[.val (.ref r0)] [])) t → Steps p.tables e below (s₁.setTop (entryFrame m #[(.ref r0)] 1)) t := fun t k => castTop (own_ef5 m r0) k
  refine own_run (own_st pre0 ?_)
  refine own_st (B := s₁.setTop (mkF m 1 #[.val (.ref r0)] [(.ref r0)])) (fun target kt => ?_) ?_
  · show Steps p.tables e below (s₁.setTop (mkF m 0 #[.val (.ref r0)] [])) target
    refine XS.aloadN X0.here hx rfl (hb hby own_d5_0) rfl rfl ?_
    exact kt
  obtain ⟨Tg1, Xg1, eg1, stg1⟩ := getF X0 hx hZ hown (host := "") (Or.inl (hw _ (List.mem_of_getElem? (i := 16) rfl))) Via.refl e0 F_r0_no (g := (mkF m 1 #[.val (.ref r0)] [(.ref r0)])) rfl rfl (hb hby own_d5_1)
  refine own_st stg1 ?_
  obtain ⟨fs, hr, hrun, hended, hW, hsame⟩ := Xg1.leave (v := some (.long w_n)) (fun h => by rw [Bd.returns] at h; cases h)
  have hend : Steps p.tables e below (Tg1.setTop (mkF m 4 #[.val (.ref r0)] [(.long w_n)])) (Tg1.setFrames fs) := by
    jvm_step Xg1.here [Xg1.here.top, hx, (hb hby own_d5_4), Xg1.method', Bd.returns, narrow]
    first | (intro acts; rw [hr _ acts rfl rfl rfl]) | rw [hr _ _ rfl rfl rfl]
    exact Steps.refl _
  refine own_fin hend ⟨_, hrun, hended, _, _, rfl, ?_, ⟨_, rfl⟩, hW, hsame.mono (by decide) (by decide)⟩
  show own_Q5 Z r0 w_n h0 n0 _ Tg1.heap _
  rw [eg1]
  exact ⟨(congrArg (fun z => some (Value.long z)) rfl), N0, rfl⟩
theorem own_pd0 : parseMethodDescriptor "()V" = some ⟨[], none⟩ := by decide +kernel
theorem own_pd1 : parseMethodDescriptor "(ZJ)V" = some ⟨[.boolean, .long], none⟩ := by decide +kernel
theorem own_pd2 : parseMethodDescriptor "()J" = some ⟨[], some .long⟩ := by decide +kernel
theorem own_pd3 : parseMethodDescriptor "(Z)V" = some ⟨[.boolean], none⟩ := by decide +kernel
theorem own_pn1 : plainName "com/example/barnacle/barnacle/cli/TallyCountPinLaw" = true := by first | (simp [plainName, overriddenIn]; done) | decide +kernel
theorem own_ef0 (m : MethodId) (q0 : Int64) (q1 : Int64) (p2 : Int32) : entryFrame m #[(.long q0), (.long q1), (.int p2)] maxLocals = mkF m 0 #[.val (.long q0), .second, .val (.long q1), .second, .val (.int p2), .unset, .unset, .unset, .unset, .unset, .unset, .unset, .unset, .unset, .unset] [] := by first | (simp [entryFrame, mkF, argsToLocals, Value.category, maxLocals]; done) | rfl
def own_Q0 (Z : State) (q0 : Int64) (q1 : Int64) (p2 : Int32) (h0 : Heap) (n0 : Nat) (v : Option Value) (h : Heap) (L : List Loc) : Prop := (v = some (.int (1 : Int32))) ∧ (Fr n0 L)
set_option maxRecDepth 65536 in
set_option maxHeartbeats 40000000 in
theorem own_rm0 (l : Launch) (Z : State) (a0 : Array Value) (hw : ∀ d ∈ tables_1, d.before a0 Z = true) (ws : List Jvm.Cond) (q0 : Int64) (q1 : Int64) (p2 : Int32) (h0 : Heap) (n0 : Nat) (Z0 : n0 ≤ h0.size) :
    MetFree l x (head1 (Jvm.Cond.code x code maxLocals ret :: ws) room_1) (fun a U => a = #[(.long q0), (.long q1), (.int p2)] ∧ Z.Warmed39 U.vm ∧ U.heap = h0) (fun _ _ _ _ _ => True) (fun _ U o U' => ∃ v L, o = .returned v ∧ own_Q0 Z q0 q1 p2 h0 n0 v U'.heap L ∧ FrameEnd U o U' L room_1.cells room_1.slots) := by
  refine MetFree.of_bodySF (plainFor_of_name own_pn1) hisR ?_
  intro p e s m args below meth c s₁ Bd hml0 hP hK
  obtain ⟨rfl, hZ, hh⟩ := hP
  have hx := Bd.exec
  have hby := Bd.bytes
  have hml : c.maxLocals = 15 := hml0
  have hown : s.vm.findClass "com/example/barnacle/barnacle/cli/TallyCountPinLaw" = some m.cls := findClass_of_methodNamed Bd.named
  have hnm := (name_of_methodNamed Bd.named Bd.method).1
  have X0 : Stand p l e room_1 s m #[(.long q0), (.long q1), (.int p2)] below meth c s₁ [] 0 0 := Stand.of_body Bd
  have e0 : s₁.heap = h0 := by rw [← hh, Bd.state]; rfl
  have N0 := Fr.nil n0
  have pre0 : ∀ t, Steps p.tables e below (s₁.setTop (mkF m 0 #[.val (.long q0), .second, .val (.long q1), .second, .val (.int p2), .unset, .unset, .unset, .unset, .unset, .unset, .unset, .unset, .unset, .unset] [])) t → Steps p.tables e below (s₁.setTop (entryFrame m #[(.long q0), (.long q1), (.int p2)] maxLocals)) t := fun t k => castTop (own_ef0 m q0 q1 p2) k
  refine own_run (own_st pre0 ?_)
  refine own_st (B := s₁.setTop (mkF m 4 #[.val (.long q0), .second, .val (.long q1), .second, .val (.int p2), .unset, .unset, .unset, .unset, .unset, .unset, .unset, .unset, .unset, .unset] [(.int (p2 &&& (1 : Int32)))])) (fun target kt => ?_) ?_
  · show Steps p.tables e below (s₁.setTop (mkF m 0 #[.val (.long q0), .second, .val (.long q1), .second, .val (.int p2), .unset, .unset, .unset, .unset, .unset, .unset, .unset, .unset, .unset, .unset] [])) target
    refine XS.iload X0.here hx rfl (hb hby at_0) rfl ?_
    show Steps p.tables e below (s₁.setTop (mkF m 2 #[.val (.long q0), .second, .val (.long q1), .second, .val (.int p2), .unset, .unset, .unset, .unset, .unset, .unset, .unset, .unset, .unset, .unset] [(.int p2)])) target
    refine XS.iconst X0.here hx rfl (hb hby at_2) ?_
    show Steps p.tables e below (s₁.setTop (mkF m 3 #[.val (.long q0), .second, .val (.long q1), .second, .val (.int p2), .unset, .unset, .unset, .unset, .unset, .unset, .unset, .unset, .unset, .unset] [(.int (1 : Int32)), (.int p2)])) target
    refine XS.iand X0.here hx rfl (hb hby at_3) rfl ?_
    exact kt
  obtain ⟨_, ⟨j12_s0, rfl, rfl⟩, st_M12⟩ : own_Lead p.tables e below (s₁.setTop (mkF m 4 #[.val (.long q0), .second, .val (.long q1), .second, .val (.int p2), .unset, .unset, .unset, .unset, .unset, .unset, .unset, .unset, .unset, .unset] [(.int (p2 &&& (1 : Int32)))])) (fun B => ∃ (j12_s0 : Int32), B = s₁.setTop (mkF m 12 #[.val (.long q0), .second, .val (.long q1), .second, .val (.int p2), .unset, .unset, .unset, .unset, .unset, .unset, .unset, .unset, .unset, .unset] [(.int j12_s0)]) ∧ j12_s0 = own_b (¬ ((p2 &&& (1 : Int32)) = (0 : Int32)))) := by
    by_cases c4 : (p2 &&& (1 : Int32)) = (0 : Int32)
    · refine own_st (B := s₁.setTop (mkF m 12 #[.val (.long q0), .second, .val (.long q1), .second, .val (.int p2), .unset, .unset, .unset, .unset, .unset, .unset, .unset, .unset, .unset, .unset] [(.int (0 : Int32))])) (fun target kt => ?_) ?_
      · show Steps p.tables e below (s₁.setTop (mkF m 4 #[.val (.long q0), .second, .val (.long q1), .second, .val (.int p2), .unset, .unset, .unset, .unset, .unset, .unset, .unset, .unset, .unset, .unset] [(.int (p2 &&& (1 : Int32)))])) target
        refine XS.ifYes X0.here hx rfl (pc0 := 4) (pc' := 11) rfl (hb hby at_4) rfl ((if0 _ _).trans (teq c4).1) (by decide) (by decide) ?_
        show Steps p.tables e below (s₁.setTop (mkF m 11 #[.val (.long q0), .second, .val (.long q1), .second, .val (.int p2), .unset, .unset, .unset, .unset, .unset, .unset, .unset, .unset, .unset, .unset] [])) target
        refine XS.iconst X0.here hx rfl (hb hby at_11) ?_
        exact kt
      exact ⟨_, ⟨(0 : Int32), rfl, (own_b0 (fun w => w c4)).symm⟩, fun _ k => k⟩
    · refine own_st (B := s₁.setTop (mkF m 12 #[.val (.long q0), .second, .val (.long q1), .second, .val (.int p2), .unset, .unset, .unset, .unset, .unset, .unset, .unset, .unset, .unset, .unset] [(.int (1 : Int32))])) (fun target kt => ?_) ?_
      · show Steps p.tables e below (s₁.setTop (mkF m 4 #[.val (.long q0), .second, .val (.long q1), .second, .val (.int p2), .unset, .unset, .unset, .unset, .unset, .unset, .unset, .unset, .unset, .unset] [(.int (p2 &&& (1 : Int32)))])) target
        refine XS.ifNo X0.here hx rfl (hb hby at_4) rfl ((if0 _ _).trans (feq c4).1) ?_
        show Steps p.tables e below (s₁.setTop (mkF m 7 #[.val (.long q0), .second, .val (.long q1), .second, .val (.int p2), .unset, .unset, .unset, .unset, .unset, .unset, .unset, .unset, .unset, .unset] [])) target
        refine XS.iconst X0.here hx rfl (hb hby at_7) ?_
        show Steps p.tables e below (s₁.setTop (mkF m 8 #[.val (.long q0), .second, .val (.long q1), .second, .val (.int p2), .unset, .unset, .unset, .unset, .unset, .unset, .unset, .unset, .unset, .unset] [(.int (1 : Int32))])) target
        refine XS.goto X0.here hx rfl (pc0 := 8) (pc' := 12) rfl (hb hby at_8) (by decide) (by decide) ?_
        exact kt
      exact ⟨_, ⟨(1 : Int32), rfl, (own_b1 c4).symm⟩, fun _ k => k⟩
  refine own_st st_M12 ?_
  refine own_st (B := s₁.setTop (mkF m 14 #[.val (.long q0), .second, .val (.long q1), .second, .val (.int p2), .val (.int (own_b (¬ ((p2 &&& (1 : Int32)) = (0 : Int32))))), .unset, .unset, .unset, .unset, .unset, .unset, .unset, .unset, .unset] [])) (fun target kt => ?_) ?_
  · show Steps p.tables e below (s₁.setTop (mkF m 12 #[.val (.long q0), .second, .val (.long q1), .second, .val (.int p2), .unset, .unset, .unset, .unset, .unset, .unset, .unset, .unset, .unset, .unset] [(.int (own_b (¬ ((p2 &&& (1 : Int32)) = (0 : Int32)))))])) target
    refine XS.istore X0.here hx rfl (hb hby at_12) rfl (l' := #[.val (.long q0), .second, .val (.long q1), .second, .val (.int p2), .val (.int (own_b (¬ ((p2 &&& (1 : Int32)) = (0 : Int32))))), .unset, .unset, .unset, .unset, .unset, .unset, .unset, .unset, .unset]) rfl ?_
    exact kt
  obtain ⟨Tg14, hg14, Xg14, eg14, Eg14, Ag14, Dg14, -, stg14⟩ := newO X0 hx hZ hown (hw _ (List.mem_of_getElem? (i := 0) rfl)) (hw _ (List.mem_of_getElem? (i := 1) rfl)) (hw _ (List.mem_of_getElem? (i := 2) rfl)) e0 (g := (mkF m 14 #[.val (.long q0), .second, .val (.long q1), .second, .val (.int p2), .val (.int (own_b (¬ ((p2 &&& (1 : Int32)) = (0 : Int32))))), .unset, .unset, .unset, .unset, .unset, .unset, .unset, .unset, .unset] [])) rfl (hb hby at_14) (by decide) (by decide)
  obtain ⟨b14, gg14⟩ : ∃ z, z = h0.size := ⟨_, rfl⟩
  rw [← gg14] at Ag14 Dg14 stg14
  refine own_st stg14 ?_
  have g_b14 : n0 ≤ b14 := Nat.le_trans Z0 (Nat.le_of_eq gg14.symm)
  have Zz : n0 ≤ hg14.size := Nat.le_trans Z0 Eg14.1
  have F : Fld Z hg14 b14 "com/example/barnacle/barnacle/cli/Tally" "yes" "J" (.long (0 : Int64)) := Dg14 (Or.inl (hw _ (List.mem_of_getElem? (i := 15) rfl))) (ty := .long) (by decide)
  have F_1 : Fld Z hg14 b14 "com/example/barnacle/barnacle/cli/Tally" "no" "J" (.long (0 : Int64)) := Dg14 (Or.inl (hw _ (List.mem_of_getElem? (i := 17) rfl))) (ty := .long) (by decide)
  refine own_st (B := Tg14.setTop (mkF m 18 #[.val (.long q0), .second, .val (.long q1), .second, .val (.int p2), .val (.int (own_b (¬ ((p2 &&& (1 : Int32)) = (0 : Int32))))), .unset, .unset, .unset, .unset, .unset, .unset, .unset, .unset, .unset] [(.ref b14), (.ref b14)])) (fun target kt => ?_) ?_
  · show Steps p.tables e below (Tg14.setTop (mkF m 17 #[.val (.long q0), .second, .val (.long q1), .second, .val (.int p2), .val (.int (own_b (¬ ((p2 &&& (1 : Int32)) = (0 : Int32))))), .unset, .unset, .unset, .unset, .unset, .unset, .unset, .unset, .unset] [(.ref b14)])) target
    refine XS.dup Xg14.here hx rfl (hb hby at_17) rfl rfl ?_
    exact kt
  obtain ⟨_, _, ⟨Tg18, Lg18, kg18, ng18⟩, -, Xg18, ⟨Lcg18, hQg18, lg18, yg18, zg18⟩, stg18⟩ := Xg14.specialBack hx (y := (⟨"com/example/barnacle/barnacle/cli/Tally", "<init>", "()V"⟩ : MethodName)) rfl hown (mvT hZ (hw _ (List.mem_of_getElem? (i := 3) rfl))) (mvT hZ (hw _ (List.mem_of_getElem? (i := 4) rfl))) (mvT hZ (hw _ (List.mem_of_getElem? (i := 5) rfl))) (by decide) (backOf (W := 1) (own_rm1 l Z a0 hw [] b14 hg14 n0 Zz) hZ (hw _ (List.mem_of_getElem? (i := 5) rfl)) (hw _ (List.mem_of_getElem? (i := 2) rfl)) (by decide) (by decide)) (g := (mkF m 18 #[.val (.long q0), .second, .val (.long q1), .second, .val (.int p2), .val (.int (own_b (¬ ((p2 &&& (1 : Int32)) = (0 : Int32))))), .unset, .unset, .unset, .unset, .unset, .unset, .unset, .unset, .unset] [(.ref b14), (.ref b14)])) rfl (by rw [hml]; rfl) (Steps.refl _) (a := b14) (argsL := []) (rest := [(.ref b14)]) (lenOf own_pd0 rfl) rfl (by show 2 * 0 + _ ≤ _; exact Nat.le_of_eq rfl) (hb hby at_18) (fun _ _ => ⟨rfl, eg14, (by decide : 1 + 0 ≤ _), (by decide : 2 + 0 ≤ _)⟩)
  dsimp only [Pt.U, Pt.locs, Pt.cells, Pt.slots] at Xg18 lg18 yg18 zg18 stg18 hQg18
  subst lg18 yg18 zg18
  obtain ⟨rfl, Ng18q, eg18⟩ := hQg18
  have Ng18 := Fr.app N0 Ng18q
  refine own_st (fun _ k => stg18.trans k) ?_
  refine own_st (B := Tg18.setTop (mkF m 27 #[.val (.long q0), .second, .val (.long q1), .second, .val (.int p2), .val (.int (own_b (¬ ((p2 &&& (1 : Int32)) = (0 : Int32))))), .val (.ref b14), .unset, .unset, .unset, .unset, .unset, .unset, .unset, .unset] [(.long q0), (.int (1 : Int32)), (.ref b14)])) (fun target kt => ?_) ?_
  · show Steps p.tables e below (Tg18.setTop (mkF m 21 #[.val (.long q0), .second, .val (.long q1), .second, .val (.int p2), .val (.int (own_b (¬ ((p2 &&& (1 : Int32)) = (0 : Int32))))), .unset, .unset, .unset, .unset, .unset, .unset, .unset, .unset, .unset] [(.ref b14)])) target
    refine XS.astore Xg18.here hx rfl (hb hby at_21) rfl rfl (l' := #[.val (.long q0), .second, .val (.long q1), .second, .val (.int p2), .val (.int (own_b (¬ ((p2 &&& (1 : Int32)) = (0 : Int32))))), .val (.ref b14), .unset, .unset, .unset, .unset, .unset, .unset, .unset, .unset]) rfl ?_
    show Steps p.tables e below (Tg18.setTop (mkF m 23 #[.val (.long q0), .second, .val (.long q1), .second, .val (.int p2), .val (.int (own_b (¬ ((p2 &&& (1 : Int32)) = (0 : Int32))))), .val (.ref b14), .unset, .unset, .unset, .unset, .unset, .unset, .unset, .unset] [])) target
    refine XS.aload Xg18.here hx rfl (hb hby at_23) rfl rfl ?_
    show Steps p.tables e below (Tg18.setTop (mkF m 25 #[.val (.long q0), .second, .val (.long q1), .second, .val (.int p2), .val (.int (own_b (¬ ((p2 &&& (1 : Int32)) = (0 : Int32))))), .val (.ref b14), .unset, .unset, .unset, .unset, .unset, .unset, .unset, .unset] [(.ref b14)])) target
    refine XS.iconst Xg18.here hx rfl (hb hby at_25) ?_
    show Steps p.tables e below (Tg18.setTop (mkF m 26 #[.val (.long q0), .second, .val (.long q1), .second, .val (.int p2), .val (.int (own_b (¬ ((p2 &&& (1 : Int32)) = (0 : Int32))))), .val (.ref b14), .unset, .unset, .unset, .unset, .unset, .unset, .unset, .unset] [(.int (1 : Int32)), (.ref b14)])) target
    refine XS.lloadN Xg18.here hx rfl (hb hby at_26) rfl ?_
    exact kt
  obtain ⟨cqg27, kqg27, qg27a, qg27b, qg27c⟩ := isOf hZ eg18 Ag14
  obtain ⟨_, _, ⟨Tg27, Lg27, kg27, ng27⟩, -, Xg27, ⟨Lcg27, hQg27, lg27, yg27, zg27⟩, stg27⟩ := Xg18.virtualBack hx (y := (⟨"com/example/barnacle/barnacle/cli/Tally", "count", "(ZJ)V"⟩ : MethodName)) (z := (⟨"com/example/barnacle/barnacle/cli/Tally", "count", "(ZJ)V"⟩ : MethodName)) hown (mvT hZ (hw _ (List.mem_of_getElem? (i := 9) rfl))) (mvT hZ (hw _ (List.mem_of_getElem? (i := 10) rfl))) (notFace_of_selects (args := #[]) (mvT hZ (hw _ (List.mem_of_getElem? (i := 12) rfl)))) (mvT hZ (hw _ (List.mem_of_getElem? (i := 12) rfl))) (mvT hZ (hw _ (List.mem_of_getElem? (i := 11) rfl))) (by decide) (backOf (W := 0) (own_rm3 l Z a0 hw [] b14 (True) q0 (0 : Int64) (0 : Int64) hg14 n0 Zz Ag14 F F_1 g_b14) hZ (hw _ (List.mem_of_getElem? (i := 13) rfl)) (hw _ (List.mem_of_getElem? (i := 2) rfl)) (by decide) (by decide)) qg27a qg27c (g := (mkF m 27 #[.val (.long q0), .second, .val (.long q1), .second, .val (.int p2), .val (.int (own_b (¬ ((p2 &&& (1 : Int32)) = (0 : Int32))))), .val (.ref b14), .unset, .unset, .unset, .unset, .unset, .unset, .unset, .unset] [(.long q0), (.int (1 : Int32)), (.ref b14)])) rfl (by rw [hml]; rfl) (Steps.refl _) (argsL := [(.int (1 : Int32)), (.long q0)]) (rest := []) (lenOf own_pd1 rfl) rfl (by show 2 * 0 + _ ≤ _; exact Nat.le_of_eq rfl) (hb hby at_27) (fun _ _ => ⟨rfl, eg18, (by decide : 1 + 0 ≤ _), (by decide : 2 + 0 ≤ _)⟩)
  dsimp only [Pt.U, Pt.locs, Pt.cells, Pt.slots] at Xg27 lg27 yg27 zg27 stg27 hQg27
  subst lg27 yg27 zg27
  obtain ⟨rfl, Ng27q, Kg27, F_2, F_3, F_4⟩ := hQg27
  have Zz_1 : n0 ≤ Tg27.heap.size := Nat.le_trans Zz Kg27.1
  obtain ⟨w27_yes, hw27_yes⟩ : ∃ z : Int64, z = (if (True) then ((0 : Int64) + q0) else (0 : Int64)) := ⟨_, rfl⟩
  have F_5 : Fld Z Tg27.heap b14 "com/example/barnacle/barnacle/cli/Tally" "yes" "J" (.long w27_yes) := by subst hw27_yes; exact F_3
  obtain ⟨w27_no, hw27_no⟩ : ∃ z : Int64, z = (if (True) then (0 : Int64) else ((0 : Int64) + q0)) := ⟨_, rfl⟩
  have F_6 : Fld Z Tg27.heap b14 "com/example/barnacle/barnacle/cli/Tally" "no" "J" (.long w27_no) := by subst hw27_no; exact F_4
  have Ng27 := Fr.app Ng18 Ng27q
  refine own_st (fun _ k => stg27.trans k) ?_
  refine own_st (B := Tg27.setTop (mkF m 34 #[.val (.long q0), .second, .val (.long q1), .second, .val (.int p2), .val (.int (own_b (¬ ((p2 &&& (1 : Int32)) = (0 : Int32))))), .val (.ref b14), .unset, .unset, .unset, .unset, .unset, .unset, .unset, .unset] [(.long q1), (.int (0 : Int32)), (.ref b14)])) (fun target kt => ?_) ?_
  · show Steps p.tables e below (Tg27.setTop (mkF m 30 #[.val (.long q0), .second, .val (.long q1), .second, .val (.int p2), .val (.int (own_b (¬ ((p2 &&& (1 : Int32)) = (0 : Int32))))), .val (.ref b14), .unset, .unset, .unset, .unset, .unset, .unset, .unset, .unset] [])) target
    refine XS.aload Xg27.here hx rfl (hb hby at_30) rfl rfl ?_
    show Steps p.tables e below (Tg27.setTop (mkF m 32 #[.val (.long q0), .second, .val (.long q1), .second, .val (.int p2), .val (.int (own_b (¬ ((p2 &&& (1 : Int32)) = (0 : Int32))))), .val (.ref b14), .unset, .unset, .unset, .unset, .unset, .unset, .unset, .unset] [(.ref b14)])) target
    refine XS.iconst Xg27.here hx rfl (hb hby at_32) ?_
    show Steps p.tables e below (Tg27.setTop (mkF m 33 #[.val (.long q0), .second, .val (.long q1), .second, .val (.int p2), .val (.int (own_b (¬ ((p2 &&& (1 : Int32)) = (0 : Int32))))), .val (.ref b14), .unset, .unset, .unset, .unset, .unset, .unset, .unset, .unset] [(.int (0 : Int32)), (.ref b14)])) target
    refine XS.lloadN Xg27.here hx rfl (hb hby at_33) rfl ?_
    exact kt
  obtain ⟨cqg34, kqg34, qg34a, qg34b, qg34c⟩ := isOf hZ rfl F_2
  obtain ⟨_, _, ⟨Tg34, Lg34, kg34, ng34⟩, -, Xg34, ⟨Lcg34, hQg34, lg34, yg34, zg34⟩, stg34⟩ := Xg27.virtualBack hx (y := (⟨"com/example/barnacle/barnacle/cli/Tally", "count", "(ZJ)V"⟩ : MethodName)) (z := (⟨"com/example/barnacle/barnacle/cli/Tally", "count", "(ZJ)V"⟩ : MethodName)) hown (mvT hZ (hw _ (List.mem_of_getElem? (i := 9) rfl))) (mvT hZ (hw _ (List.mem_of_getElem? (i := 10) rfl))) (notFace_of_selects (args := #[]) (mvT hZ (hw _ (List.mem_of_getElem? (i := 12) rfl)))) (mvT hZ (hw _ (List.mem_of_getElem? (i := 12) rfl))) (mvT hZ (hw _ (List.mem_of_getElem? (i := 11) rfl))) (by decide) (backOf (W := 0) (own_rm3 l Z a0 hw [] b14 (False) q1 w27_yes w27_no Tg27.heap n0 Zz_1 F_2 F_5 F_6 g_b14) hZ (hw _ (List.mem_of_getElem? (i := 13) rfl)) (hw _ (List.mem_of_getElem? (i := 2) rfl)) (by decide) (by decide)) qg34a qg34c (g := (mkF m 34 #[.val (.long q0), .second, .val (.long q1), .second, .val (.int p2), .val (.int (own_b (¬ ((p2 &&& (1 : Int32)) = (0 : Int32))))), .val (.ref b14), .unset, .unset, .unset, .unset, .unset, .unset, .unset, .unset] [(.long q1), (.int (0 : Int32)), (.ref b14)])) rfl (by rw [hml]; rfl) (Steps.refl _) (argsL := [(.int (0 : Int32)), (.long q1)]) (rest := []) (lenOf own_pd1 rfl) rfl (by show 2 * 0 + _ ≤ _; exact Nat.le_of_eq rfl) (hb hby at_34) (fun _ _ => ⟨rfl, rfl, (by decide : 1 + 0 ≤ _), (by decide : 2 + 0 ≤ _)⟩)
  dsimp only [Pt.U, Pt.locs, Pt.cells, Pt.slots] at Xg34 lg34 yg34 zg34 stg34 hQg34
  subst lg34 yg34 zg34
  obtain ⟨rfl, Ng34q, Kg34, F_7, F_8, F_9⟩ := hQg34
  have Zz_2 : n0 ≤ Tg34.heap.size := Nat.le_trans Zz_1 Kg34.1
  obtain ⟨w34_yes, hw34_yes⟩ : ∃ z : Int64, z = (if (False) then (w27_yes + q1) else w27_yes) := ⟨_, rfl⟩
  have F_10 : Fld Z Tg34.heap b14 "com/example/barnacle/barnacle/cli/Tally" "yes" "J" (.long w34_yes) := by subst hw34_yes; exact F_8
  obtain ⟨w34_no, hw34_no⟩ : ∃ z : Int64, z = (if (False) then w27_no else (w27_no + q1)) := ⟨_, rfl⟩
  have F_11 : Fld Z Tg34.heap b14 "com/example/barnacle/barnacle/cli/Tally" "no" "J" (.long w34_no) := by subst hw34_no; exact F_9
  have Ng34 := Fr.app Ng27 Ng34q
  refine own_st (fun _ k => stg34.trans k) ?_
  refine own_st (B := Tg34.setTop (mkF m 39 #[.val (.long q0), .second, .val (.long q1), .second, .val (.int p2), .val (.int (own_b (¬ ((p2 &&& (1 : Int32)) = (0 : Int32))))), .val (.ref b14), .unset, .unset, .unset, .unset, .unset, .unset, .unset, .unset] [(.ref b14)])) (fun target kt => ?_) ?_
  · show Steps p.tables e below (Tg34.setTop (mkF m 37 #[.val (.long q0), .second, .val (.long q1), .second, .val (.int p2), .val (.int (own_b (¬ ((p2 &&& (1 : Int32)) = (0 : Int32))))), .val (.ref b14), .unset, .unset, .unset, .unset, .unset, .unset, .unset, .unset] [])) target
    refine XS.aload Xg34.here hx rfl (hb hby at_37) rfl rfl ?_
    exact kt
  obtain ⟨cqg39, kqg39, qg39a, qg39b, qg39c⟩ := isOf hZ rfl F_7
  obtain ⟨_, _, ⟨Tg39, Lg39, kg39, ng39⟩, -, Xg39, ⟨Lcg39, hQg39, lg39, yg39, zg39⟩, stg39⟩ := Xg34.virtualBack hx (y := (⟨"com/example/barnacle/barnacle/cli/Tally", "yes", "()J"⟩ : MethodName)) (z := (⟨"com/example/barnacle/barnacle/cli/Tally", "yes", "()J"⟩ : MethodName)) hown (mvT hZ (hw _ (List.mem_of_getElem? (i := 18) rfl))) (mvT hZ (hw _ (List.mem_of_getElem? (i := 19) rfl))) (notFace_of_selects (args := #[]) (mvT hZ (hw _ (List.mem_of_getElem? (i := 21) rfl)))) (mvT hZ (hw _ (List.mem_of_getElem? (i := 21) rfl))) (mvT hZ (hw _ (List.mem_of_getElem? (i := 20) rfl))) (by decide) (backOf (W := 0) (own_rm4 l Z a0 hw [] b14 w34_yes Tg34.heap n0 Zz_2 F_10) hZ (hw _ (List.mem_of_getElem? (i := 22) rfl)) (hw _ (List.mem_of_getElem? (i := 2) rfl)) (by decide) (by decide)) qg39a qg39c (g := (mkF m 39 #[.val (.long q0), .second, .val (.long q1), .second, .val (.int p2), .val (.int (own_b (¬ ((p2 &&& (1 : Int32)) = (0 : Int32))))), .val (.ref b14), .unset, .unset, .unset, .unset, .unset, .unset, .unset, .unset] [(.ref b14)])) rfl (by rw [hml]; rfl) (Steps.refl _) (argsL := []) (rest := []) (lenOf own_pd2 rfl) rfl (by show 2 * 0 + _ ≤ _; exact Nat.le_of_eq rfl) (hb hby at_39) (fun _ _ => ⟨rfl, rfl, (by decide : 1 + 0 ≤ _), (by decide : 2 + 0 ≤ _)⟩)
  dsimp only [Pt.U, Pt.locs, Pt.cells, Pt.slots] at Xg39 lg39 yg39 zg39 stg39 hQg39
  subst lg39 yg39 zg39
  obtain ⟨rfl, Ng39q, eg39⟩ := hQg39
  have Ng39 := Fr.app Ng34 Ng39q
  refine own_st (fun _ k => stg39.trans k) ?_
  refine own_st (B := Tg39.setTop (mkF m 46 #[.val (.long q0), .second, .val (.long q1), .second, .val (.int p2), .val (.int (own_b (¬ ((p2 &&& (1 : Int32)) = (0 : Int32))))), .val (.ref b14), .val (.long w34_yes), .second, .unset, .unset, .unset, .unset, .unset, .unset] [(.ref b14)])) (fun target kt => ?_) ?_
  · show Steps p.tables e below (Tg39.setTop (mkF m 42 #[.val (.long q0), .second, .val (.long q1), .second, .val (.int p2), .val (.int (own_b (¬ ((p2 &&& (1 : Int32)) = (0 : Int32))))), .val (.ref b14), .unset, .unset, .unset, .unset, .unset, .unset, .unset, .unset] [(.long w34_yes)])) target
    refine XS.lstore Xg39.here hx rfl (hb hby at_42) rfl (l' := #[.val (.long q0), .second, .val (.long q1), .second, .val (.int p2), .val (.int (own_b (¬ ((p2 &&& (1 : Int32)) = (0 : Int32))))), .val (.ref b14), .val (.long w34_yes), .second, .unset, .unset, .unset, .unset, .unset, .unset]) rfl ?_
    show Steps p.tables e below (Tg39.setTop (mkF m 44 #[.val (.long q0), .second, .val (.long q1), .second, .val (.int p2), .val (.int (own_b (¬ ((p2 &&& (1 : Int32)) = (0 : Int32))))), .val (.ref b14), .val (.long w34_yes), .second, .unset, .unset, .unset, .unset, .unset, .unset] [])) target
    refine XS.aload Xg39.here hx rfl (hb hby at_44) rfl rfl ?_
    exact kt
  obtain ⟨cqg46, kqg46, qg46a, qg46b, qg46c⟩ := isOf hZ eg39 F_7
  obtain ⟨_, _, ⟨Tg46, Lg46, kg46, ng46⟩, -, Xg46, ⟨Lcg46, hQg46, lg46, yg46, zg46⟩, stg46⟩ := Xg39.virtualBack hx (y := (⟨"com/example/barnacle/barnacle/cli/Tally", "no", "()J"⟩ : MethodName)) (z := (⟨"com/example/barnacle/barnacle/cli/Tally", "no", "()J"⟩ : MethodName)) hown (mvT hZ (hw _ (List.mem_of_getElem? (i := 23) rfl))) (mvT hZ (hw _ (List.mem_of_getElem? (i := 24) rfl))) (notFace_of_selects (args := #[]) (mvT hZ (hw _ (List.mem_of_getElem? (i := 26) rfl)))) (mvT hZ (hw _ (List.mem_of_getElem? (i := 26) rfl))) (mvT hZ (hw _ (List.mem_of_getElem? (i := 25) rfl))) (by decide) (backOf (W := 0) (own_rm5 l Z a0 hw [] b14 w34_no Tg34.heap n0 Zz_2 F_11) hZ (hw _ (List.mem_of_getElem? (i := 27) rfl)) (hw _ (List.mem_of_getElem? (i := 2) rfl)) (by decide) (by decide)) qg46a qg46c (g := (mkF m 46 #[.val (.long q0), .second, .val (.long q1), .second, .val (.int p2), .val (.int (own_b (¬ ((p2 &&& (1 : Int32)) = (0 : Int32))))), .val (.ref b14), .val (.long w34_yes), .second, .unset, .unset, .unset, .unset, .unset, .unset] [(.ref b14)])) rfl (by rw [hml]; rfl) (Steps.refl _) (argsL := []) (rest := []) (lenOf own_pd2 rfl) rfl (by show 2 * 0 + _ ≤ _; exact Nat.le_of_eq rfl) (hb hby at_46) (fun _ _ => ⟨rfl, eg39, (by decide : 1 + 0 ≤ _), (by decide : 2 + 0 ≤ _)⟩)
  dsimp only [Pt.U, Pt.locs, Pt.cells, Pt.slots] at Xg46 lg46 yg46 zg46 stg46 hQg46
  subst lg46 yg46 zg46
  obtain ⟨rfl, Ng46q, eg46⟩ := hQg46
  have Ng46 := Fr.app Ng39 Ng46q
  refine own_st (fun _ k => stg46.trans k) ?_
  refine own_st (B := Tg46.setTop (mkF m 55 #[.val (.long q0), .second, .val (.long q1), .second, .val (.int p2), .val (.int (own_b (¬ ((p2 &&& (1 : Int32)) = (0 : Int32))))), .val (.ref b14), .val (.long w34_yes), .second, .val (.long w34_no), .second, .unset, .unset, .unset, .unset] [(.int (own_b (¬ ((p2 &&& (1 : Int32)) = (0 : Int32))))), (.ref b14)])) (fun target kt => ?_) ?_
  · show Steps p.tables e below (Tg46.setTop (mkF m 49 #[.val (.long q0), .second, .val (.long q1), .second, .val (.int p2), .val (.int (own_b (¬ ((p2 &&& (1 : Int32)) = (0 : Int32))))), .val (.ref b14), .val (.long w34_yes), .second, .unset, .unset, .unset, .unset, .unset, .unset] [(.long w34_no)])) target
    refine XS.lstore Xg46.here hx rfl (hb hby at_49) rfl (l' := #[.val (.long q0), .second, .val (.long q1), .second, .val (.int p2), .val (.int (own_b (¬ ((p2 &&& (1 : Int32)) = (0 : Int32))))), .val (.ref b14), .val (.long w34_yes), .second, .val (.long w34_no), .second, .unset, .unset, .unset, .unset]) rfl ?_
    show Steps p.tables e below (Tg46.setTop (mkF m 51 #[.val (.long q0), .second, .val (.long q1), .second, .val (.int p2), .val (.int (own_b (¬ ((p2 &&& (1 : Int32)) = (0 : Int32))))), .val (.ref b14), .val (.long w34_yes), .second, .val (.long w34_no), .second, .unset, .unset, .unset, .unset] [])) target
    refine XS.aload Xg46.here hx rfl (hb hby at_51) rfl rfl ?_
    show Steps p.tables e below (Tg46.setTop (mkF m 53 #[.val (.long q0), .second, .val (.long q1), .second, .val (.int p2), .val (.int (own_b (¬ ((p2 &&& (1 : Int32)) = (0 : Int32))))), .val (.ref b14), .val (.long w34_yes), .second, .val (.long w34_no), .second, .unset, .unset, .unset, .unset] [(.ref b14)])) target
    refine XS.iload Xg46.here hx rfl (hb hby at_53) rfl ?_
    exact kt
  obtain ⟨cqg55, kqg55, qg55a, qg55b, qg55c⟩ := isOf hZ eg46 F_7
  obtain ⟨_, _, ⟨Tg55, Lg55, kg55, ng55⟩, -, Xg55, ⟨Lcg55, hQg55, lg55, yg55, zg55⟩, stg55⟩ := Xg46.virtualBack hx (y := (⟨"com/example/barnacle/barnacle/cli/Tally", "count", "(Z)V"⟩ : MethodName)) (z := (⟨"com/example/barnacle/barnacle/cli/Tally", "count", "(Z)V"⟩ : MethodName)) hown (mvT hZ (hw _ (List.mem_of_getElem? (i := 28) rfl))) (mvT hZ (hw _ (List.mem_of_getElem? (i := 29) rfl))) (notFace_of_selects (args := #[]) (mvT hZ (hw _ (List.mem_of_getElem? (i := 31) rfl)))) (mvT hZ (hw _ (List.mem_of_getElem? (i := 31) rfl))) (mvT hZ (hw _ (List.mem_of_getElem? (i := 30) rfl))) (by decide) (backOf (W := 0) (own_rm6 l Z a0 hw [] b14 (¬ ((p2 &&& (1 : Int32)) = (0 : Int32))) w34_yes w34_no Tg34.heap n0 Zz_2 F_7 F_10 F_11 g_b14) hZ (hw _ (List.mem_of_getElem? (i := 32) rfl)) (hw _ (List.mem_of_getElem? (i := 2) rfl)) (by decide) (by decide)) qg55a qg55c (g := (mkF m 55 #[.val (.long q0), .second, .val (.long q1), .second, .val (.int p2), .val (.int (own_b (¬ ((p2 &&& (1 : Int32)) = (0 : Int32))))), .val (.ref b14), .val (.long w34_yes), .second, .val (.long w34_no), .second, .unset, .unset, .unset, .unset] [(.int (own_b (¬ ((p2 &&& (1 : Int32)) = (0 : Int32))))), (.ref b14)])) rfl (by rw [hml]; rfl) (Steps.refl _) (argsL := [(.int (own_b (¬ ((p2 &&& (1 : Int32)) = (0 : Int32)))))]) (rest := []) (lenOf own_pd3 rfl) rfl (by show 2 * 0 + _ ≤ _; exact Nat.le_of_eq rfl) (hb hby at_55) (fun _ _ => ⟨rfl, eg46, (by decide : 1 + 0 ≤ _), (by decide : 2 + 0 ≤ _)⟩)
  dsimp only [Pt.U, Pt.locs, Pt.cells, Pt.slots] at Xg55 lg55 yg55 zg55 stg55 hQg55
  subst lg55 yg55 zg55
  obtain ⟨rfl, Ng55q, Kg55, F_12, F_13, F_14⟩ := hQg55
  have Zz_3 : n0 ≤ Tg55.heap.size := Nat.le_trans Zz_2 Kg55.1
  obtain ⟨w55_yes, hw55_yes⟩ : ∃ z : Int64, z = (if (¬ ((p2 &&& (1 : Int32)) = (0 : Int32))) then (w34_yes + (1 : Int64)) else w34_yes) := ⟨_, rfl⟩
  have F_15 : Fld Z Tg55.heap b14 "com/example/barnacle/barnacle/cli/Tally" "yes" "J" (.long w55_yes) := by subst hw55_yes; exact F_13
  obtain ⟨w55_no, hw55_no⟩ : ∃ z : Int64, z = (if (¬ ((p2 &&& (1 : Int32)) = (0 : Int32))) then w34_no else (w34_no + (1 : Int64))) := ⟨_, rfl⟩
  have F_16 : Fld Z Tg55.heap b14 "com/example/barnacle/barnacle/cli/Tally" "no" "J" (.long w55_no) := by subst hw55_no; exact F_14
  have Ng55 := Fr.app Ng46 Ng55q
  refine own_st (fun _ k => stg55.trans k) ?_
  refine own_st (B := Tg55.setTop (mkF m 60 #[.val (.long q0), .second, .val (.long q1), .second, .val (.int p2), .val (.int (own_b (¬ ((p2 &&& (1 : Int32)) = (0 : Int32))))), .val (.ref b14), .val (.long w34_yes), .second, .val (.long w34_no), .second, .unset, .unset, .unset, .unset] [(.ref b14)])) (fun target kt => ?_) ?_
  · show Steps p.tables e below (Tg55.setTop (mkF m 58 #[.val (.long q0), .second, .val (.long q1), .second, .val (.int p2), .val (.int (own_b (¬ ((p2 &&& (1 : Int32)) = (0 : Int32))))), .val (.ref b14), .val (.long w34_yes), .second, .val (.long w34_no), .second, .unset, .unset, .unset, .unset] [])) target
    refine XS.aload Xg55.here hx rfl (hb hby at_58) rfl rfl ?_
    exact kt
  obtain ⟨cqg60, kqg60, qg60a, qg60b, qg60c⟩ := isOf hZ rfl F_12
  obtain ⟨_, _, ⟨Tg60, Lg60, kg60, ng60⟩, -, Xg60, ⟨Lcg60, hQg60, lg60, yg60, zg60⟩, stg60⟩ := Xg55.virtualBack hx (y := (⟨"com/example/barnacle/barnacle/cli/Tally", "yes", "()J"⟩ : MethodName)) (z := (⟨"com/example/barnacle/barnacle/cli/Tally", "yes", "()J"⟩ : MethodName)) hown (mvT hZ (hw _ (List.mem_of_getElem? (i := 18) rfl))) (mvT hZ (hw _ (List.mem_of_getElem? (i := 19) rfl))) (notFace_of_selects (args := #[]) (mvT hZ (hw _ (List.mem_of_getElem? (i := 21) rfl)))) (mvT hZ (hw _ (List.mem_of_getElem? (i := 21) rfl))) (mvT hZ (hw _ (List.mem_of_getElem? (i := 20) rfl))) (by decide) (backOf (W := 0) (own_rm4 l Z a0 hw [] b14 w55_yes Tg55.heap n0 Zz_3 F_15) hZ (hw _ (List.mem_of_getElem? (i := 22) rfl)) (hw _ (List.mem_of_getElem? (i := 2) rfl)) (by decide) (by decide)) qg60a qg60c (g := (mkF m 60 #[.val (.long q0), .second, .val (.long q1), .second, .val (.int p2), .val (.int (own_b (¬ ((p2 &&& (1 : Int32)) = (0 : Int32))))), .val (.ref b14), .val (.long w34_yes), .second, .val (.long w34_no), .second, .unset, .unset, .unset, .unset] [(.ref b14)])) rfl (by rw [hml]; rfl) (Steps.refl _) (argsL := []) (rest := []) (lenOf own_pd2 rfl) rfl (by show 2 * 0 + _ ≤ _; exact Nat.le_of_eq rfl) (hb hby at_60) (fun _ _ => ⟨rfl, rfl, (by decide : 1 + 0 ≤ _), (by decide : 2 + 0 ≤ _)⟩)
  dsimp only [Pt.U, Pt.locs, Pt.cells, Pt.slots] at Xg60 lg60 yg60 zg60 stg60 hQg60
  subst lg60 yg60 zg60
  obtain ⟨rfl, Ng60q, eg60⟩ := hQg60
  have Ng60 := Fr.app Ng55 Ng60q
  refine own_st (fun _ k => stg60.trans k) ?_
  refine own_st (B := Tg60.setTop (mkF m 67 #[.val (.long q0), .second, .val (.long q1), .second, .val (.int p2), .val (.int (own_b (¬ ((p2 &&& (1 : Int32)) = (0 : Int32))))), .val (.ref b14), .val (.long w34_yes), .second, .val (.long w34_no), .second, .val (.long w55_yes), .second, .unset, .unset] [(.ref b14)])) (fun target kt => ?_) ?_
  · show Steps p.tables e below (Tg60.setTop (mkF m 63 #[.val (.long q0), .second, .val (.long q1), .second, .val (.int p2), .val (.int (own_b (¬ ((p2 &&& (1 : Int32)) = (0 : Int32))))), .val (.ref b14), .val (.long w34_yes), .second, .val (.long w34_no), .second, .unset, .unset, .unset, .unset] [(.long w55_yes)])) target
    refine XS.lstore Xg60.here hx rfl (hb hby at_63) rfl (l' := #[.val (.long q0), .second, .val (.long q1), .second, .val (.int p2), .val (.int (own_b (¬ ((p2 &&& (1 : Int32)) = (0 : Int32))))), .val (.ref b14), .val (.long w34_yes), .second, .val (.long w34_no), .second, .val (.long w55_yes), .second, .unset, .unset]) rfl ?_
    show Steps p.tables e below (Tg60.setTop (mkF m 65 #[.val (.long q0), .second, .val (.long q1), .second, .val (.int p2), .val (.int (own_b (¬ ((p2 &&& (1 : Int32)) = (0 : Int32))))), .val (.ref b14), .val (.long w34_yes), .second, .val (.long w34_no), .second, .val (.long w55_yes), .second, .unset, .unset] [])) target
    refine XS.aload Xg60.here hx rfl (hb hby at_65) rfl rfl ?_
    exact kt
  obtain ⟨cqg67, kqg67, qg67a, qg67b, qg67c⟩ := isOf hZ eg60 F_12
  obtain ⟨_, _, ⟨Tg67, Lg67, kg67, ng67⟩, -, Xg67, ⟨Lcg67, hQg67, lg67, yg67, zg67⟩, stg67⟩ := Xg60.virtualBack hx (y := (⟨"com/example/barnacle/barnacle/cli/Tally", "no", "()J"⟩ : MethodName)) (z := (⟨"com/example/barnacle/barnacle/cli/Tally", "no", "()J"⟩ : MethodName)) hown (mvT hZ (hw _ (List.mem_of_getElem? (i := 23) rfl))) (mvT hZ (hw _ (List.mem_of_getElem? (i := 24) rfl))) (notFace_of_selects (args := #[]) (mvT hZ (hw _ (List.mem_of_getElem? (i := 26) rfl)))) (mvT hZ (hw _ (List.mem_of_getElem? (i := 26) rfl))) (mvT hZ (hw _ (List.mem_of_getElem? (i := 25) rfl))) (by decide) (backOf (W := 0) (own_rm5 l Z a0 hw [] b14 w55_no Tg55.heap n0 Zz_3 F_16) hZ (hw _ (List.mem_of_getElem? (i := 27) rfl)) (hw _ (List.mem_of_getElem? (i := 2) rfl)) (by decide) (by decide)) qg67a qg67c (g := (mkF m 67 #[.val (.long q0), .second, .val (.long q1), .second, .val (.int p2), .val (.int (own_b (¬ ((p2 &&& (1 : Int32)) = (0 : Int32))))), .val (.ref b14), .val (.long w34_yes), .second, .val (.long w34_no), .second, .val (.long w55_yes), .second, .unset, .unset] [(.ref b14)])) rfl (by rw [hml]; rfl) (Steps.refl _) (argsL := []) (rest := []) (lenOf own_pd2 rfl) rfl (by show 2 * 0 + _ ≤ _; exact Nat.le_of_eq rfl) (hb hby at_67) (fun _ _ => ⟨rfl, eg60, (by decide : 1 + 0 ≤ _), (by decide : 2 + 0 ≤ _)⟩)
  dsimp only [Pt.U, Pt.locs, Pt.cells, Pt.slots] at Xg67 lg67 yg67 zg67 stg67 hQg67
  subst lg67 yg67 zg67
  obtain ⟨rfl, Ng67q, eg67⟩ := hQg67
  have Ng67 := Fr.app Ng60 Ng67q
  refine own_st (fun _ k => stg67.trans k) ?_
  refine own_st (B := Tg67.setTop (mkF m 74 #[.val (.long q0), .second, .val (.long q1), .second, .val (.int p2), .val (.int (own_b (¬ ((p2 &&& (1 : Int32)) = (0 : Int32))))), .val (.ref b14), .val (.long w34_yes), .second, .val (.long w34_no), .second, .val (.long w55_yes), .second, .val (.long w55_no), .second] [(.int (own_b (¬ ((p2 &&& (1 : Int32)) = (0 : Int32)))))])) (fun target kt => ?_) ?_
  · show Steps p.tables e below (Tg67.setTop (mkF m 70 #[.val (.long q0), .second, .val (.long q1), .second, .val (.int p2), .val (.int (own_b (¬ ((p2 &&& (1 : Int32)) = (0 : Int32))))), .val (.ref b14), .val (.long w34_yes), .second, .val (.long w34_no), .second, .val (.long w55_yes), .second, .unset, .unset] [(.long w55_no)])) target
    refine XS.lstore Xg67.here hx rfl (hb hby at_70) rfl (l' := #[.val (.long q0), .second, .val (.long q1), .second, .val (.int p2), .val (.int (own_b (¬ ((p2 &&& (1 : Int32)) = (0 : Int32))))), .val (.ref b14), .val (.long w34_yes), .second, .val (.long w34_no), .second, .val (.long w55_yes), .second, .val (.long w55_no), .second]) rfl ?_
    show Steps p.tables e below (Tg67.setTop (mkF m 72 #[.val (.long q0), .second, .val (.long q1), .second, .val (.int p2), .val (.int (own_b (¬ ((p2 &&& (1 : Int32)) = (0 : Int32))))), .val (.ref b14), .val (.long w34_yes), .second, .val (.long w34_no), .second, .val (.long w55_yes), .second, .val (.long w55_no), .second] [])) target
    refine XS.iload Xg67.here hx rfl (hb hby at_72) rfl ?_
    exact kt
  by_cases c74 : ¬ ((p2 &&& (1 : Int32)) = (0 : Int32))
  · refine own_st (B := Tg67.setTop (mkF m 84 #[.val (.long q0), .second, .val (.long q1), .second, .val (.int p2), .val (.int (own_b (¬ ((p2 &&& (1 : Int32)) = (0 : Int32))))), .val (.ref b14), .val (.long w34_yes), .second, .val (.long w34_no), .second, .val (.long w55_yes), .second, .val (.long w55_no), .second] [(.int (lcmpW w55_yes (w34_yes + (1 : Int64))))])) (fun target kt => ?_) ?_
    · show Steps p.tables e below (Tg67.setTop (mkF m 74 #[.val (.long q0), .second, .val (.long q1), .second, .val (.int p2), .val (.int (own_b (¬ ((p2 &&& (1 : Int32)) = (0 : Int32))))), .val (.ref b14), .val (.long w34_yes), .second, .val (.long w34_no), .second, .val (.long w55_yes), .second, .val (.long w55_no), .second] [(.int (own_b (¬ ((p2 &&& (1 : Int32)) = (0 : Int32)))))])) target
      refine XS.ifNo Xg67.here hx rfl (hb hby at_74) rfl ((if0 _ _).trans (feq (own_bn0 rfl c74)).1) ?_
      show Steps p.tables e below (Tg67.setTop (mkF m 77 #[.val (.long q0), .second, .val (.long q1), .second, .val (.int p2), .val (.int (own_b (¬ ((p2 &&& (1 : Int32)) = (0 : Int32))))), .val (.ref b14), .val (.long w34_yes), .second, .val (.long w34_no), .second, .val (.long w55_yes), .second, .val (.long w55_no), .second] [])) target
      refine XS.lload Xg67.here hx rfl (hb hby at_77) rfl ?_
      show Steps p.tables e below (Tg67.setTop (mkF m 79 #[.val (.long q0), .second, .val (.long q1), .second, .val (.int p2), .val (.int (own_b (¬ ((p2 &&& (1 : Int32)) = (0 : Int32))))), .val (.ref b14), .val (.long w34_yes), .second, .val (.long w34_no), .second, .val (.long w55_yes), .second, .val (.long w55_no), .second] [(.long w55_yes)])) target
      refine XS.lload Xg67.here hx rfl (hb hby at_79) rfl ?_
      show Steps p.tables e below (Tg67.setTop (mkF m 81 #[.val (.long q0), .second, .val (.long q1), .second, .val (.int p2), .val (.int (own_b (¬ ((p2 &&& (1 : Int32)) = (0 : Int32))))), .val (.ref b14), .val (.long w34_yes), .second, .val (.long w34_no), .second, .val (.long w55_yes), .second, .val (.long w55_no), .second] [(.long w34_yes), (.long w55_yes)])) target
      refine XS.lconst Xg67.here hx rfl (hb hby at_81) ?_
      show Steps p.tables e below (Tg67.setTop (mkF m 82 #[.val (.long q0), .second, .val (.long q1), .second, .val (.int p2), .val (.int (own_b (¬ ((p2 &&& (1 : Int32)) = (0 : Int32))))), .val (.ref b14), .val (.long w34_yes), .second, .val (.long w34_no), .second, .val (.long w55_yes), .second, .val (.long w55_no), .second] [(.long (1 : Int64)), (.long w34_yes), (.long w55_yes)])) target
      refine XS.ladd Xg67.here hx rfl (hb hby at_82) rfl ?_
      show Steps p.tables e below (Tg67.setTop (mkF m 83 #[.val (.long q0), .second, .val (.long q1), .second, .val (.int p2), .val (.int (own_b (¬ ((p2 &&& (1 : Int32)) = (0 : Int32))))), .val (.ref b14), .val (.long w34_yes), .second, .val (.long w34_no), .second, .val (.long w55_yes), .second, .val (.long w55_no), .second] [(.long (w34_yes + (1 : Int64))), (.long w55_yes)])) target
      refine XS.lcmp Xg67.here hx rfl (hb hby at_83) rfl ?_
      exact kt
    have c84 : w55_yes = (w34_yes + (1 : Int64)) := by
      rw [hw55_yes, if_pos c74]
    refine own_st (B := Tg67.setTop (mkF m 92 #[.val (.long q0), .second, .val (.long q1), .second, .val (.int p2), .val (.int (own_b (¬ ((p2 &&& (1 : Int32)) = (0 : Int32))))), .val (.ref b14), .val (.long w34_yes), .second, .val (.long w34_no), .second, .val (.long w55_yes), .second, .val (.long w55_no), .second] [(.int (lcmpW w55_no w34_no))])) (fun target kt => ?_) ?_
    · show Steps p.tables e below (Tg67.setTop (mkF m 84 #[.val (.long q0), .second, .val (.long q1), .second, .val (.int p2), .val (.int (own_b (¬ ((p2 &&& (1 : Int32)) = (0 : Int32))))), .val (.ref b14), .val (.long w34_yes), .second, .val (.long w34_no), .second, .val (.long w55_yes), .second, .val (.long w55_no), .second] [(.int (lcmpW w55_yes (w34_yes + (1 : Int64))))])) target
      refine XS.ifNo Xg67.here hx rfl (hb hby at_84) rfl ((if0 _ _).trans (teq ((lw_eq w55_yes (w34_yes + (1 : Int64))).mpr c84)).2) ?_
      show Steps p.tables e below (Tg67.setTop (mkF m 87 #[.val (.long q0), .second, .val (.long q1), .second, .val (.int p2), .val (.int (own_b (¬ ((p2 &&& (1 : Int32)) = (0 : Int32))))), .val (.ref b14), .val (.long w34_yes), .second, .val (.long w34_no), .second, .val (.long w55_yes), .second, .val (.long w55_no), .second] [])) target
      refine XS.lload Xg67.here hx rfl (hb hby at_87) rfl ?_
      show Steps p.tables e below (Tg67.setTop (mkF m 89 #[.val (.long q0), .second, .val (.long q1), .second, .val (.int p2), .val (.int (own_b (¬ ((p2 &&& (1 : Int32)) = (0 : Int32))))), .val (.ref b14), .val (.long w34_yes), .second, .val (.long w34_no), .second, .val (.long w55_yes), .second, .val (.long w55_no), .second] [(.long w55_no)])) target
      refine XS.lload Xg67.here hx rfl (hb hby at_89) rfl ?_
      show Steps p.tables e below (Tg67.setTop (mkF m 91 #[.val (.long q0), .second, .val (.long q1), .second, .val (.int p2), .val (.int (own_b (¬ ((p2 &&& (1 : Int32)) = (0 : Int32))))), .val (.ref b14), .val (.long w34_yes), .second, .val (.long w34_no), .second, .val (.long w55_yes), .second, .val (.long w55_no), .second] [(.long w34_no), (.long w55_no)])) target
      refine XS.lcmp Xg67.here hx rfl (hb hby at_91) rfl ?_
      exact kt
    have c92 : w55_no = w34_no := by
      rw [hw55_no, if_pos c74]
    refine own_st (B := Tg67.setTop (mkF m 100 #[.val (.long q0), .second, .val (.long q1), .second, .val (.int p2), .val (.int (own_b (¬ ((p2 &&& (1 : Int32)) = (0 : Int32))))), .val (.ref b14), .val (.long w34_yes), .second, .val (.long w34_no), .second, .val (.long w55_yes), .second, .val (.long w55_no), .second] [(.int (1 : Int32))])) (fun target kt => ?_) ?_
    · show Steps p.tables e below (Tg67.setTop (mkF m 92 #[.val (.long q0), .second, .val (.long q1), .second, .val (.int p2), .val (.int (own_b (¬ ((p2 &&& (1 : Int32)) = (0 : Int32))))), .val (.ref b14), .val (.long w34_yes), .second, .val (.long w34_no), .second, .val (.long w55_yes), .second, .val (.long w55_no), .second] [(.int (lcmpW w55_no w34_no))])) target
      refine XS.ifNo Xg67.here hx rfl (hb hby at_92) rfl ((if0 _ _).trans (teq ((lw_eq w55_no w34_no).mpr c92)).2) ?_
      show Steps p.tables e below (Tg67.setTop (mkF m 95 #[.val (.long q0), .second, .val (.long q1), .second, .val (.int p2), .val (.int (own_b (¬ ((p2 &&& (1 : Int32)) = (0 : Int32))))), .val (.ref b14), .val (.long w34_yes), .second, .val (.long w34_no), .second, .val (.long w55_yes), .second, .val (.long w55_no), .second] [])) target
      refine XS.iconst Xg67.here hx rfl (hb hby at_95) ?_
      show Steps p.tables e below (Tg67.setTop (mkF m 96 #[.val (.long q0), .second, .val (.long q1), .second, .val (.int p2), .val (.int (own_b (¬ ((p2 &&& (1 : Int32)) = (0 : Int32))))), .val (.ref b14), .val (.long w34_yes), .second, .val (.long w34_no), .second, .val (.long w55_yes), .second, .val (.long w55_no), .second] [(.int (1 : Int32))])) target
      refine XS.goto Xg67.here hx rfl (pc0 := 96) (pc' := 100) rfl (hb hby at_96) (by decide) (by decide) ?_
      exact kt
    obtain ⟨fs, hr, hrun, hended, hW, hsame⟩ := Xg67.leave (v := some (.int (1 : Int32))) (fun h => by rw [Bd.returns] at h; cases h)
    have hend : Steps p.tables e below (Tg67.setTop (mkF m 100 #[.val (.long q0), .second, .val (.long q1), .second, .val (.int p2), .val (.int (own_b (¬ ((p2 &&& (1 : Int32)) = (0 : Int32))))), .val (.ref b14), .val (.long w34_yes), .second, .val (.long w34_no), .second, .val (.long w55_yes), .second, .val (.long w55_no), .second] [(.int (1 : Int32))])) (Tg67.setFrames fs) := by
      exact retN Xg67 hx (t := .boolean) Bd.returns (by simp) (hb hby at_100) hr
    refine own_fin hend ⟨_, hrun, hended, _, _, rfl, ?_, ⟨_, rfl⟩, hW, hsame.mono (by decide) (by decide)⟩
    show own_Q0 Z q0 q1 p2 h0 n0 _ Tg67.heap _
    rw [eg67]
    exact ⟨rfl, Ng67⟩
  · refine own_st (B := Tg67.setTop (mkF m 108 #[.val (.long q0), .second, .val (.long q1), .second, .val (.int p2), .val (.int (own_b (¬ ((p2 &&& (1 : Int32)) = (0 : Int32))))), .val (.ref b14), .val (.long w34_yes), .second, .val (.long w34_no), .second, .val (.long w55_yes), .second, .val (.long w55_no), .second] [(.int (lcmpW w55_no (w34_no + (1 : Int64))))])) (fun target kt => ?_) ?_
    · show Steps p.tables e below (Tg67.setTop (mkF m 74 #[.val (.long q0), .second, .val (.long q1), .second, .val (.int p2), .val (.int (own_b (¬ ((p2 &&& (1 : Int32)) = (0 : Int32))))), .val (.ref b14), .val (.long w34_yes), .second, .val (.long w34_no), .second, .val (.long w55_yes), .second, .val (.long w55_no), .second] [(.int (own_b (¬ ((p2 &&& (1 : Int32)) = (0 : Int32)))))])) target
      refine XS.ifYes Xg67.here hx rfl (pc0 := 74) (pc' := 101) rfl (hb hby at_74) rfl ((if0 _ _).trans (teq (own_b00 rfl c74)).1) (by decide) (by decide) ?_
      show Steps p.tables e below (Tg67.setTop (mkF m 101 #[.val (.long q0), .second, .val (.long q1), .second, .val (.int p2), .val (.int (own_b (¬ ((p2 &&& (1 : Int32)) = (0 : Int32))))), .val (.ref b14), .val (.long w34_yes), .second, .val (.long w34_no), .second, .val (.long w55_yes), .second, .val (.long w55_no), .second] [])) target
      refine XS.lload Xg67.here hx rfl (hb hby at_101) rfl ?_
      show Steps p.tables e below (Tg67.setTop (mkF m 103 #[.val (.long q0), .second, .val (.long q1), .second, .val (.int p2), .val (.int (own_b (¬ ((p2 &&& (1 : Int32)) = (0 : Int32))))), .val (.ref b14), .val (.long w34_yes), .second, .val (.long w34_no), .second, .val (.long w55_yes), .second, .val (.long w55_no), .second] [(.long w55_no)])) target
      refine XS.lload Xg67.here hx rfl (hb hby at_103) rfl ?_
      show Steps p.tables e below (Tg67.setTop (mkF m 105 #[.val (.long q0), .second, .val (.long q1), .second, .val (.int p2), .val (.int (own_b (¬ ((p2 &&& (1 : Int32)) = (0 : Int32))))), .val (.ref b14), .val (.long w34_yes), .second, .val (.long w34_no), .second, .val (.long w55_yes), .second, .val (.long w55_no), .second] [(.long w34_no), (.long w55_no)])) target
      refine XS.lconst Xg67.here hx rfl (hb hby at_105) ?_
      show Steps p.tables e below (Tg67.setTop (mkF m 106 #[.val (.long q0), .second, .val (.long q1), .second, .val (.int p2), .val (.int (own_b (¬ ((p2 &&& (1 : Int32)) = (0 : Int32))))), .val (.ref b14), .val (.long w34_yes), .second, .val (.long w34_no), .second, .val (.long w55_yes), .second, .val (.long w55_no), .second] [(.long (1 : Int64)), (.long w34_no), (.long w55_no)])) target
      refine XS.ladd Xg67.here hx rfl (hb hby at_106) rfl ?_
      show Steps p.tables e below (Tg67.setTop (mkF m 107 #[.val (.long q0), .second, .val (.long q1), .second, .val (.int p2), .val (.int (own_b (¬ ((p2 &&& (1 : Int32)) = (0 : Int32))))), .val (.ref b14), .val (.long w34_yes), .second, .val (.long w34_no), .second, .val (.long w55_yes), .second, .val (.long w55_no), .second] [(.long (w34_no + (1 : Int64))), (.long w55_no)])) target
      refine XS.lcmp Xg67.here hx rfl (hb hby at_107) rfl ?_
      exact kt
    have c108 : w55_no = (w34_no + (1 : Int64)) := by
      rw [hw55_no, if_neg c74]
    refine own_st (B := Tg67.setTop (mkF m 116 #[.val (.long q0), .second, .val (.long q1), .second, .val (.int p2), .val (.int (own_b (¬ ((p2 &&& (1 : Int32)) = (0 : Int32))))), .val (.ref b14), .val (.long w34_yes), .second, .val (.long w34_no), .second, .val (.long w55_yes), .second, .val (.long w55_no), .second] [(.int (lcmpW w55_yes w34_yes))])) (fun target kt => ?_) ?_
    · show Steps p.tables e below (Tg67.setTop (mkF m 108 #[.val (.long q0), .second, .val (.long q1), .second, .val (.int p2), .val (.int (own_b (¬ ((p2 &&& (1 : Int32)) = (0 : Int32))))), .val (.ref b14), .val (.long w34_yes), .second, .val (.long w34_no), .second, .val (.long w55_yes), .second, .val (.long w55_no), .second] [(.int (lcmpW w55_no (w34_no + (1 : Int64))))])) target
      refine XS.ifNo Xg67.here hx rfl (hb hby at_108) rfl ((if0 _ _).trans (teq ((lw_eq w55_no (w34_no + (1 : Int64))).mpr c108)).2) ?_
      show Steps p.tables e below (Tg67.setTop (mkF m 111 #[.val (.long q0), .second, .val (.long q1), .second, .val (.int p2), .val (.int (own_b (¬ ((p2 &&& (1 : Int32)) = (0 : Int32))))), .val (.ref b14), .val (.long w34_yes), .second, .val (.long w34_no), .second, .val (.long w55_yes), .second, .val (.long w55_no), .second] [])) target
      refine XS.lload Xg67.here hx rfl (hb hby at_111) rfl ?_
      show Steps p.tables e below (Tg67.setTop (mkF m 113 #[.val (.long q0), .second, .val (.long q1), .second, .val (.int p2), .val (.int (own_b (¬ ((p2 &&& (1 : Int32)) = (0 : Int32))))), .val (.ref b14), .val (.long w34_yes), .second, .val (.long w34_no), .second, .val (.long w55_yes), .second, .val (.long w55_no), .second] [(.long w55_yes)])) target
      refine XS.lload Xg67.here hx rfl (hb hby at_113) rfl ?_
      show Steps p.tables e below (Tg67.setTop (mkF m 115 #[.val (.long q0), .second, .val (.long q1), .second, .val (.int p2), .val (.int (own_b (¬ ((p2 &&& (1 : Int32)) = (0 : Int32))))), .val (.ref b14), .val (.long w34_yes), .second, .val (.long w34_no), .second, .val (.long w55_yes), .second, .val (.long w55_no), .second] [(.long w34_yes), (.long w55_yes)])) target
      refine XS.lcmp Xg67.here hx rfl (hb hby at_115) rfl ?_
      exact kt
    have c116 : w55_yes = w34_yes := by
      rw [hw55_yes, if_neg c74]
    refine own_st (B := Tg67.setTop (mkF m 124 #[.val (.long q0), .second, .val (.long q1), .second, .val (.int p2), .val (.int (own_b (¬ ((p2 &&& (1 : Int32)) = (0 : Int32))))), .val (.ref b14), .val (.long w34_yes), .second, .val (.long w34_no), .second, .val (.long w55_yes), .second, .val (.long w55_no), .second] [(.int (1 : Int32))])) (fun target kt => ?_) ?_
    · show Steps p.tables e below (Tg67.setTop (mkF m 116 #[.val (.long q0), .second, .val (.long q1), .second, .val (.int p2), .val (.int (own_b (¬ ((p2 &&& (1 : Int32)) = (0 : Int32))))), .val (.ref b14), .val (.long w34_yes), .second, .val (.long w34_no), .second, .val (.long w55_yes), .second, .val (.long w55_no), .second] [(.int (lcmpW w55_yes w34_yes))])) target
      refine XS.ifNo Xg67.here hx rfl (hb hby at_116) rfl ((if0 _ _).trans (teq ((lw_eq w55_yes w34_yes).mpr c116)).2) ?_
      show Steps p.tables e below (Tg67.setTop (mkF m 119 #[.val (.long q0), .second, .val (.long q1), .second, .val (.int p2), .val (.int (own_b (¬ ((p2 &&& (1 : Int32)) = (0 : Int32))))), .val (.ref b14), .val (.long w34_yes), .second, .val (.long w34_no), .second, .val (.long w55_yes), .second, .val (.long w55_no), .second] [])) target
      refine XS.iconst Xg67.here hx rfl (hb hby at_119) ?_
      show Steps p.tables e below (Tg67.setTop (mkF m 120 #[.val (.long q0), .second, .val (.long q1), .second, .val (.int p2), .val (.int (own_b (¬ ((p2 &&& (1 : Int32)) = (0 : Int32))))), .val (.ref b14), .val (.long w34_yes), .second, .val (.long w34_no), .second, .val (.long w55_yes), .second, .val (.long w55_no), .second] [(.int (1 : Int32))])) target
      refine XS.goto Xg67.here hx rfl (pc0 := 120) (pc' := 124) rfl (hb hby at_120) (by decide) (by decide) ?_
      exact kt
    obtain ⟨fs, hr, hrun, hended, hW, hsame⟩ := Xg67.leave (v := some (.int (1 : Int32))) (fun h => by rw [Bd.returns] at h; cases h)
    have hend : Steps p.tables e below (Tg67.setTop (mkF m 124 #[.val (.long q0), .second, .val (.long q1), .second, .val (.int p2), .val (.int (own_b (¬ ((p2 &&& (1 : Int32)) = (0 : Int32))))), .val (.ref b14), .val (.long w34_yes), .second, .val (.long w34_no), .second, .val (.long w55_yes), .second, .val (.long w55_no), .second] [(.int (1 : Int32))])) (Tg67.setFrames fs) := by
      exact retN Xg67 hx (t := .boolean) Bd.returns (by simp) (hb hby at_124) hr
    refine own_fin hend ⟨_, hrun, hended, _, _, rfl, ?_, ⟨_, rfl⟩, hW, hsame.mono (by decide) (by decide)⟩
    show own_Q0 Z q0 q1 p2 h0 n0 _ Tg67.heap _
    rw [eg67]
    exact ⟨rfl, Ng67⟩
set_option maxRecDepth 65536 in
set_option maxHeartbeats 40000000 in
theorem own_comes_1 {Post : Tables → Env → Array Value → State → Outcome → State → Prop} (hpost : ∀ tb e args s v u, (limb_1_1.after args s (.returned v) u = true ∧ limb_1_2.after args s (.returned v) u = true ∧ True) → FrameEnd s (.returned v) u (Jvm.fieldLocs frame_1_writes args s ++ Jvm.arrayLocs frame_1_arrays args s ++ Jvm.staticLocs frame_1_statics s) 16 128 → Post tb e args s (.returned v) u) :
    ArmFor flags0 classFile x code maxLocals ret World_1 tables_1 room_1 Calls_1 rest_1 Pre_1 Post := by
  intro l hfl _ _ p e ha hc hk s m args below hf hA hF happ hP
  obtain ⟨hcalls, hrest, hpre⟩ := hP
  obtain ⟨-, -, -, hnamed, -, -, -, hat⟩ := (Spec.applies_iff hf).mp happ
  obtain ⟨hg, hn⟩ := and_e (Cond.before_iff.mp (show (Jvm.Cond.and given_1 narrow_1).before args s = true from hpre))
  obtain ⟨g1, g2⟩ := and_e hg
  obtain ⟨g3, g4⟩ := and_e g2
  obtain ⟨g5, g6⟩ := and_e g4
  obtain ⟨w0, w1, w2, rfl⟩ : ∃ w0 w1 w2 : Value, args = #[w0, w1, w2] := by
    have hs : args.size = 3 := by simpa [Cond.value, given_1] using g1
    obtain ⟨L⟩ := args
    match L, hs with
    | [w0, w1, w2], _ => exact ⟨w0, w1, w2, rfl⟩
  have hw := fun d (hd : d ∈ tables_1) => atoms_spec (ws := Jvm.Cond.code x code maxLocals ret :: tables_1) hat d (List.mem_cons_of_mem _ hd)
  obtain ⟨i0, ei0⟩ := isL_v g3
  obtain rfl : w0 = (.long i0) := Option.some.inj ei0
  obtain ⟨i1, ei1⟩ := isL_v g5
  obtain rfl : w1 = (.long i1) := Option.some.inj ei1
  obtain ⟨i2, ei2⟩ := is_v g6
  obtain rfl : w2 = (.int i2) := Option.some.inj ei2
  obtain ⟨n, o, h1, h2, h3, _, L, rfl, ⟨rfl, N⟩, hq⟩ := own_rm0 l s _ hw tables_1 i0 i1 i2 s.heap s.heap.size (Nat.le_refl _) p e ha hc hk s m _ below hf ((Spec.applies_iff_loose hf).mp happ).1 ⟨rfl, State.Warmed39.refl s, rfl⟩ trivial
  refine ⟨n, _, h1, h2, h3, hpost _ _ _ _ _ _ ⟨Cond.after_iff.mpr rfl, Cond.after_iff.mpr (eq_i res_at (Term.int_eval (1)) rfl), trivial⟩ ⟨hq.1, hq.2.1, (hq.2.2.sift fun y hy => Or.inr (N y hy)).mono (by decide) (by decide)⟩⟩
theorem main_1_1 : Claimed_1_1 := own_comes_1 fun _ _ _ _ _ _ h hF => ⟨h.1, hF⟩
theorem main_1_2 : Claimed_1_2 := own_comes_1 fun _ _ _ _ _ _ h hF => ⟨h.2.1, hF⟩
end Jvm.Pilot.@@N@@
namespace Jvm.Pilot.@@N@@
open Jvm Jvm.ClassFile Sem Op Lib Jvm.Free Jvm.Stand Jvm.Pilot.@@N@@.Jvm.D
/-! MADE BY PROGRAM (witnessworld.py) out of the Statement's table words and the real class files: 9 classes; the members and pool entries that the words name. The judged class is class 1, her method 1. -/
namespace start1
open Jvm.ClassFile
def u (s : String) : CpInfo := .utf8 (stringToUtf16 s)
/-- a pool by its gaps: so many unusable entries, then the entry; so many at the end -/
def gap : Nat → List CpInfo → List CpInfo
  | 0, r => r
  | n + 1, r => .unusable :: gap n r
def poolList (es : List (Nat × CpInfo)) (last : Nat) : List CpInfo := es.foldr (fun e r => gap e.1 (e.2 :: r)) (gap last [])
def pool (es : List (Nat × CpInfo)) (last : Nat) : Array CpInfo := ⟨poolList es last⟩
def fileOf (pool : Array CpInfo) (this : Nat) (attrs : Array Attribute := #[]) (ms : Array MethodInfo := #[]) (fl : Nat := 33) (sup : Nat := 0) (ifs : Array Nat := #[]) (fds : Array FieldInfo := #[]) : ClassFile where
  minorVersion := 0
  majorVersion := 65
  constantPool := pool
  accessFlags := fl
  thisClass := this
  superClass := sup
  interfaces := ifs
  fields := fds
  methods := ms
  attributes := attrs
def plain (name : String) (sup : Option ClassId) : Class where
  name := name
  kind := .ordinary
  loader := none
  accessFlags := 33
  super := sup
  interfaces := #[]
  cf := none
  fields := #[]
  methods := #[]
  instanceTypes := #[]
  staticTypes := #[]
  resolved := #[]
  callSites := []
  init := .initialized
  statics := none
  mirror := none

def pool0 : Array CpInfo := pool [(5, u "<init>"), (0, u "()V"), (1, .class_ 10), (1, u "java/lang/Object")] 113

def k0c0 : Code := { maxStack := 0, maxLocals := 1, code := object_method_1_code, exceptionTable := #[], attributes := #[] }
def k0m0 : Method := { name := "<init>", desc := "()V", sig := { parameters := [], returnType := none }, accessFlags := 1, code := some k0c0 }
/-- java/lang/Object -/
def k0 : Class := { plain "java/lang/Object" none with
  accessFlags := 33
  interfaces := #[]
  cf := some (fileOf pool0 8 #[] #[{ accessFlags := 1, nameIndex := 5, descriptorIndex := 6, attributes := #[] }] 33 0 #[] #[])
  fields := #[]
  methods := #[k0m0]
  instanceTypes := #[]
  staticTypes := #[]
  resolved := Array.replicate 124 none
  statics := none }

def pool1 : Array CpInfo := pool [(2, .class_ 4), (0, .nameAndType 5 6), (0, u "java/lang/Object"), (0, u "<init>"), (0, u "()V"), (0, .class_ 8), (0, u "com/example/barnacle/barnacle/cli/Tally"), (0, .methodref 7 3), (0, .methodref 7 11), (0, .nameAndType 12 13), (0, u "count"), (0, u "(ZJ)V"), (0, .methodref 7 15), (0, .nameAndType 16 17), (0, u "yes"), (0, u "()J"), (0, .methodref 7 19), (0, .nameAndType 20 17), (0, u "no"), (0, .methodref 7 22), (0, .nameAndType 12 23), (0, u "(Z)V"), (0, .class_ 25), (0, u "com/example/barnacle/barnacle/cli/TallyCountPinLaw"), (2, u "law"), (0, u "(JJI)Z")] 3

def k1m0 : Method := { name := "<init>", desc := "()V", sig := { parameters := [], returnType := none }, accessFlags := 1, code := none }
def k1c1 : Code := { maxStack := 6, maxLocals := 15, code := code, exceptionTable := #[], attributes := #[] }
def k1m1 : Method := { name := "law", desc := "(JJI)Z", sig := { parameters := [.long, .long, .int], returnType := some .boolean }, accessFlags := 9, code := some k1c1 }
/-- com/example/barnacle/barnacle/cli/TallyCountPinLaw -/
def k1 : Class := { plain "com/example/barnacle/barnacle/cli/TallyCountPinLaw" (some 0) with
  accessFlags := 49
  interfaces := #[]
  cf := some (fileOf pool1 24 #[] #[{ accessFlags := 1, nameIndex := 5, descriptorIndex := 6, attributes := #[] }, { accessFlags := 9, nameIndex := 28, descriptorIndex := 29, attributes := #[] }] 49 2 #[] #[])
  fields := #[]
  methods := #[k1m0, k1m1]
  instanceTypes := #[]
  staticTypes := #[]
  resolved := Array.replicate 33 none
  statics := none }

def pool2 : Array CpInfo := pool [(1, .methodref 2 3), (0, .class_ 4), (0, .nameAndType 5 6), (0, u "java/lang/Object"), (0, u "<init>"), (0, u "()V"), (0, .fieldref 8 9), (0, .class_ 10), (0, .nameAndType 11 12), (0, u "com/example/barnacle/barnacle/cli/Tally"), (0, u "yes"), (0, u "J"), (0, .fieldref 8 14), (0, .nameAndType 15 12), (0, u "no"), (2, u "count"), (0, u "(Z)V"), (1, u "(ZJ)V"), (0, u "()J")] 2

def k2c0 : Code := { maxStack := 1, maxLocals := 1, code := prog_42_method_1_code, exceptionTable := #[], attributes := #[] }
def k2m0 : Method := { name := "<init>", desc := "()V", sig := { parameters := [], returnType := none }, accessFlags := 0, code := some k2c0 }
def k2c1 : Code := { maxStack := 5, maxLocals := 2, code := prog_42_method_2_code, exceptionTable := #[], attributes := #[] }
def k2m1 : Method := { name := "count", desc := "(Z)V", sig := { parameters := [.boolean], returnType := none }, accessFlags := 0, code := some k2c1 }
def k2c2 : Code := { maxStack := 5, maxLocals := 4, code := prog_42_method_3_code, exceptionTable := #[], attributes := #[] }
def k2m2 : Method := { name := "count", desc := "(ZJ)V", sig := { parameters := [.boolean, .long], returnType := none }, accessFlags := 0, code := some k2c2 }
def k2c3 : Code := { maxStack := 2, maxLocals := 1, code := prog_42_method_4_code, exceptionTable := #[], attributes := #[] }
def k2m3 : Method := { name := "yes", desc := "()J", sig := { parameters := [], returnType := some .long }, accessFlags := 0, code := some k2c3 }
def k2c4 : Code := { maxStack := 2, maxLocals := 1, code := prog_42_method_5_code, exceptionTable := #[], attributes := #[] }
def k2m4 : Method := { name := "no", desc := "()J", sig := { parameters := [], returnType := some .long }, accessFlags := 0, code := some k2c4 }
/-- com/example/barnacle/barnacle/cli/Tally -/
def k2 : Class := { plain "com/example/barnacle/barnacle/cli/Tally" (some 0) with
  accessFlags := 32
  interfaces := #[]
  cf := some (fileOf pool2 8 #[] #[{ accessFlags := 0, nameIndex := 5, descriptorIndex := 6, attributes := #[] }, { accessFlags := 0, nameIndex := 18, descriptorIndex := 19, attributes := #[] }, { accessFlags := 0, nameIndex := 18, descriptorIndex := 21, attributes := #[] }, { accessFlags := 0, nameIndex := 11, descriptorIndex := 22, attributes := #[] }, { accessFlags := 0, nameIndex := 15, descriptorIndex := 22, attributes := #[] }] 32 2 #[] #[{ accessFlags := 2, nameIndex := 11, descriptorIndex := 12, attributes := #[] }, { accessFlags := 2, nameIndex := 15, descriptorIndex := 12, attributes := #[] }])
  fields := #[{ name := "yes", type := .long, accessFlags := 2, slot := 0, constantValue := 0 }, { name := "no", type := .long, accessFlags := 2, slot := 1, constantValue := 0 }]
  methods := #[k2m0, k2m1, k2m2, k2m3, k2m4]
  instanceTypes := #[.long, .long]
  staticTypes := #[]
  resolved := Array.replicate 25 none
  statics := none }

def pool3 : Array CpInfo := pool [(1, u "java/lang/Cloneable"), (0, .class_ 1), (0, u "java/lang/Object"), (0, .class_ 3)] 3

/-- java/lang/Cloneable -/
def k3 : Class := { plain "java/lang/Cloneable" (some 0) with
  accessFlags := 1537
  interfaces := #[]
  cf := some (fileOf pool3 2 #[] #[] 1537 4 #[] #[])
  fields := #[]
  methods := #[]
  instanceTypes := #[]
  staticTypes := #[]
  resolved := Array.replicate 8 none
  statics := none }

def pool4 : Array CpInfo := pool [(1, u "java/io/Serializable"), (0, .class_ 1), (0, u "java/lang/Object"), (0, .class_ 3)] 3

/-- java/io/Serializable -/
def k4 : Class := { plain "java/io/Serializable" (some 0) with
  accessFlags := 1537
  interfaces := #[]
  cf := some (fileOf pool4 2 #[] #[] 1537 4 #[] #[])
  fields := #[]
  methods := #[]
  instanceTypes := #[]
  staticTypes := #[]
  resolved := Array.replicate 8 none
  statics := none }

/-- the primitive byte -/
def k5 : Class := { plain "byte" none with kind := .primitive 'B', accessFlags := 0x411 }
/-- [B -/
def k6 : Class := { plain "[B" (some 0) with kind := .array 5 .byte, interfaces := #[3, 4], accessFlags := 1041 }

/-- the primitive int -/
def k7 : Class := { plain "int" none with kind := .primitive 'I', accessFlags := 0x411 }
/-- [I -/
def k8 : Class := { plain "[I" (some 0) with kind := .array 7 .int, interfaces := #[3, 4], accessFlags := 1041 }

def heap : Heap := #[]
def classes : Array Class := #[k0, k1, k2, k3, k4, k5, k6, k7, k8]
def interned : List (Array UInt16 × Addr) := []
def slotsUsed : Nat := 0
def theMethod : MethodId := ⟨1, 1⟩
def args0 : Array Value := #[.long 3, .long 4, .int 5]
def aboutOver (below : List Frame) : State where
  vm := { classes := classes, interned := interned.toArray }
  heap := heap
  slotsUsed := slotsUsed
  threads := #[{ frames := .invoking theMethod args0 :: below }]
def below0 : List Frame := [.native { method := ⟨0, 0⟩, args := #[] }]
def about1 : State := aboutOver below0
def p0 : Program := .bare "" "" ""
def e0 : Env := launch0.env 0 0 0
theorem w_frames : about1.frames = Frame.invoking theMethod args0 :: below0 := rfl
set_option maxRecDepth 65536 in
theorem w_args : argsFit about1.vm theMethod args0 = true := by decide +kernel
set_option maxRecDepth 65536 in
theorem w_heap : heapFits about1 = true := by decide +kernel
set_option maxRecDepth 65536 in
theorem w_runnable : about1.curStatus? = some .runnable := by decide +kernel
set_option maxRecDepth 65536 in
theorem w_alone : about1.alone = true := by decide +kernel
set_option maxRecDepth 65536 in
theorem w_named : about1.methodNamed? x = some theMethod := by decide +kernel
set_option maxRecDepth 65536 in
theorem w_hears : about1.hears theMethod below0 = true := by decide +kernel
set_option maxRecDepth 65536 in
theorem w_ripe : about1.ripe theMethod args0 below0 = true := by decide +kernel
theorem w_running : about1.status = .running := rfl
set_option maxRecDepth 65536 in
theorem w_room : about1.hasRoom e0.platform room_1 = true :=
  launch0.hasRoom_least _ room_1 (by decide +kernel) (by decide +kernel) (by decide +kernel) (by decide +kernel) (by decide +kernel) (by decide +kernel)
theorem allAtoms_all (ts : List Jvm.Cond) (a : Array Jvm.Value) (st : Jvm.State) : (allAtoms ts).before a st = ts.all (fun c => c.before a st) := by
  induction ts with
  | nil => rfl
  | cons c t ih =>
    show (Jvm.Cond.and c (allAtoms t)).before a st = _
    rw [Jvm.Cond.before_and, ih, List.all_cons]
def words1 : List Jvm.Cond := Jvm.Cond.code x code maxLocals ret :: tables_1
/-- a 'code' word, met by the world's own term for the bytes: nothing is compared byte by byte -/
theorem code_word {y : MethodName} {bytes : ByteArray} {mx : Nat} {rt : Option FieldType} {a : Array Value} {s : State} {m : MethodId} {meth : Method} {c : Code} (h1 : s.methodNamed? y = some m) (h2 : s.vm.method? m = some meth) (h3 : meth.code = some c) (h4 : c.code = bytes)
    (h5 : (c.maxLocals == mx && c.exceptionTable.isEmpty && decide (c.maxStack ≤ mostOperands) && decide (meth.sig.returnType = rt) && !meth.locks && decide (parseMethodDescriptor y.desc = some meth.sig)) = true) : (Jvm.Cond.code y bytes mx rt).before a s = true := by
  simp only [Bool.and_eq_true, beq_iff_eq, Bool.not_eq_true', decide_eq_true_eq] at h5
  obtain ⟨⟨⟨⟨⟨g1, g2⟩, g3⟩, g4⟩, g5⟩, g6⟩ := h5
  simp [Cond.before, Cond.holds, Cond.value, h1, h2, h3, h4, g1, g2, g3, g4, g5, g6]
def isCode : Jvm.Cond → Bool
  | .code _ _ _ _ => true
  | _ => false
theorem all_split {L : List Jvm.Cond} {P : Jvm.Cond → Bool} (h1 : L.all (fun c => isCode c || P c) = true) (h2 : ∀ c ∈ L.filter isCode, P c = true) : L.all P = true := by
  refine List.all_eq_true.mpr fun c hc => ?_
  have h := List.all_eq_true.mp h1 c hc
  rcases Bool.eq_false_or_eq_true (isCode c) with hi | hi
  · exact h2 c (List.mem_filter.mpr ⟨hc, hi⟩)
  · simpa [hi] using h
set_option maxRecDepth 65536 in
theorem w_c0 : (Jvm.Cond.code x code maxLocals ret).before args0 about1 = true := code_word (m := ⟨1, 1⟩) (meth := k1m1) (c := k1c1) (by decide +kernel) rfl rfl rfl (by decide +kernel)
set_option maxRecDepth 65536 in
theorem w_c1 : (Jvm.Cond.code ({ cls := "com/example/barnacle/barnacle/cli/Tally", name := "<init>", desc := "()V" } : Jvm.MethodName) prog_42_method_1_code (1 : Nat) (Option.none : Option Jvm.ClassFile.FieldType)).before args0 about1 = true := code_word (m := ⟨2, 0⟩) (meth := k2m0) (c := k2c0) (by decide +kernel) rfl rfl rfl (by decide +kernel)
set_option maxRecDepth 65536 in
theorem w_c2 : (Jvm.Cond.code ({ cls := "java/lang/Object", name := "<init>", desc := "()V" } : Jvm.MethodName) object_method_1_code (1 : Nat) (Option.none : Option Jvm.ClassFile.FieldType)).before args0 about1 = true := code_word (m := ⟨0, 0⟩) (meth := k0m0) (c := k0c0) (by decide +kernel) rfl rfl rfl (by decide +kernel)
set_option maxRecDepth 65536 in
theorem w_c3 : (Jvm.Cond.code ({ cls := "com/example/barnacle/barnacle/cli/Tally", name := "count", desc := "(ZJ)V" } : Jvm.MethodName) prog_42_method_3_code (4 : Nat) (Option.none : Option Jvm.ClassFile.FieldType)).before args0 about1 = true := code_word (m := ⟨2, 2⟩) (meth := k2m2) (c := k2c2) (by decide +kernel) rfl rfl rfl (by decide +kernel)
set_option maxRecDepth 65536 in
theorem w_c4 : (Jvm.Cond.code ({ cls := "com/example/barnacle/barnacle/cli/Tally", name := "yes", desc := "()J" } : Jvm.MethodName) prog_42_method_4_code (1 : Nat) (Option.some Jvm.ClassFile.FieldType.long)).before args0 about1 = true := code_word (m := ⟨2, 3⟩) (meth := k2m3) (c := k2c3) (by decide +kernel) rfl rfl rfl (by decide +kernel)
set_option maxRecDepth 65536 in
theorem w_c5 : (Jvm.Cond.code ({ cls := "com/example/barnacle/barnacle/cli/Tally", name := "no", desc := "()J" } : Jvm.MethodName) prog_42_method_5_code (1 : Nat) (Option.some Jvm.ClassFile.FieldType.long)).before args0 about1 = true := code_word (m := ⟨2, 4⟩) (meth := k2m4) (c := k2c4) (by decide +kernel) rfl rfl rfl (by decide +kernel)
set_option maxRecDepth 65536 in
theorem w_c6 : (Jvm.Cond.code ({ cls := "com/example/barnacle/barnacle/cli/Tally", name := "count", desc := "(Z)V" } : Jvm.MethodName) prog_42_method_2_code (2 : Nat) (Option.none : Option Jvm.ClassFile.FieldType)).before args0 about1 = true := code_word (m := ⟨2, 1⟩) (meth := k2m1) (c := k2c1) (by decide +kernel) rfl rfl rfl (by decide +kernel)
def codes1 : List Jvm.Cond := [Jvm.Cond.code x code maxLocals ret, Jvm.Cond.code ({ cls := "com/example/barnacle/barnacle/cli/Tally", name := "<init>", desc := "()V" } : Jvm.MethodName) prog_42_method_1_code (1 : Nat) (Option.none : Option Jvm.ClassFile.FieldType), Jvm.Cond.code ({ cls := "java/lang/Object", name := "<init>", desc := "()V" } : Jvm.MethodName) object_method_1_code (1 : Nat) (Option.none : Option Jvm.ClassFile.FieldType), Jvm.Cond.code ({ cls := "com/example/barnacle/barnacle/cli/Tally", name := "count", desc := "(ZJ)V" } : Jvm.MethodName) prog_42_method_3_code (4 : Nat) (Option.none : Option Jvm.ClassFile.FieldType), Jvm.Cond.code ({ cls := "com/example/barnacle/barnacle/cli/Tally", name := "yes", desc := "()J" } : Jvm.MethodName) prog_42_method_4_code (1 : Nat) (Option.some Jvm.ClassFile.FieldType.long), Jvm.Cond.code ({ cls := "com/example/barnacle/barnacle/cli/Tally", name := "no", desc := "()J" } : Jvm.MethodName) prog_42_method_5_code (1 : Nat) (Option.some Jvm.ClassFile.FieldType.long), Jvm.Cond.code ({ cls := "com/example/barnacle/barnacle/cli/Tally", name := "count", desc := "(Z)V" } : Jvm.MethodName) prog_42_method_2_code (2 : Nat) (Option.none : Option Jvm.ClassFile.FieldType)]
set_option maxRecDepth 65536 in
theorem codes_eq : words1.filter isCode = codes1 := rfl
theorem w_codes : ∀ c ∈ words1.filter isCode, c.before args0 about1 = true := by
  rw [codes_eq]
  intro c hc
  simp only [codes1, List.mem_cons, List.not_mem_nil, or_false] at hc
  rcases hc with rfl | rfl | rfl | rfl | rfl | rfl | rfl
  · exact w_c0
  · exact w_c1
  · exact w_c2
  · exact w_c3
  · exact w_c4
  · exact w_c5
  · exact w_c6
set_option maxRecDepth 65536 in
theorem w_t1 : (words1.take 24).all (fun c => isCode c || c.before args0 about1) = true := by decide +kernel
set_option maxRecDepth 65536 in
theorem w_t2 : (words1.drop 24).all (fun c => isCode c || c.before args0 about1) = true := by decide +kernel
theorem w_tables : (allAtoms (Jvm.Cond.code x code maxLocals ret :: tables_1)).before args0 about1 = true := by
  rw [allAtoms_all]
  show words1.all (fun c => c.before args0 about1) = true
  refine all_split ?_ w_codes
  rw [← List.take_append_drop 24 words1, List.all_append, w_t1, w_t2]
  rfl
set_option maxRecDepth 65536 in
theorem w_case : (Jvm.Cond.and given_1 narrow_1).before args0 about1 = true := by decide +kernel
theorem w_applies : (headSpec (Jvm.Cond.code x code maxLocals ret :: tables_1) room_1).applies x e0.platform about1 = true :=
  (Spec.applies_iff w_frames).mpr ⟨w_running, w_runnable, w_alone, w_named, w_hears, w_ripe, w_room, w_tables⟩
theorem atStart : AtStart classFile x code maxLocals ret World_1 tables_1 room_1 Calls_1 rest_1 Pre_1 launch0 p0 e0 about1 theMethod args0 below0 :=
  ⟨lists_1, trivial, launch0.admits_env _ _ _, launch0.least_env, fairChoices_fair.cas, fairChoices_fair.clock, w_frames, w_args, w_heap, w_applies, trivial, trivial, w_case⟩
end start1
theorem witness_1 : WitnessClaimed_1 := ⟨start1.p0, start1.e0, start1.about1, start1.theMethod, start1.args0, start1.below0, start1.atStart⟩
end Jvm.Pilot.@@N@@
