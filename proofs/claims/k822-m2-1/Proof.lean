import JvmDerived
import JvmDerived.Pilot.@@N@@Statement
import JvmDerived.Pilot.@@N@@Code
set_option linter.unusedVariables false
set_option linter.unusedSimpArgs false
namespace Jvm.RoadKit
open Sem ClassFile Op Lib Jvm.Stand Jvm.Free Jvm.LawKit
section New
variable {p : Program} {l : Launch} {e : Env} {R : Room} {s : State} {m : MethodId} {args : Array Value} {below : List Frame} {meth : Method} {c : Code} {T : State} {locs : List Loc} {cells slots : Nat}
theorem retI (X : Stand p l e R s m args below meth c T locs cells slots) (hx : p.tables.exec = Jvm.exec) {pc : Nat} {Ls : Array Slot} {z : Int32} {rest : List Value} (hret : meth.sig.returnType = some .int) (hd : decode c.code pc = .ok (.ireturn, 1)) {fs : List Frame}
    (hl : ∀ (f : JFrame) (acts : List Action), f.method = m → f.locked = none → f.entered = [] → (doReturn e (T.setTop f) acts (some (.int z))).1 = T.setFrames fs) : Steps p.tables e below (T.setTop (mkF m pc Ls (.int z :: rest))) (T.setFrames fs) := by
  have hm' : T.vm.method? m = some meth := X.method'
  have hn : narrow .int (.int z) = .int z := rfl
  show Steps p.tables e below (T.setTop { method := m, pc := pc, locals := Ls, stack := _ :: rest, locked := none }) _
  jvm_step X.here [X.here.top, hx, hd, hm', hret, hn]
  first | (intro acts; rw [hl _ acts rfl rfl rfl]) | rw [hl _ _ rfl rfl rfl]
  exact Steps.refl _
theorem own_retJ (X : Stand p l e R s m args below meth c T locs cells slots) (hx : p.tables.exec = Jvm.exec) {pc : Nat} {Ls : Array Slot} {z : Int64} {rest : List Value} (hret : meth.sig.returnType = some .long) (hd : decode c.code pc = .ok (.lreturn, 1)) {fs : List Frame}
    (hl : ∀ (f : JFrame) (acts : List Action), f.method = m → f.locked = none → f.entered = [] → (doReturn e (T.setTop f) acts (some (.long z))).1 = T.setFrames fs) : Steps p.tables e below (T.setTop (mkF m pc Ls (.long z :: rest))) (T.setFrames fs) := by
  have hm' : T.vm.method? m = some meth := X.method'
  have hn : narrow .long (.long z) = .long z := rfl
  show Steps p.tables e below (T.setTop { method := m, pc := pc, locals := Ls, stack := _ :: rest, locked := none }) _
  jvm_step X.here [X.here.top, hx, hd, hm', hret, hn]
  first | (intro acts; rw [hl _ acts rfl rfl rfl]) | rw [hl _ _ rfl rfl rfl]
  exact Steps.refl _
end New
/-- from the state A the run comes to a state that P describes -/
def own_Lead (tb : Tables) (e : Env) (below : List Frame) (A : State) (P : State → Prop) : Prop := ∃ B, P B ∧ ∀ t, Steps tb e below B t → Steps tb e below A t
theorem own_st {tb : Tables} {e : Env} {below : List Frame} {A B : State} {P : State → Prop} (st : ∀ t, Steps tb e below B t → Steps tb e below A t) (h : own_Lead tb e below B P) : own_Lead tb e below A P := by
  obtain ⟨C, hp, hs⟩ := h
  exact ⟨C, hp, fun t k => st t (hs t k)⟩
theorem own_fin {tb : Tables} {e : Env} {below : List Frame} {A B : State} {P : State → Prop} (st : Steps tb e below A B) (h : P B) : own_Lead tb e below A P := ⟨B, h, fun t k => st.trans k⟩
theorem own_run {tb : Tables} {e : Env} {below : List Frame} {A : State} {K : State → Outcome → Prop} (h : own_Lead tb e below A (fun B => ∃ o, K B o)) : ∃ s₂ o, Steps tb e below A s₂ ∧ K s₂ o := by
  obtain ⟨B, ⟨o, hk⟩, st⟩ := h
  exact ⟨B, o, st B (Steps.refl _), hk⟩
section Copy
variable {p : Program} {l : Launch} {e : Env} {R : Room} {s : State} {m : MethodId} {args : Array Value} {below : List Frame} {meth : Method} {c : Code} {T : State} {locs : List Loc} {cells slots : Nat} {Z : State} {h : Heap} {a b : Addr}
end Copy
section Cold
variable {p : Program} {l : Launch} {e : Env} {R : Room} {s : State} {vm0 : Vm} {m : MethodId} {args : Array Value} {below : List Frame} {meth : Method} {c : Code} {T : State} {locs : List Loc} {cells slots : Nat} {Z : State} {a0 : Array Value} {h : Heap}
end Cold
end Jvm.RoadKit
namespace Jvm.Pilot.@@N@@
open Jvm Jvm.ClassFile Sem Op Lib Jvm.Free Jvm.Stand Jvm.LawKit Jvm.RoadKit Bundle Jvm.Pilot.@@N@@.Jvm.D
theorem own_rem (lim : Int32) (u : Int64) (hl : 0 ≤ lim.toInt) (hu : 0 ≤ u.toInt) :
    (¬ u < lim.toInt64 → (if (0 : Int64) < (lim.toInt64 - u) then (lim.toInt64 - u) else (0 : Int64)) = 0) ∧
    (u < lim.toInt64 → (if (0 : Int64) < (lim.toInt64 - u) then (lim.toInt64 - u) else (0 : Int64)) = lim.toInt64 - u ∧ (0 : Int64) < (if (0 : Int64) < (lim.toInt64 - u) then (lim.toInt64 - u) else (0 : Int64))) := by
  have h1 := c_lsub lim.toInt64 u
  have h2 := c_i2l lim
  have h3 := rng32 lim
  have h4 := rng64 u
  have h5 := rng64 (lim.toInt64 - u)
  have h6 : (0 : Int64).toInt = 0 := by decide
  constructor
  · intro h
    have hn : ¬ (0 : Int64) < (lim.toInt64 - u) := by
      rw [Int64.lt_iff_toInt_lt] at h ⊢
      omega
    rw [if_neg hn]
  · intro h
    have hn : (0 : Int64) < (lim.toInt64 - u) := by
      rw [Int64.lt_iff_toInt_lt] at h ⊢
      omega
    rw [if_pos hn]
    exact ⟨rfl, hn⟩
theorem own_pos32 (a : Int32) : 0 ≤ (a &&& (2147483647 : Int32)).toInt := by
  rw [c_mask a 2147483647 31 (by decide) (by decide)]
  omega
theorem own_pos64 (a : Int64) : 0 ≤ (a &&& (9223372036854775807 : Int64)).toInt := by
  rw [c_maskL a 9223372036854775807 63 (by decide) (by decide)]
  omega
theorem own_max0 (a : Int64) : 0 ≤ (if (0 : Int64) < a then a else (0 : Int64)).toInt := by
  have h6 : (0 : Int64).toInt = 0 := by decide
  by_cases h : (0 : Int64) < a
  · rw [if_pos h]
    rw [Int64.lt_iff_toInt_lt] at h
    omega
  · rw [if_neg h, h6]
    omega
theorem own_pn0 : plainName "java/lang/Record" = true := by first | (simp [plainName, overriddenIn]; done) | decide +kernel
theorem own_d3_0 : decode jdk_30_method_1_code 0 = .ok (.aload_n 0, 1) := by decide +kernel
theorem own_d3_1 : decode jdk_30_method_1_code 1 = .ok (.invokespecial 1, 3) := by decide +kernel
theorem own_d3_4 : decode jdk_30_method_1_code 4 = .ok (.return_, 1) := by decide +kernel
theorem own_ef3 (m : MethodId) (r0 : Addr) : entryFrame m #[(.ref r0)] 1 = mkF m 0 #[.val (.ref r0)] [] := by first | (simp [entryFrame, mkF, argsToLocals, Value.category]; done) | rfl
def own_Q3 (Z : State) (r0 : Addr) (h0 : Heap) (n0 : Nat) (v : Option Value) (h : Heap) (L : List Loc) : Prop := (v = none) ∧ (Fr n0 L) ∧ (h = h0)
set_option maxRecDepth 65536 in
set_option maxHeartbeats 40000000 in
theorem own_rm3 (l : Launch) (Z : State) (a0 : Array Value) (hw : ∀ d ∈ tables_1, d.before a0 Z = true) (ws : List Jvm.Cond) (r0 : Addr) (h0 : Heap) (n0 : Nat) (Z0 : n0 ≤ h0.size) :
    MetFree l (⟨"java/lang/Record", "<init>", "()V"⟩ : MethodName) (head1 (Jvm.Cond.code (⟨"java/lang/Record", "<init>", "()V"⟩ : MethodName) jdk_30_method_1_code 1 none :: ws) ({ frames := 1, cells := 0, slots := 0, locals := 12 } : Room)) (fun a U => a = #[(.ref r0)] ∧ Z.Warmed39 U.vm ∧ U.heap = h0) (fun _ _ _ _ _ => True) (fun _ U o U' => ∃ v L, o = .returned v ∧ own_Q3 Z r0 h0 n0 v U'.heap L ∧ FrameEnd U o U' L ({ frames := 1, cells := 0, slots := 0, locals := 12 } : Room).cells ({ frames := 1, cells := 0, slots := 0, locals := 12 } : Room).slots) := by
  refine MetFree.of_bodySF (plainFor_of_name own_pn0) hisR ?_
  intro p e s m args below meth c s₁ Bd hml0 hP hK
  obtain ⟨rfl, hZ, hh⟩ := hP
  have hx := Bd.exec
  have hby := Bd.bytes
  have hml : c.maxLocals = 1 := hml0
  have hown : s.vm.findClass "java/lang/Record" = some m.cls := findClass_of_methodNamed Bd.named
  have hnm := (name_of_methodNamed Bd.named Bd.method).1
  have X0 : Stand p l e ({ frames := 1, cells := 0, slots := 0, locals := 12 } : Room) s m #[(.ref r0)] below meth c s₁ [] 0 0 := Stand.of_body Bd
  have e0 : s₁.heap = h0 := by rw [← hh, Bd.state]; rfl
  have N0 := Fr.nil n0
  have pre0 : ∀ t, Steps p.tables e below (s₁.setTop (mkF m 0 #[.val (.ref r0)] [])) t → Steps p.tables e below (s₁.setTop (entryFrame m #[(.ref r0)] 1)) t := fun t k => castTop (own_ef3 m r0) k
  refine own_run (own_st pre0 ?_)
  refine own_st (B := s₁.setTop (mkF m 1 #[.val (.ref r0)] [(.ref r0)])) (fun target kt => ?_) ?_
  · show Steps p.tables e below (s₁.setTop (mkF m 0 #[.val (.ref r0)] [])) target
    refine XS.aloadN X0.here hx rfl (hb hby own_d3_0) rfl rfl ?_
    exact kt
  obtain ⟨Tg1, Xg1, eg1, stg1⟩ := initO X0 hx hZ hown (hw _ (List.mem_of_getElem? (i := 17) rfl)) (hw _ (List.mem_of_getElem? (i := 18) rfl)) (hw _ (List.mem_of_getElem? (i := 19) rfl)) e0 (g := (mkF m 1 #[.val (.ref r0)] [(.ref r0)])) rfl (by rw [hml]; rfl) rfl (hb hby own_d3_1) (by decide) (W := 0) (by show 2 * 0 + _ ≤ _; exact Nat.le_of_eq rfl) (by decide)
  refine own_st stg1 ?_
  obtain ⟨fs, hr, hrun, hended, hW, hsame⟩ := Xg1.leave (v := none) (fun _ => rfl)
  have hend : Steps p.tables e below (Tg1.setTop (mkF m 4 #[.val (.ref r0)] [])) (Tg1.setFrames fs) := by
    exact Xg1.returnOut hx Bd.returns (hb hby own_d3_4) hr
  refine own_fin hend ⟨_, hrun, hended, _, _, rfl, ?_, ⟨_, rfl⟩, hW, hsame.mono (by decide) (by decide)⟩
  show own_Q3 Z r0 h0 n0 _ Tg1.heap _
  rw [eg1]
  exact ⟨rfl, N0, rfl⟩
theorem own_d1_0 : decode jdk_29_method_66_code 0 = .ok (.lload_n 0, 1) := by decide +kernel
theorem own_d1_1 : decode jdk_29_method_66_code 1 = .ok (.lload_n 2, 1) := by decide +kernel
theorem own_d1_2 : decode jdk_29_method_66_code 2 = .ok (.lcmp, 1) := by decide +kernel
theorem own_d1_3 : decode jdk_29_method_66_code 3 = .ok (.ifCond .lt 7, 3) := by decide +kernel
theorem own_d1_6 : decode jdk_29_method_66_code 6 = .ok (.lload_n 0, 1) := by decide +kernel
theorem own_d1_7 : decode jdk_29_method_66_code 7 = .ok (.goto 4, 3) := by decide +kernel
theorem own_d1_10 : decode jdk_29_method_66_code 10 = .ok (.lload_n 2, 1) := by decide +kernel
theorem own_d1_11 : decode jdk_29_method_66_code 11 = .ok (.lreturn, 1) := by decide +kernel
theorem own_ef1 (m : MethodId) (q0 : Int64) (q1 : Int64) : entryFrame m #[(.long q0), (.long q1)] 4 = mkF m 0 #[.val (.long q0), .second, .val (.long q1), .second] [] := by first | (simp [entryFrame, mkF, argsToLocals, Value.category]; done) | rfl
def own_Q1 (Z : State) (q0 : Int64) (q1 : Int64) (h0 : Heap) (n0 : Nat) (v : Option Value) (h : Heap) (L : List Loc) : Prop := (v = some (.long ((if q0 < q1 then q1 else q0)))) ∧ (Fr n0 L) ∧ (h = h0)
set_option maxRecDepth 65536 in
set_option maxHeartbeats 40000000 in
theorem own_rm1 (l : Launch) (Z : State) (a0 : Array Value) (hw : ∀ d ∈ tables_1, d.before a0 Z = true) (ws : List Jvm.Cond) (q0 : Int64) (q1 : Int64) (h0 : Heap) (n0 : Nat) (Z0 : n0 ≤ h0.size) :
    MetFree l (⟨"java/lang/Math", "max", "(JJ)J"⟩ : MethodName) (head1 (Jvm.Cond.code (⟨"java/lang/Math", "max", "(JJ)J"⟩ : MethodName) jdk_29_method_66_code 4 (some .long) :: ws) ({ frames := 0, cells := 0, slots := 0, locals := 0 } : Room)) (fun a U => a = #[(.long q0), (.long q1)] ∧ Z.Warmed39 U.vm ∧ U.heap = h0) (fun _ _ _ _ _ => True) (fun _ U o U' => ∃ v L, o = .returned v ∧ own_Q1 Z q0 q1 h0 n0 v U'.heap L ∧ FrameEnd U o U' L ({ frames := 0, cells := 0, slots := 0, locals := 0 } : Room).cells ({ frames := 0, cells := 0, slots := 0, locals := 0 } : Room).slots) := by
  refine MetFree.of_bodySF (Jvm.Free.JP.mathPlain rfl (by decide +kernel)) hisR ?_
  intro p e s m args below meth c s₁ Bd hml0 hP hK
  obtain ⟨rfl, hZ, hh⟩ := hP
  have hx := Bd.exec
  have hby := Bd.bytes
  have hml : c.maxLocals = 4 := hml0
  have hown : s.vm.findClass "java/lang/Math" = some m.cls := findClass_of_methodNamed Bd.named
  have hnm := (name_of_methodNamed Bd.named Bd.method).1
  have X0 : Stand p l e ({ frames := 0, cells := 0, slots := 0, locals := 0 } : Room) s m #[(.long q0), (.long q1)] below meth c s₁ [] 0 0 := Stand.of_body Bd
  have e0 : s₁.heap = h0 := by rw [← hh, Bd.state]; rfl
  have N0 := Fr.nil n0
  have pre0 : ∀ t, Steps p.tables e below (s₁.setTop (mkF m 0 #[.val (.long q0), .second, .val (.long q1), .second] [])) t → Steps p.tables e below (s₁.setTop (entryFrame m #[(.long q0), (.long q1)] 4)) t := fun t k => castTop (own_ef1 m q0 q1) k
  refine own_run (own_st pre0 ?_)
  refine own_st (B := s₁.setTop (mkF m 3 #[.val (.long q0), .second, .val (.long q1), .second] [(.int (lcmpW q0 q1))])) (fun target kt => ?_) ?_
  · show Steps p.tables e below (s₁.setTop (mkF m 0 #[.val (.long q0), .second, .val (.long q1), .second] [])) target
    refine XS.lloadN X0.here hx rfl (hb hby own_d1_0) rfl ?_
    show Steps p.tables e below (s₁.setTop (mkF m 1 #[.val (.long q0), .second, .val (.long q1), .second] [(.long q0)])) target
    refine XS.lloadN X0.here hx rfl (hb hby own_d1_1) rfl ?_
    show Steps p.tables e below (s₁.setTop (mkF m 2 #[.val (.long q0), .second, .val (.long q1), .second] [(.long q1), (.long q0)])) target
    refine XS.lcmp X0.here hx rfl (hb hby own_d1_2) rfl ?_
    exact kt
  obtain ⟨_, ⟨j11_s0, rfl, hj11_s0⟩, st_M11⟩ : own_Lead p.tables e below (s₁.setTop (mkF m 3 #[.val (.long q0), .second, .val (.long q1), .second] [(.int (lcmpW q0 q1))])) (fun B => ∃ (j11_s0 : Int64), B = s₁.setTop (mkF m 11 #[.val (.long q0), .second, .val (.long q1), .second] [(.long j11_s0)]) ∧ j11_s0 = (if q0 < q1 then q1 else q0)) := by
    by_cases c3 : q0 < q1
    · refine own_st (B := s₁.setTop (mkF m 11 #[.val (.long q0), .second, .val (.long q1), .second] [(.long q1)])) (fun target kt => ?_) ?_
      · show Steps p.tables e below (s₁.setTop (mkF m 3 #[.val (.long q0), .second, .val (.long q1), .second] [(.int (lcmpW q0 q1))])) target
        refine XS.ifYes X0.here hx rfl (pc0 := 3) (pc' := 10) rfl (hb hby own_d1_3) rfl ((if0 _ _).trans (tlt ((lw_lt q0 q1).mpr c3)).1) (by decide) (by decide) ?_
        show Steps p.tables e below (s₁.setTop (mkF m 10 #[.val (.long q0), .second, .val (.long q1), .second] [])) target
        refine XS.lloadN X0.here hx rfl (hb hby own_d1_10) rfl ?_
        exact kt
      exact ⟨_, ⟨q1, rfl, (if_pos c3).symm⟩, fun _ k => k⟩
    · refine own_st (B := s₁.setTop (mkF m 11 #[.val (.long q0), .second, .val (.long q1), .second] [(.long q0)])) (fun target kt => ?_) ?_
      · show Steps p.tables e below (s₁.setTop (mkF m 3 #[.val (.long q0), .second, .val (.long q1), .second] [(.int (lcmpW q0 q1))])) target
        refine XS.ifNo X0.here hx rfl (hb hby own_d1_3) rfl ((if0 _ _).trans (flt (fun q => c3 ((lw_lt q0 q1).mp q))).1) ?_
        show Steps p.tables e below (s₁.setTop (mkF m 6 #[.val (.long q0), .second, .val (.long q1), .second] [])) target
        refine XS.lloadN X0.here hx rfl (hb hby own_d1_6) rfl ?_
        show Steps p.tables e below (s₁.setTop (mkF m 7 #[.val (.long q0), .second, .val (.long q1), .second] [(.long q0)])) target
        refine XS.goto X0.here hx rfl (pc0 := 7) (pc' := 11) rfl (hb hby own_d1_7) (by decide) (by decide) ?_
        exact kt
      exact ⟨_, ⟨q0, rfl, (if_neg c3).symm⟩, fun _ k => k⟩
  refine own_st st_M11 ?_
  obtain ⟨fs, hr, hrun, hended, hW, hsame⟩ := X0.leave (v := some (.long j11_s0)) (fun h => by rw [Bd.returns] at h; cases h)
  have hend : Steps p.tables e below (s₁.setTop (mkF m 11 #[.val (.long q0), .second, .val (.long q1), .second] [(.long j11_s0)])) (s₁.setFrames fs) := by
    exact own_retJ X0 hx Bd.returns (hb hby own_d1_11) hr
  refine own_fin hend ⟨_, hrun, hended, _, _, rfl, ?_, ⟨_, rfl⟩, hW, hsame.mono (by decide) (by decide)⟩
  show own_Q1 Z q0 q1 h0 n0 _ s₁.heap _
  rw [e0]
  subst hj11_s0
  exact ⟨(congrArg (fun z => some (Value.long z)) rfl), N0, rfl⟩
theorem own_pd0 : parseMethodDescriptor "()V" = some ⟨[], none⟩ := by decide +kernel
theorem own_pn1 : plainName "com/example/even_throttle/eventhrottle/Quota" = true := by first | (simp [plainName, overriddenIn]; done) | decide +kernel
theorem own_d2_0 : decode prog_6_method_1_code 0 = .ok (.aload_n 0, 1) := by decide +kernel
theorem own_d2_1 : decode prog_6_method_1_code 1 = .ok (.invokespecial 1, 3) := by decide +kernel
theorem own_d2_4 : decode prog_6_method_1_code 4 = .ok (.aload_n 0, 1) := by decide +kernel
theorem own_d2_5 : decode prog_6_method_1_code 5 = .ok (.iload_n 1, 1) := by decide +kernel
theorem own_d2_6 : decode prog_6_method_1_code 6 = .ok (.putfield 7, 3) := by decide +kernel
theorem own_d2_9 : decode prog_6_method_1_code 9 = .ok (.aload_n 0, 1) := by decide +kernel
theorem own_d2_10 : decode prog_6_method_1_code 10 = .ok (.lload_n 2, 1) := by decide +kernel
theorem own_d2_11 : decode prog_6_method_1_code 11 = .ok (.putfield 13, 3) := by decide +kernel
theorem own_d2_14 : decode prog_6_method_1_code 14 = .ok (.aload_n 0, 1) := by decide +kernel
theorem own_d2_15 : decode prog_6_method_1_code 15 = .ok (.lload 4, 2) := by decide +kernel
theorem own_d2_17 : decode prog_6_method_1_code 17 = .ok (.putfield 17, 3) := by decide +kernel
theorem own_d2_20 : decode prog_6_method_1_code 20 = .ok (.aload_n 0, 1) := by decide +kernel
theorem own_d2_21 : decode prog_6_method_1_code 21 = .ok (.lload 6, 2) := by decide +kernel
theorem own_d2_23 : decode prog_6_method_1_code 23 = .ok (.putfield 20, 3) := by decide +kernel
theorem own_d2_26 : decode prog_6_method_1_code 26 = .ok (.return_, 1) := by decide +kernel
theorem own_ef2 (m : MethodId) (r0 : Addr) (p1 : Int32) (q2 : Int64) (q3 : Int64) (q4 : Int64) : entryFrame m #[(.ref r0), (.int p1), (.long q2), (.long q3), (.long q4)] 8 = mkF m 0 #[.val (.ref r0), .val (.int p1), .val (.long q2), .second, .val (.long q3), .second, .val (.long q4), .second] [] := by first | (simp [entryFrame, mkF, argsToLocals, Value.category]; done) | rfl
def own_Q2 (Z : State) (r0 : Addr) (p1 : Int32) (q2 : Int64) (q3 : Int64) (q4 : Int64) (h0 : Heap) (n0 : Nat) (v : Option Value) (h : Heap) (L : List Loc) : Prop := (v = none) ∧ (Fr n0 L) ∧ (Keep h0 h [r0]) ∧ (Exa Z h r0 "com/example/even_throttle/eventhrottle/Quota") ∧ (Fld Z h r0 "com/example/even_throttle/eventhrottle/Quota" "limit" "I" (.int p1)) ∧ (Fld Z h r0 "com/example/even_throttle/eventhrottle/Quota" "used" "J" (.long q2)) ∧ (Fld Z h r0 "com/example/even_throttle/eventhrottle/Quota" "reset" "J" (.long q3)) ∧ (Fld Z h r0 "com/example/even_throttle/eventhrottle/Quota" "untilReset" "J" (.long q4))
set_option maxRecDepth 65536 in
set_option maxHeartbeats 40000000 in
theorem own_rm2 (l : Launch) (Z : State) (a0 : Array Value) (hw : ∀ d ∈ tables_1, d.before a0 Z = true) (ws : List Jvm.Cond) (r0 : Addr) (p1 : Int32) (q2 : Int64) (q3 : Int64) (q4 : Int64) (h0 : Heap) (n0 : Nat) (Z0 : n0 ≤ h0.size) (E_r0 : Exa Z h0 r0 "com/example/even_throttle/eventhrottle/Quota") (F_r0_limit : Fld Z h0 r0 "com/example/even_throttle/eventhrottle/Quota" "limit" "I" (.int (0 : Int32))) (F_r0_used : Fld Z h0 r0 "com/example/even_throttle/eventhrottle/Quota" "used" "J" (.long (0 : Int64))) (F_r0_reset : Fld Z h0 r0 "com/example/even_throttle/eventhrottle/Quota" "reset" "J" (.long (0 : Int64))) (F_r0_untilReset : Fld Z h0 r0 "com/example/even_throttle/eventhrottle/Quota" "untilReset" "J" (.long (0 : Int64))) (g_r0 : n0 ≤ r0) :
    MetFree l (⟨"com/example/even_throttle/eventhrottle/Quota", "<init>", "(IJJJ)V"⟩ : MethodName) (head1 (Jvm.Cond.code (⟨"com/example/even_throttle/eventhrottle/Quota", "<init>", "(IJJJ)V"⟩ : MethodName) prog_6_method_1_code 8 none :: ws) ({ frames := 2, cells := 0, slots := 0, locals := 24 } : Room)) (fun a U => a = #[(.ref r0), (.int p1), (.long q2), (.long q3), (.long q4)] ∧ Z.Warmed39 U.vm ∧ U.heap = h0) (fun _ _ _ _ _ => True) (fun _ U o U' => ∃ v L, o = .returned v ∧ own_Q2 Z r0 p1 q2 q3 q4 h0 n0 v U'.heap L ∧ FrameEnd U o U' L ({ frames := 2, cells := 0, slots := 0, locals := 24 } : Room).cells ({ frames := 2, cells := 0, slots := 0, locals := 24 } : Room).slots) := by
  refine MetFree.of_bodySF (plainFor_of_name own_pn1) hisR ?_
  intro p e s m args below meth c s₁ Bd hml0 hP hK
  obtain ⟨rfl, hZ, hh⟩ := hP
  have hx := Bd.exec
  have hby := Bd.bytes
  have hml : c.maxLocals = 8 := hml0
  have hown : s.vm.findClass "com/example/even_throttle/eventhrottle/Quota" = some m.cls := findClass_of_methodNamed Bd.named
  have hnm := (name_of_methodNamed Bd.named Bd.method).1
  have X0 : Stand p l e ({ frames := 2, cells := 0, slots := 0, locals := 24 } : Room) s m #[(.ref r0), (.int p1), (.long q2), (.long q3), (.long q4)] below meth c s₁ [] 0 0 := Stand.of_body Bd
  have e0 : s₁.heap = h0 := by rw [← hh, Bd.state]; rfl
  have N0 := Fr.nil n0
  have pre0 : ∀ t, Steps p.tables e below (s₁.setTop (mkF m 0 #[.val (.ref r0), .val (.int p1), .val (.long q2), .second, .val (.long q3), .second, .val (.long q4), .second] [])) t → Steps p.tables e below (s₁.setTop (entryFrame m #[(.ref r0), (.int p1), (.long q2), (.long q3), (.long q4)] 8)) t := fun t k => castTop (own_ef2 m r0 p1 q2 q3 q4) k
  refine own_run (own_st pre0 ?_)
  refine own_st (B := s₁.setTop (mkF m 1 #[.val (.ref r0), .val (.int p1), .val (.long q2), .second, .val (.long q3), .second, .val (.long q4), .second] [(.ref r0)])) (fun target kt => ?_) ?_
  · show Steps p.tables e below (s₁.setTop (mkF m 0 #[.val (.ref r0), .val (.int p1), .val (.long q2), .second, .val (.long q3), .second, .val (.long q4), .second] [])) target
    refine XS.aloadN X0.here hx rfl (hb hby own_d2_0) rfl rfl ?_
    exact kt
  obtain ⟨_, _, ⟨Tg1, Lg1, kg1, ng1⟩, -, Xg1, ⟨Lcg1, hQg1, lg1, yg1, zg1⟩, stg1⟩ := X0.specialBack hx (y := (⟨"java/lang/Record", "<init>", "()V"⟩ : MethodName)) rfl hown (mvT hZ (hw _ (List.mem_of_getElem? (i := 12) rfl))) (mvT hZ (hw _ (List.mem_of_getElem? (i := 13) rfl))) (mvT hZ (hw _ (List.mem_of_getElem? (i := 16) rfl))) (by decide) (backOf (W := 0) (own_rm3 l Z a0 hw [] r0 h0 n0 Z0) hZ (hw _ (List.mem_of_getElem? (i := 16) rfl)) (hw _ (List.mem_of_getElem? (i := 15) rfl)) (by decide) (by decide)) (g := (mkF m 1 #[.val (.ref r0), .val (.int p1), .val (.long q2), .second, .val (.long q3), .second, .val (.long q4), .second] [(.ref r0)])) rfl (by rw [hml]; rfl) (Steps.refl _) (a := r0) (argsL := []) (rest := []) (lenOf own_pd0 rfl) rfl (by show 2 * 0 + _ ≤ _; exact Nat.le_of_eq rfl) (hb hby own_d2_1) (fun _ _ => ⟨rfl, e0, (by decide : 0 + 0 ≤ _), (by decide : 0 + 0 ≤ _)⟩)
  dsimp only [Pt.U, Pt.locs, Pt.cells, Pt.slots] at Xg1 lg1 yg1 zg1 stg1 hQg1
  subst lg1 yg1 zg1
  obtain ⟨rfl, Ng1q, eg1⟩ := hQg1
  have Ng1 := Fr.app N0 Ng1q
  refine own_st (fun _ k => stg1.trans k) ?_
  refine own_st (B := Tg1.setTop (mkF m 6 #[.val (.ref r0), .val (.int p1), .val (.long q2), .second, .val (.long q3), .second, .val (.long q4), .second] [(.int p1), (.ref r0)])) (fun target kt => ?_) ?_
  · show Steps p.tables e below (Tg1.setTop (mkF m 4 #[.val (.ref r0), .val (.int p1), .val (.long q2), .second, .val (.long q3), .second, .val (.long q4), .second] [])) target
    refine XS.aloadN Xg1.here hx rfl (hb hby own_d2_4) rfl rfl ?_
    show Steps p.tables e below (Tg1.setTop (mkF m 5 #[.val (.ref r0), .val (.int p1), .val (.long q2), .second, .val (.long q3), .second, .val (.long q4), .second] [(.ref r0)])) target
    refine XS.iloadN Xg1.here hx rfl (hb hby own_d2_5) rfl ?_
    exact kt
  obtain ⟨Tg6, hg6, Xg6, eg6, Wg6, stg6⟩ := putF Xg1 hx hZ hown (host := "") (Or.inl (hw _ (List.mem_of_getElem? (i := 20) rfl))) Via.refl eg1 F_r0_limit E_r0 (Or.inr ⟨(hw _ (List.mem_of_getElem? (i := 21) rfl)), rfl, hnm⟩) (hw _ (List.mem_of_getElem? (i := 7) rfl)) (ty := .int) (by decide) rfl rfl (g := (mkF m 6 #[.val (.ref r0), .val (.int p1), .val (.long q2), .second, .val (.long q3), .second, .val (.long q4), .second] [(.int p1), (.ref r0)])) rfl rfl (hb hby own_d2_6)
  refine own_st stg6 ?_
  have Ng6 := Fr.snoc Xg6 Ng1 g_r0
  have F := E_r0.wr Wg6
  have F_1 := F_r0_limit.same Wg6
  have F_2 := F_r0_used.other Wg6 (Or.inr (slot_ne (Or.inr (hw _ (List.mem_of_getElem? (i := 23) rfl))) (Or.inr (hw _ (List.mem_of_getElem? (i := 21) rfl))) (by decide) (t := .long) (t' := .int) (by decide) (by decide)))
  have F_3 := F_r0_reset.other Wg6 (Or.inr (slot_ne (Or.inr (hw _ (List.mem_of_getElem? (i := 25) rfl))) (Or.inr (hw _ (List.mem_of_getElem? (i := 21) rfl))) (by decide) (t := .long) (t' := .int) (by decide) (by decide)))
  have F_4 := F_r0_untilReset.other Wg6 (Or.inr (slot_ne (Or.inr (hw _ (List.mem_of_getElem? (i := 27) rfl))) (Or.inr (hw _ (List.mem_of_getElem? (i := 21) rfl))) (by decide) (t := .long) (t' := .int) (by decide) (by decide)))
  have Zz : n0 ≤ hg6.size := Nat.le_trans Z0 (Keep.of_wr Wg6).1
  have Kc := (Keep.refl h0 [r0]).wr Wg6 (Or.inl (List.mem_of_getElem? (i := 0) rfl))
  refine own_st (B := Tg6.setTop (mkF m 11 #[.val (.ref r0), .val (.int p1), .val (.long q2), .second, .val (.long q3), .second, .val (.long q4), .second] [(.long q2), (.ref r0)])) (fun target kt => ?_) ?_
  · show Steps p.tables e below (Tg6.setTop (mkF m 9 #[.val (.ref r0), .val (.int p1), .val (.long q2), .second, .val (.long q3), .second, .val (.long q4), .second] [])) target
    refine XS.aloadN Xg6.here hx rfl (hb hby own_d2_9) rfl rfl ?_
    show Steps p.tables e below (Tg6.setTop (mkF m 10 #[.val (.ref r0), .val (.int p1), .val (.long q2), .second, .val (.long q3), .second, .val (.long q4), .second] [(.ref r0)])) target
    refine XS.lloadN Xg6.here hx rfl (hb hby own_d2_10) rfl ?_
    exact kt
  obtain ⟨Tg11, hg11, Xg11, eg11, Wg11, stg11⟩ := putF Xg6 hx hZ hown (host := "") (Or.inl (hw _ (List.mem_of_getElem? (i := 22) rfl))) Via.refl eg6 F_2 F (Or.inr ⟨(hw _ (List.mem_of_getElem? (i := 23) rfl)), rfl, hnm⟩) (hw _ (List.mem_of_getElem? (i := 7) rfl)) (ty := .long) (by decide) rfl rfl (g := (mkF m 11 #[.val (.ref r0), .val (.int p1), .val (.long q2), .second, .val (.long q3), .second, .val (.long q4), .second] [(.long q2), (.ref r0)])) rfl rfl (hb hby own_d2_11)
  refine own_st stg11 ?_
  have Ng11 := Fr.snoc Xg11 Ng6 g_r0
  have F_5 := F.wr Wg11
  have F_6 := F_1.other Wg11 (Or.inr (slot_ne (Or.inr (hw _ (List.mem_of_getElem? (i := 21) rfl))) (Or.inr (hw _ (List.mem_of_getElem? (i := 23) rfl))) (by decide) (t := .int) (t' := .long) (by decide) (by decide)))
  have F_7 := F_2.same Wg11
  have F_8 := F_3.other Wg11 (Or.inr (slot_ne (Or.inr (hw _ (List.mem_of_getElem? (i := 25) rfl))) (Or.inr (hw _ (List.mem_of_getElem? (i := 23) rfl))) (by decide) (t := .long) (t' := .long) (by decide) (by decide)))
  have F_9 := F_4.other Wg11 (Or.inr (slot_ne (Or.inr (hw _ (List.mem_of_getElem? (i := 27) rfl))) (Or.inr (hw _ (List.mem_of_getElem? (i := 23) rfl))) (by decide) (t := .long) (t' := .long) (by decide) (by decide)))
  have Zz_1 : n0 ≤ hg11.size := Nat.le_trans Zz (Keep.of_wr Wg11).1
  have Kc_1 := Kc.wr Wg11 (Or.inl (List.mem_of_getElem? (i := 0) rfl))
  refine own_st (B := Tg11.setTop (mkF m 17 #[.val (.ref r0), .val (.int p1), .val (.long q2), .second, .val (.long q3), .second, .val (.long q4), .second] [(.long q3), (.ref r0)])) (fun target kt => ?_) ?_
  · show Steps p.tables e below (Tg11.setTop (mkF m 14 #[.val (.ref r0), .val (.int p1), .val (.long q2), .second, .val (.long q3), .second, .val (.long q4), .second] [])) target
    refine XS.aloadN Xg11.here hx rfl (hb hby own_d2_14) rfl rfl ?_
    show Steps p.tables e below (Tg11.setTop (mkF m 15 #[.val (.ref r0), .val (.int p1), .val (.long q2), .second, .val (.long q3), .second, .val (.long q4), .second] [(.ref r0)])) target
    refine XS.lload Xg11.here hx rfl (hb hby own_d2_15) rfl ?_
    exact kt
  obtain ⟨Tg17, hg17, Xg17, eg17, Wg17, stg17⟩ := putF Xg11 hx hZ hown (host := "") (Or.inl (hw _ (List.mem_of_getElem? (i := 24) rfl))) Via.refl eg11 F_8 F_5 (Or.inr ⟨(hw _ (List.mem_of_getElem? (i := 25) rfl)), rfl, hnm⟩) (hw _ (List.mem_of_getElem? (i := 7) rfl)) (ty := .long) (by decide) rfl rfl (g := (mkF m 17 #[.val (.ref r0), .val (.int p1), .val (.long q2), .second, .val (.long q3), .second, .val (.long q4), .second] [(.long q3), (.ref r0)])) rfl rfl (hb hby own_d2_17)
  refine own_st stg17 ?_
  have Ng17 := Fr.snoc Xg17 Ng11 g_r0
  have F_10 := F_5.wr Wg17
  have F_11 := F_6.other Wg17 (Or.inr (slot_ne (Or.inr (hw _ (List.mem_of_getElem? (i := 21) rfl))) (Or.inr (hw _ (List.mem_of_getElem? (i := 25) rfl))) (by decide) (t := .int) (t' := .long) (by decide) (by decide)))
  have F_12 := F_7.other Wg17 (Or.inr (slot_ne (Or.inr (hw _ (List.mem_of_getElem? (i := 23) rfl))) (Or.inr (hw _ (List.mem_of_getElem? (i := 25) rfl))) (by decide) (t := .long) (t' := .long) (by decide) (by decide)))
  have F_13 := F_8.same Wg17
  have F_14 := F_9.other Wg17 (Or.inr (slot_ne (Or.inr (hw _ (List.mem_of_getElem? (i := 27) rfl))) (Or.inr (hw _ (List.mem_of_getElem? (i := 25) rfl))) (by decide) (t := .long) (t' := .long) (by decide) (by decide)))
  have Zz_2 : n0 ≤ hg17.size := Nat.le_trans Zz_1 (Keep.of_wr Wg17).1
  have Kc_2 := Kc_1.wr Wg17 (Or.inl (List.mem_of_getElem? (i := 0) rfl))
  refine own_st (B := Tg17.setTop (mkF m 23 #[.val (.ref r0), .val (.int p1), .val (.long q2), .second, .val (.long q3), .second, .val (.long q4), .second] [(.long q4), (.ref r0)])) (fun target kt => ?_) ?_
  · show Steps p.tables e below (Tg17.setTop (mkF m 20 #[.val (.ref r0), .val (.int p1), .val (.long q2), .second, .val (.long q3), .second, .val (.long q4), .second] [])) target
    refine XS.aloadN Xg17.here hx rfl (hb hby own_d2_20) rfl rfl ?_
    show Steps p.tables e below (Tg17.setTop (mkF m 21 #[.val (.ref r0), .val (.int p1), .val (.long q2), .second, .val (.long q3), .second, .val (.long q4), .second] [(.ref r0)])) target
    refine XS.lload Xg17.here hx rfl (hb hby own_d2_21) rfl ?_
    exact kt
  obtain ⟨Tg23, hg23, Xg23, eg23, Wg23, stg23⟩ := putF Xg17 hx hZ hown (host := "") (Or.inl (hw _ (List.mem_of_getElem? (i := 26) rfl))) Via.refl eg17 F_14 F_10 (Or.inr ⟨(hw _ (List.mem_of_getElem? (i := 27) rfl)), rfl, hnm⟩) (hw _ (List.mem_of_getElem? (i := 7) rfl)) (ty := .long) (by decide) rfl rfl (g := (mkF m 23 #[.val (.ref r0), .val (.int p1), .val (.long q2), .second, .val (.long q3), .second, .val (.long q4), .second] [(.long q4), (.ref r0)])) rfl rfl (hb hby own_d2_23)
  refine own_st stg23 ?_
  have Ng23 := Fr.snoc Xg23 Ng17 g_r0
  have F_15 := F_10.wr Wg23
  have F_16 := F_11.other Wg23 (Or.inr (slot_ne (Or.inr (hw _ (List.mem_of_getElem? (i := 21) rfl))) (Or.inr (hw _ (List.mem_of_getElem? (i := 27) rfl))) (by decide) (t := .int) (t' := .long) (by decide) (by decide)))
  have F_17 := F_12.other Wg23 (Or.inr (slot_ne (Or.inr (hw _ (List.mem_of_getElem? (i := 23) rfl))) (Or.inr (hw _ (List.mem_of_getElem? (i := 27) rfl))) (by decide) (t := .long) (t' := .long) (by decide) (by decide)))
  have F_18 := F_13.other Wg23 (Or.inr (slot_ne (Or.inr (hw _ (List.mem_of_getElem? (i := 25) rfl))) (Or.inr (hw _ (List.mem_of_getElem? (i := 27) rfl))) (by decide) (t := .long) (t' := .long) (by decide) (by decide)))
  have F_19 := F_14.same Wg23
  have Zz_3 : n0 ≤ hg23.size := Nat.le_trans Zz_2 (Keep.of_wr Wg23).1
  have Kc_3 := Kc_2.wr Wg23 (Or.inl (List.mem_of_getElem? (i := 0) rfl))
  obtain ⟨fs, hr, hrun, hended, hW, hsame⟩ := Xg23.leave (v := none) (fun _ => rfl)
  have hend : Steps p.tables e below (Tg23.setTop (mkF m 26 #[.val (.ref r0), .val (.int p1), .val (.long q2), .second, .val (.long q3), .second, .val (.long q4), .second] [])) (Tg23.setFrames fs) := by
    exact Xg23.returnOut hx Bd.returns (hb hby own_d2_26) hr
  refine own_fin hend ⟨_, hrun, hended, _, _, rfl, ?_, ⟨_, rfl⟩, hW, hsame.mono (by decide) (by decide)⟩
  show own_Q2 Z r0 p1 q2 q3 q4 h0 n0 _ Tg23.heap _
  rw [eg23]
  exact ⟨rfl, Ng23, Kc_3, F_15, F_16, F_17, F_18, F_19⟩
theorem own_pd1 : parseMethodDescriptor "(JJ)J" = some ⟨[.long, .long], some .long⟩ := by decide +kernel
theorem own_d5_0 : decode prog_6_method_4_code 0 = .ok (.lconst 0, 1) := by decide +kernel
theorem own_d5_1 : decode prog_6_method_4_code 1 = .ok (.aload_n 0, 1) := by decide +kernel
theorem own_d5_2 : decode prog_6_method_4_code 2 = .ok (.getfield 7, 3) := by decide +kernel
theorem own_d5_5 : decode prog_6_method_4_code 5 = .ok (.i2l, 1) := by decide +kernel
theorem own_d5_6 : decode prog_6_method_4_code 6 = .ok (.aload_n 0, 1) := by decide +kernel
theorem own_d5_7 : decode prog_6_method_4_code 7 = .ok (.getfield 13, 3) := by decide +kernel
theorem own_d5_10 : decode prog_6_method_4_code 10 = .ok (.lsub, 1) := by decide +kernel
theorem own_d5_11 : decode prog_6_method_4_code 11 = .ok (.invokestatic 32, 3) := by decide +kernel
theorem own_d5_14 : decode prog_6_method_4_code 14 = .ok (.lreturn, 1) := by decide +kernel
theorem own_ef5 (m : MethodId) (r0 : Addr) : entryFrame m #[(.ref r0)] 1 = mkF m 0 #[.val (.ref r0)] [] := by first | (simp [entryFrame, mkF, argsToLocals, Value.category]; done) | rfl
def own_Q5 (Z : State) (r0 : Addr) (w_l : Int32) (w_u : Int64) (h0 : Heap) (n0 : Nat) (v : Option Value) (h : Heap) (L : List Loc) : Prop := (v = some (.long (if (0 : Int64) < ((w_l.toInt64) - w_u) then ((w_l.toInt64) - w_u) else (0 : Int64)))) ∧ (Fr n0 L) ∧ (h = h0)
set_option maxRecDepth 65536 in
set_option maxHeartbeats 40000000 in
theorem own_rm5 (l : Launch) (Z : State) (a0 : Array Value) (hw : ∀ d ∈ tables_1, d.before a0 Z = true) (ws : List Jvm.Cond) (r0 : Addr) (w_l : Int32) (w_u : Int64) (h0 : Heap) (n0 : Nat) (Z0 : n0 ≤ h0.size) (F_r0_limit : Fld Z h0 r0 "com/example/even_throttle/eventhrottle/Quota" "limit" "I" (.int w_l)) (F_r0_used : Fld Z h0 r0 "com/example/even_throttle/eventhrottle/Quota" "used" "J" (.long w_u)) :
    MetFree l (⟨"com/example/even_throttle/eventhrottle/Quota", "remaining", "()J"⟩ : MethodName) (head1 (Jvm.Cond.code (⟨"com/example/even_throttle/eventhrottle/Quota", "remaining", "()J"⟩ : MethodName) prog_6_method_4_code 1 (some .long) :: ws) ({ frames := 1, cells := 0, slots := 0, locals := 15 } : Room)) (fun a U => a = #[(.ref r0)] ∧ Z.Warmed39 U.vm ∧ U.heap = h0) (fun _ _ _ _ _ => True) (fun _ U o U' => ∃ v L, o = .returned v ∧ own_Q5 Z r0 w_l w_u h0 n0 v U'.heap L ∧ FrameEnd U o U' L ({ frames := 1, cells := 0, slots := 0, locals := 15 } : Room).cells ({ frames := 1, cells := 0, slots := 0, locals := 15 } : Room).slots) := by
  refine MetFree.of_bodySF (plainFor_of_name own_pn1) hisR ?_
  intro p e s m args below meth c s₁ Bd hml0 hP hK
  obtain ⟨rfl, hZ, hh⟩ := hP
  have hx := Bd.exec
  have hby := Bd.bytes
  have hml : c.maxLocals = 1 := hml0
  have hown : s.vm.findClass "com/example/even_throttle/eventhrottle/Quota" = some m.cls := findClass_of_methodNamed Bd.named
  have hnm := (name_of_methodNamed Bd.named Bd.method).1
  have X0 : Stand p l e ({ frames := 1, cells := 0, slots := 0, locals := 15 } : Room) s m #[(.ref r0)] below meth c s₁ [] 0 0 := Stand.of_body Bd
  have e0 : s₁.heap = h0 := by rw [← hh, Bd.state]; rfl
  have N0 := Fr.nil n0
  have pre0 : ∀ t, Steps p.tables e below (s₁.setTop (mkF m 0 #[.val (.ref r0)] [])) t → Steps p.tables e below (s₁.setTop (entryFrame m #[(.ref r0)] 1)) t := fun t k => castTop (own_ef5 m r0) k
  refine own_run (own_st pre0 ?_)
  refine own_st (B := s₁.setTop (mkF m 2 #[.val (.ref r0)] [(.ref r0), (.long (0 : Int64))])) (fun target kt => ?_) ?_
  · show Steps p.tables e below (s₁.setTop (mkF m 0 #[.val (.ref r0)] [])) target
    refine XS.lconst X0.here hx rfl (hb hby own_d5_0) ?_
    show Steps p.tables e below (s₁.setTop (mkF m 1 #[.val (.ref r0)] [(.long (0 : Int64))])) target
    refine XS.aloadN X0.here hx rfl (hb hby own_d5_1) rfl rfl ?_
    exact kt
  obtain ⟨Tg2, Xg2, eg2, stg2⟩ := getF X0 hx hZ hown (host := "") (Or.inl (hw _ (List.mem_of_getElem? (i := 20) rfl))) Via.refl e0 F_r0_limit (g := (mkF m 2 #[.val (.ref r0)] [(.ref r0), (.long (0 : Int64))])) rfl rfl (hb hby own_d5_2)
  refine own_st stg2 ?_
  refine own_st (B := Tg2.setTop (mkF m 7 #[.val (.ref r0)] [(.ref r0), (.long (w_l.toInt64)), (.long (0 : Int64))])) (fun target kt => ?_) ?_
  · show Steps p.tables e below (Tg2.setTop (mkF m 5 #[.val (.ref r0)] [(.int w_l), (.long (0 : Int64))])) target
    refine XS.i2l Xg2.here hx rfl (hb hby own_d5_5) rfl ?_
    show Steps p.tables e below (Tg2.setTop (mkF m 6 #[.val (.ref r0)] [(.long (w_l.toInt64)), (.long (0 : Int64))])) target
    refine XS.aloadN Xg2.here hx rfl (hb hby own_d5_6) rfl rfl ?_
    exact kt
  obtain ⟨Tg7, Xg7, eg7, stg7⟩ := getF Xg2 hx hZ hown (host := "") (Or.inl (hw _ (List.mem_of_getElem? (i := 22) rfl))) Via.refl eg2 F_r0_used (g := (mkF m 7 #[.val (.ref r0)] [(.ref r0), (.long (w_l.toInt64)), (.long (0 : Int64))])) rfl rfl (hb hby own_d5_7)
  refine own_st stg7 ?_
  refine own_st (B := Tg7.setTop (mkF m 11 #[.val (.ref r0)] [(.long ((w_l.toInt64) - w_u)), (.long (0 : Int64))])) (fun target kt => ?_) ?_
  · show Steps p.tables e below (Tg7.setTop (mkF m 10 #[.val (.ref r0)] [(.long w_u), (.long (w_l.toInt64)), (.long (0 : Int64))])) target
    refine XS.lsub Xg7.here hx rfl (hb hby own_d5_10) rfl ?_
    exact kt
  obtain ⟨_, _, ⟨Tg11, Lg11, kg11, ng11⟩, -, Xg11, ⟨Lcg11, hQg11, lg11, yg11, zg11⟩, stg11⟩ := Jvm.LawKit.callS Xg7 hx (y := (⟨"java/lang/Math", "max", "(JJ)J"⟩ : MethodName)) hown (mvT hZ (hw _ (List.mem_of_getElem? (i := 33) rfl))) (mvT hZ (hw _ (List.mem_of_getElem? (i := 3) rfl))) (mvT hZ (hw _ (List.mem_of_getElem? (i := 4) rfl))) (mvT hZ (hw _ (List.mem_of_getElem? (i := 5) rfl))) (by decide) (backOf (W := 0) (own_rm1 l Z a0 hw [] (0 : Int64) ((w_l.toInt64) - w_u) h0 n0 Z0) hZ (hw _ (List.mem_of_getElem? (i := 5) rfl)) (hw _ (List.mem_of_getElem? (i := 4) rfl)) (by decide) (by decide)) (g := (mkF m 11 #[.val (.ref r0)] [(.long ((w_l.toInt64) - w_u)), (.long (0 : Int64))])) rfl (by rw [hml]; rfl) (argsL := [(.long (0 : Int64)), (.long ((w_l.toInt64) - w_u))]) (rest := []) (lenOf own_pd1 rfl) rfl (by show 2 * 0 + _ ≤ _; exact Nat.le_of_eq rfl) (hb hby own_d5_11) (fun _ _ => ⟨rfl, eg7, (by decide : 0 + 0 ≤ _), (by decide : 0 + 0 ≤ _)⟩)
  dsimp only [Pt.U, Pt.locs, Pt.cells, Pt.slots] at Xg11 lg11 yg11 zg11 stg11 hQg11
  subst lg11 yg11 zg11
  obtain ⟨rfl, Ng11q, eg11⟩ := hQg11
  have Ng11 := Fr.app N0 Ng11q
  refine own_st (stg11) ?_
  obtain ⟨fs, hr, hrun, hended, hW, hsame⟩ := Xg11.leave (v := some (.long (if (0 : Int64) < ((w_l.toInt64) - w_u) then ((w_l.toInt64) - w_u) else (0 : Int64)))) (fun h => by rw [Bd.returns] at h; cases h)
  have hend : Steps p.tables e below (Tg11.setTop (mkF m 14 #[.val (.ref r0)] [(.long (if (0 : Int64) < ((w_l.toInt64) - w_u) then ((w_l.toInt64) - w_u) else (0 : Int64)))])) (Tg11.setFrames fs) := by
    exact own_retJ Xg11 hx Bd.returns (hb hby own_d5_14) hr
  refine own_fin hend ⟨_, hrun, hended, _, _, rfl, ?_, ⟨_, rfl⟩, hW, hsame.mono (by decide) (by decide)⟩
  show own_Q5 Z r0 w_l w_u h0 n0 _ Tg11.heap _
  rw [eg11]
  exact ⟨(congrArg (fun z => some (Value.long z)) rfl), Ng11, rfl⟩
theorem own_pd2 : parseMethodDescriptor "(IJJJ)V" = some ⟨[.int, .long, .long, .long], none⟩ := by decide +kernel
theorem own_pd3 : parseMethodDescriptor "()J" = some ⟨[], some .long⟩ := by decide +kernel
theorem own_pn2 : plainName "com/example/even_throttle/eventhrottle/QuotaRemainingPinLaw" = true := by first | (simp [plainName, overriddenIn]; done) | decide +kernel
theorem own_ef0 (m : MethodId) (p0 : Int32) (q1 : Int64) (q2 : Int64) (q3 : Int64) (p4 : Int32) : entryFrame m #[(.int p0), (.long q1), (.long q2), (.long q3), (.int p4)] maxLocals = mkF m 0 #[.val (.int p0), .val (.long q1), .second, .val (.long q2), .second, .val (.long q3), .second, .val (.int p4), .unset, .unset, .unset, .unset, .unset, .unset, .unset, .unset] [] := by first | (simp [entryFrame, mkF, argsToLocals, Value.category, maxLocals]; done) | rfl
def own_Q0 (Z : State) (p0 : Int32) (q1 : Int64) (q2 : Int64) (q3 : Int64) (p4 : Int32) (h0 : Heap) (n0 : Nat) (v : Option Value) (h : Heap) (L : List Loc) : Prop := (v = some (.int (1 : Int32))) ∧ (Fr n0 L)
set_option maxRecDepth 65536 in
set_option maxHeartbeats 40000000 in
theorem own_rm0 (l : Launch) (Z : State) (a0 : Array Value) (hw : ∀ d ∈ tables_1, d.before a0 Z = true) (ws : List Jvm.Cond) (p0 : Int32) (q1 : Int64) (q2 : Int64) (q3 : Int64) (p4 : Int32) (h0 : Heap) (n0 : Nat) (Z0 : n0 ≤ h0.size) :
    MetFree l x (head1 (Jvm.Cond.code x code maxLocals ret :: ws) room_1) (fun a U => a = #[(.int p0), (.long q1), (.long q2), (.long q3), (.int p4)] ∧ Z.Warmed39 U.vm ∧ U.heap = h0) (fun _ _ _ _ _ => True) (fun _ U o U' => ∃ v L, o = .returned v ∧ own_Q0 Z p0 q1 q2 q3 p4 h0 n0 v U'.heap L ∧ FrameEnd U o U' L room_1.cells room_1.slots) := by
  refine MetFree.of_bodySF (plainFor_of_name own_pn2) hisR ?_
  intro p e s m args below meth c s₁ Bd hml0 hP hK
  obtain ⟨rfl, hZ, hh⟩ := hP
  have hx := Bd.exec
  have hby := Bd.bytes
  have hml : c.maxLocals = 16 := hml0
  have hown : s.vm.findClass "com/example/even_throttle/eventhrottle/QuotaRemainingPinLaw" = some m.cls := findClass_of_methodNamed Bd.named
  have hnm := (name_of_methodNamed Bd.named Bd.method).1
  have X0 : Stand p l e room_1 s m #[(.int p0), (.long q1), (.long q2), (.long q3), (.int p4)] below meth c s₁ [] 0 0 := Stand.of_body Bd
  have e0 : s₁.heap = h0 := by rw [← hh, Bd.state]; rfl
  have N0 := Fr.nil n0
  have pre0 : ∀ t, Steps p.tables e below (s₁.setTop (mkF m 0 #[.val (.int p0), .val (.long q1), .second, .val (.long q2), .second, .val (.long q3), .second, .val (.int p4), .unset, .unset, .unset, .unset, .unset, .unset, .unset, .unset] [])) t → Steps p.tables e below (s₁.setTop (entryFrame m #[(.int p0), (.long q1), (.long q2), (.long q3), (.int p4)] maxLocals)) t := fun t k => castTop (own_ef0 m p0 q1 q2 q3 p4) k
  refine own_run (own_st pre0 ?_)
  obtain ⟨v4, hv4⟩ : ∃ z : Int32, z = (p0 &&& (2147483647 : Int32)) := ⟨_, rfl⟩
  refine own_st (B := s₁.setTop (mkF m 10 #[.val (.int p0), .val (.long q1), .second, .val (.long q2), .second, .val (.long q3), .second, .val (.int p4), .val (.int v4), .unset, .unset, .unset, .unset, .unset, .unset, .unset] [(.int (p4 &&& (1 : Int32)))])) (fun target kt => ?_) ?_
  · show Steps p.tables e below (s₁.setTop (mkF m 0 #[.val (.int p0), .val (.long q1), .second, .val (.long q2), .second, .val (.long q3), .second, .val (.int p4), .unset, .unset, .unset, .unset, .unset, .unset, .unset, .unset] [])) target
    refine XS.iloadN X0.here hx rfl (hb hby at_0) rfl ?_
    show Steps p.tables e below (s₁.setTop (mkF m 1 #[.val (.int p0), .val (.long q1), .second, .val (.long q2), .second, .val (.long q3), .second, .val (.int p4), .unset, .unset, .unset, .unset, .unset, .unset, .unset, .unset] [(.int p0)])) target
    refine X0.ldcInt hx hown (mvT hZ (hw _ (List.mem_of_getElem? (i := 0) rfl))) (g := (mkF m 1 #[.val (.int p0), .val (.long q1), .second, .val (.long q2), .second, .val (.long q3), .second, .val (.int p4), .unset, .unset, .unset, .unset, .unset, .unset, .unset, .unset] [(.int p0)])) rfl (hb hby at_1) _ ?_
    show Steps p.tables e below (s₁.setTop (mkF m 3 #[.val (.int p0), .val (.long q1), .second, .val (.long q2), .second, .val (.long q3), .second, .val (.int p4), .unset, .unset, .unset, .unset, .unset, .unset, .unset, .unset] [(.int (2147483647 : Int32)), (.int p0)])) target
    refine XS.iand X0.here hx rfl (hb hby at_3) rfl ?_
    show Steps p.tables e below (s₁.setTop (mkF m 4 #[.val (.int p0), .val (.long q1), .second, .val (.long q2), .second, .val (.long q3), .second, .val (.int p4), .unset, .unset, .unset, .unset, .unset, .unset, .unset, .unset] [(.int (p0 &&& (2147483647 : Int32)))])) target
    refine XS.istore X0.here hx rfl (hb hby at_4) rfl (l' := #[.val (.int p0), .val (.long q1), .second, .val (.long q2), .second, .val (.long q3), .second, .val (.int p4), .val (.int v4), .unset, .unset, .unset, .unset, .unset, .unset, .unset]) (by subst hv4; rfl) ?_
    show Steps p.tables e below (s₁.setTop (mkF m 6 #[.val (.int p0), .val (.long q1), .second, .val (.long q2), .second, .val (.long q3), .second, .val (.int p4), .val (.int v4), .unset, .unset, .unset, .unset, .unset, .unset, .unset] [])) target
    refine XS.iload X0.here hx rfl (hb hby at_6) rfl ?_
    show Steps p.tables e below (s₁.setTop (mkF m 8 #[.val (.int p0), .val (.long q1), .second, .val (.long q2), .second, .val (.long q3), .second, .val (.int p4), .val (.int v4), .unset, .unset, .unset, .unset, .unset, .unset, .unset] [(.int p4)])) target
    refine XS.iconst X0.here hx rfl (hb hby at_8) ?_
    show Steps p.tables e below (s₁.setTop (mkF m 9 #[.val (.int p0), .val (.long q1), .second, .val (.long q2), .second, .val (.long q3), .second, .val (.int p4), .val (.int v4), .unset, .unset, .unset, .unset, .unset, .unset, .unset] [(.int (1 : Int32)), (.int p4)])) target
    refine XS.iand X0.here hx rfl (hb hby at_9) rfl ?_
    exact kt
  by_cases c10 : (p4 &&& (1 : Int32)) = (0 : Int32)
  · obtain ⟨v44, hv44⟩ : ∃ z : Int64, z = (q1 &&& (9223372036854775807 : Int64)) := ⟨_, rfl⟩
    refine own_st (B := s₁.setTop (mkF m 46 #[.val (.int p0), .val (.long q1), .second, .val (.long q2), .second, .val (.long q3), .second, .val (.int p4), .val (.int v4), .val (.long v44), .second, .unset, .unset, .unset, .unset, .unset] [])) (fun target kt => ?_) ?_
    · show Steps p.tables e below (s₁.setTop (mkF m 10 #[.val (.int p0), .val (.long q1), .second, .val (.long q2), .second, .val (.long q3), .second, .val (.int p4), .val (.int v4), .unset, .unset, .unset, .unset, .unset, .unset, .unset] [(.int (p4 &&& (1 : Int32)))])) target
      refine XS.ifYes X0.here hx rfl (pc0 := 10) (pc' := 39) rfl (hb hby at_10) rfl ((if0 _ _).trans (teq c10).1) (by decide) (by decide) ?_
      show Steps p.tables e below (s₁.setTop (mkF m 39 #[.val (.int p0), .val (.long q1), .second, .val (.long q2), .second, .val (.long q3), .second, .val (.int p4), .val (.int v4), .unset, .unset, .unset, .unset, .unset, .unset, .unset] [])) target
      refine XS.lloadN X0.here hx rfl (hb hby at_39) rfl ?_
      show Steps p.tables e below (s₁.setTop (mkF m 40 #[.val (.int p0), .val (.long q1), .second, .val (.long q2), .second, .val (.long q3), .second, .val (.int p4), .val (.int v4), .unset, .unset, .unset, .unset, .unset, .unset, .unset] [(.long q1)])) target
      refine X0.ldc2Long hx hown (mvT hZ (hw _ (List.mem_of_getElem? (i := 34) rfl))) (g := (mkF m 40 #[.val (.int p0), .val (.long q1), .second, .val (.long q2), .second, .val (.long q3), .second, .val (.int p4), .val (.int v4), .unset, .unset, .unset, .unset, .unset, .unset, .unset] [(.long q1)])) rfl (hb hby at_40) _ ?_
      show Steps p.tables e below (s₁.setTop (mkF m 43 #[.val (.int p0), .val (.long q1), .second, .val (.long q2), .second, .val (.long q3), .second, .val (.int p4), .val (.int v4), .unset, .unset, .unset, .unset, .unset, .unset, .unset] [(.long (9223372036854775807 : Int64)), (.long q1)])) target
      refine XS.land X0.here hx rfl (hb hby at_43) rfl ?_
      show Steps p.tables e below (s₁.setTop (mkF m 44 #[.val (.int p0), .val (.long q1), .second, .val (.long q2), .second, .val (.long q3), .second, .val (.int p4), .val (.int v4), .unset, .unset, .unset, .unset, .unset, .unset, .unset] [(.long (q1 &&& (9223372036854775807 : Int64)))])) target
      refine XS.lstore X0.here hx rfl (hb hby at_44) rfl (l' := #[.val (.int p0), .val (.long q1), .second, .val (.long q2), .second, .val (.long q3), .second, .val (.int p4), .val (.int v4), .val (.long v44), .second, .unset, .unset, .unset, .unset, .unset]) (by subst hv44; rfl) ?_
      exact kt
    have hl : 0 ≤ v4.toInt := by rw [hv4]; exact own_pos32 p0
    have hu : 0 ≤ v44.toInt := by rw [hv44]; exact own_pos64 q1
    obtain ⟨Tg46, hg46, Xg46, eg46, Eg46, Ag46, Dg46, -, stg46⟩ := newO X0 hx hZ hown (hw _ (List.mem_of_getElem? (i := 6) rfl)) (hw _ (List.mem_of_getElem? (i := 7) rfl)) (hw _ (List.mem_of_getElem? (i := 8) rfl)) e0 (g := (mkF m 46 #[.val (.int p0), .val (.long q1), .second, .val (.long q2), .second, .val (.long q3), .second, .val (.int p4), .val (.int v4), .val (.long v44), .second, .unset, .unset, .unset, .unset, .unset] [])) rfl (hb hby at_46) (by decide) (by decide)
    obtain ⟨b46, gg46⟩ : ∃ z, z = h0.size := ⟨_, rfl⟩
    rw [← gg46] at Ag46 Dg46 stg46
    refine own_st stg46 ?_
    have g_b46 : n0 ≤ b46 := Nat.le_trans Z0 (Nat.le_of_eq gg46.symm)
    have Zz : n0 ≤ hg46.size := Nat.le_trans Z0 Eg46.1
    have F : Fld Z hg46 b46 "com/example/even_throttle/eventhrottle/Quota" "limit" "I" (.int (0 : Int32)) := Dg46 (Or.inr (hw _ (List.mem_of_getElem? (i := 21) rfl))) (ty := .int) (by decide)
    have F_1 : Fld Z hg46 b46 "com/example/even_throttle/eventhrottle/Quota" "used" "J" (.long (0 : Int64)) := Dg46 (Or.inr (hw _ (List.mem_of_getElem? (i := 23) rfl))) (ty := .long) (by decide)
    have F_2 : Fld Z hg46 b46 "com/example/even_throttle/eventhrottle/Quota" "reset" "J" (.long (0 : Int64)) := Dg46 (Or.inr (hw _ (List.mem_of_getElem? (i := 25) rfl))) (ty := .long) (by decide)
    have F_3 : Fld Z hg46 b46 "com/example/even_throttle/eventhrottle/Quota" "untilReset" "J" (.long (0 : Int64)) := Dg46 (Or.inr (hw _ (List.mem_of_getElem? (i := 27) rfl))) (ty := .long) (by decide)
    refine own_st (B := Tg46.setTop (mkF m 57 #[.val (.int p0), .val (.long q1), .second, .val (.long q2), .second, .val (.long q3), .second, .val (.int p4), .val (.int v4), .val (.long v44), .second, .unset, .unset, .unset, .unset, .unset] [(.long q3), (.long q2), (.long v44), (.int v4), (.ref b46), (.ref b46)])) (fun target kt => ?_) ?_
    · show Steps p.tables e below (Tg46.setTop (mkF m 49 #[.val (.int p0), .val (.long q1), .second, .val (.long q2), .second, .val (.long q3), .second, .val (.int p4), .val (.int v4), .val (.long v44), .second, .unset, .unset, .unset, .unset, .unset] [(.ref b46)])) target
      refine XS.dup Xg46.here hx rfl (hb hby at_49) rfl rfl ?_
      show Steps p.tables e below (Tg46.setTop (mkF m 50 #[.val (.int p0), .val (.long q1), .second, .val (.long q2), .second, .val (.long q3), .second, .val (.int p4), .val (.int v4), .val (.long v44), .second, .unset, .unset, .unset, .unset, .unset] [(.ref b46), (.ref b46)])) target
      refine XS.iload Xg46.here hx rfl (hb hby at_50) rfl ?_
      show Steps p.tables e below (Tg46.setTop (mkF m 52 #[.val (.int p0), .val (.long q1), .second, .val (.long q2), .second, .val (.long q3), .second, .val (.int p4), .val (.int v4), .val (.long v44), .second, .unset, .unset, .unset, .unset, .unset] [(.int v4), (.ref b46), (.ref b46)])) target
      refine XS.lload Xg46.here hx rfl (hb hby at_52) rfl ?_
      show Steps p.tables e below (Tg46.setTop (mkF m 54 #[.val (.int p0), .val (.long q1), .second, .val (.long q2), .second, .val (.long q3), .second, .val (.int p4), .val (.int v4), .val (.long v44), .second, .unset, .unset, .unset, .unset, .unset] [(.long v44), (.int v4), (.ref b46), (.ref b46)])) target
      refine XS.lloadN Xg46.here hx rfl (hb hby at_54) rfl ?_
      show Steps p.tables e below (Tg46.setTop (mkF m 55 #[.val (.int p0), .val (.long q1), .second, .val (.long q2), .second, .val (.long q3), .second, .val (.int p4), .val (.int v4), .val (.long v44), .second, .unset, .unset, .unset, .unset, .unset] [(.long q2), (.long v44), (.int v4), (.ref b46), (.ref b46)])) target
      refine XS.lload Xg46.here hx rfl (hb hby at_55) rfl ?_
      exact kt
    obtain ⟨_, _, ⟨Tg57, Lg57, kg57, ng57⟩, -, Xg57, ⟨Lcg57, hQg57, lg57, yg57, zg57⟩, stg57⟩ := Xg46.specialBack hx (y := (⟨"com/example/even_throttle/eventhrottle/Quota", "<init>", "(IJJJ)V"⟩ : MethodName)) rfl hown (mvT hZ (hw _ (List.mem_of_getElem? (i := 9) rfl))) (mvT hZ (hw _ (List.mem_of_getElem? (i := 10) rfl))) (mvT hZ (hw _ (List.mem_of_getElem? (i := 11) rfl))) (by decide) (backOf (W := 1) (own_rm2 l Z a0 hw [] b46 v4 v44 q2 q3 hg46 n0 Zz Ag46 F F_1 F_2 F_3 g_b46) hZ (hw _ (List.mem_of_getElem? (i := 11) rfl)) (hw _ (List.mem_of_getElem? (i := 8) rfl)) (by decide) (by decide)) (g := (mkF m 57 #[.val (.int p0), .val (.long q1), .second, .val (.long q2), .second, .val (.long q3), .second, .val (.int p4), .val (.int v4), .val (.long v44), .second, .unset, .unset, .unset, .unset, .unset] [(.long q3), (.long q2), (.long v44), (.int v4), (.ref b46), (.ref b46)])) rfl (by rw [hml]; rfl) (Steps.refl _) (a := b46) (argsL := [(.int v4), (.long v44), (.long q2), (.long q3)]) (rest := [(.ref b46)]) (lenOf own_pd2 rfl) rfl (by show 2 * 0 + _ ≤ _; exact Nat.le_of_eq rfl) (hb hby at_57) (fun _ _ => ⟨rfl, eg46, (by decide : 1 + 0 ≤ _), (by decide : 4 + 0 ≤ _)⟩)
    dsimp only [Pt.U, Pt.locs, Pt.cells, Pt.slots] at Xg57 lg57 yg57 zg57 stg57 hQg57
    subst lg57 yg57 zg57
    obtain ⟨rfl, Ng57q, Kg57, F_4, F_5, F_6, F_7, F_8⟩ := hQg57
    have Zz_1 : n0 ≤ Tg57.heap.size := Nat.le_trans Zz Kg57.1
    have Ng57 := Fr.app N0 Ng57q
    refine own_st (fun _ k => stg57.trans k) ?_
    refine own_st (B := Tg57.setTop (mkF m 64 #[.val (.int p0), .val (.long q1), .second, .val (.long q2), .second, .val (.long q3), .second, .val (.int p4), .val (.int v4), .val (.long v44), .second, .val (.ref b46), .unset, .unset, .unset, .unset] [(.ref b46)])) (fun target kt => ?_) ?_
    · show Steps p.tables e below (Tg57.setTop (mkF m 60 #[.val (.int p0), .val (.long q1), .second, .val (.long q2), .second, .val (.long q3), .second, .val (.int p4), .val (.int v4), .val (.long v44), .second, .unset, .unset, .unset, .unset, .unset] [(.ref b46)])) target
      refine XS.astore Xg57.here hx rfl (hb hby at_60) rfl rfl (l' := #[.val (.int p0), .val (.long q1), .second, .val (.long q2), .second, .val (.long q3), .second, .val (.int p4), .val (.int v4), .val (.long v44), .second, .val (.ref b46), .unset, .unset, .unset, .unset]) rfl ?_
      show Steps p.tables e below (Tg57.setTop (mkF m 62 #[.val (.int p0), .val (.long q1), .second, .val (.long q2), .second, .val (.long q3), .second, .val (.int p4), .val (.int v4), .val (.long v44), .second, .val (.ref b46), .unset, .unset, .unset, .unset] [])) target
      refine XS.aload Xg57.here hx rfl (hb hby at_62) rfl rfl ?_
      exact kt
    obtain ⟨cqg64, kqg64, qg64a, qg64b, qg64c⟩ := isOf hZ rfl F_4
    obtain ⟨_, _, ⟨Tg64, Lg64, kg64, ng64⟩, -, Xg64, ⟨Lcg64, hQg64, lg64, yg64, zg64⟩, stg64⟩ := Xg57.virtualBack hx (y := (⟨"com/example/even_throttle/eventhrottle/Quota", "remaining", "()J"⟩ : MethodName)) (z := (⟨"com/example/even_throttle/eventhrottle/Quota", "remaining", "()J"⟩ : MethodName)) hown (mvT hZ (hw _ (List.mem_of_getElem? (i := 28) rfl))) (mvT hZ (hw _ (List.mem_of_getElem? (i := 29) rfl))) (notFace_of_selects (args := #[]) (mvT hZ (hw _ (List.mem_of_getElem? (i := 31) rfl)))) (mvT hZ (hw _ (List.mem_of_getElem? (i := 31) rfl))) (mvT hZ (hw _ (List.mem_of_getElem? (i := 30) rfl))) (by decide) (backOf (W := 0) (own_rm5 l Z a0 hw [] b46 v4 v44 Tg57.heap n0 Zz_1 F_5 F_6) hZ (hw _ (List.mem_of_getElem? (i := 32) rfl)) (hw _ (List.mem_of_getElem? (i := 8) rfl)) (by decide) (by decide)) qg64a qg64c (g := (mkF m 64 #[.val (.int p0), .val (.long q1), .second, .val (.long q2), .second, .val (.long q3), .second, .val (.int p4), .val (.int v4), .val (.long v44), .second, .val (.ref b46), .unset, .unset, .unset, .unset] [(.ref b46)])) rfl (by rw [hml]; rfl) (Steps.refl _) (argsL := []) (rest := []) (lenOf own_pd3 rfl) rfl (by show 2 * 0 + _ ≤ _; exact Nat.le_of_eq rfl) (hb hby at_64) (fun _ _ => ⟨rfl, rfl, (by decide : 1 + 0 ≤ _), (by decide : 4 + 0 ≤ _)⟩)
    dsimp only [Pt.U, Pt.locs, Pt.cells, Pt.slots] at Xg64 lg64 yg64 zg64 stg64 hQg64
    subst lg64 yg64 zg64
    obtain ⟨rfl, Ng64q, eg64⟩ := hQg64
    have Ng64 := Fr.app Ng57 Ng64q
    refine own_st (fun _ k => stg64.trans k) ?_
    obtain ⟨v67, hv67⟩ : ∃ z : Int64, z = (if (0 : Int64) < ((v4.toInt64) - v44) then ((v4.toInt64) - v44) else (0 : Int64)) := ⟨_, rfl⟩
    refine own_st (B := Tg64.setTop (mkF m 75 #[.val (.int p0), .val (.long q1), .second, .val (.long q2), .second, .val (.long q3), .second, .val (.int p4), .val (.int v4), .val (.long v44), .second, .val (.ref b46), .val (.long v67), .second, .unset, .unset] [(.int (lcmpW v44 (v4.toInt64)))])) (fun target kt => ?_) ?_
    · show Steps p.tables e below (Tg64.setTop (mkF m 67 #[.val (.int p0), .val (.long q1), .second, .val (.long q2), .second, .val (.long q3), .second, .val (.int p4), .val (.int v4), .val (.long v44), .second, .val (.ref b46), .unset, .unset, .unset, .unset] [(.long (if (0 : Int64) < ((v4.toInt64) - v44) then ((v4.toInt64) - v44) else (0 : Int64)))])) target
      refine XS.lstore Xg64.here hx rfl (hb hby at_67) rfl (l' := #[.val (.int p0), .val (.long q1), .second, .val (.long q2), .second, .val (.long q3), .second, .val (.int p4), .val (.int v4), .val (.long v44), .second, .val (.ref b46), .val (.long v67), .second, .unset, .unset]) (by subst hv67; rfl) ?_
      show Steps p.tables e below (Tg64.setTop (mkF m 69 #[.val (.int p0), .val (.long q1), .second, .val (.long q2), .second, .val (.long q3), .second, .val (.int p4), .val (.int v4), .val (.long v44), .second, .val (.ref b46), .val (.long v67), .second, .unset, .unset] [])) target
      refine XS.lload Xg64.here hx rfl (hb hby at_69) rfl ?_
      show Steps p.tables e below (Tg64.setTop (mkF m 71 #[.val (.int p0), .val (.long q1), .second, .val (.long q2), .second, .val (.long q3), .second, .val (.int p4), .val (.int v4), .val (.long v44), .second, .val (.ref b46), .val (.long v67), .second, .unset, .unset] [(.long v44)])) target
      refine XS.iload Xg64.here hx rfl (hb hby at_71) rfl ?_
      show Steps p.tables e below (Tg64.setTop (mkF m 73 #[.val (.int p0), .val (.long q1), .second, .val (.long q2), .second, .val (.long q3), .second, .val (.int p4), .val (.int v4), .val (.long v44), .second, .val (.ref b46), .val (.long v67), .second, .unset, .unset] [(.int v4), (.long v44)])) target
      refine XS.i2l Xg64.here hx rfl (hb hby at_73) rfl ?_
      show Steps p.tables e below (Tg64.setTop (mkF m 74 #[.val (.int p0), .val (.long q1), .second, .val (.long q2), .second, .val (.long q3), .second, .val (.int p4), .val (.int v4), .val (.long v44), .second, .val (.ref b46), .val (.long v67), .second, .unset, .unset] [(.long (v4.toInt64)), (.long v44)])) target
      refine XS.lcmp Xg64.here hx rfl (hb hby at_74) rfl ?_
      exact kt
    by_cases c75 : v44 < (v4.toInt64)
    · obtain ⟨v97, hv97⟩ : ∃ z : Int64, z = ((v4.toInt64) - v44) := ⟨_, rfl⟩
      refine own_st (B := Tg64.setTop (mkF m 104 #[.val (.int p0), .val (.long q1), .second, .val (.long q2), .second, .val (.long q3), .second, .val (.int p4), .val (.int v4), .val (.long v44), .second, .val (.ref b46), .val (.long v67), .second, .val (.long v97), .second] [(.int (lcmpW v67 v97))])) (fun target kt => ?_) ?_
      · show Steps p.tables e below (Tg64.setTop (mkF m 75 #[.val (.int p0), .val (.long q1), .second, .val (.long q2), .second, .val (.long q3), .second, .val (.int p4), .val (.int v4), .val (.long v44), .second, .val (.ref b46), .val (.long v67), .second, .unset, .unset] [(.int (lcmpW v44 (v4.toInt64)))])) target
        refine XS.ifYes Xg64.here hx rfl (pc0 := 75) (pc' := 91) rfl (hb hby at_75) rfl ((if0 _ _).trans (tlt ((lw_lt v44 (v4.toInt64)).mpr c75)).1) (by decide) (by decide) ?_
        show Steps p.tables e below (Tg64.setTop (mkF m 91 #[.val (.int p0), .val (.long q1), .second, .val (.long q2), .second, .val (.long q3), .second, .val (.int p4), .val (.int v4), .val (.long v44), .second, .val (.ref b46), .val (.long v67), .second, .unset, .unset] [])) target
        refine XS.iload Xg64.here hx rfl (hb hby at_91) rfl ?_
        show Steps p.tables e below (Tg64.setTop (mkF m 93 #[.val (.int p0), .val (.long q1), .second, .val (.long q2), .second, .val (.long q3), .second, .val (.int p4), .val (.int v4), .val (.long v44), .second, .val (.ref b46), .val (.long v67), .second, .unset, .unset] [(.int v4)])) target
        refine XS.i2l Xg64.here hx rfl (hb hby at_93) rfl ?_
        show Steps p.tables e below (Tg64.setTop (mkF m 94 #[.val (.int p0), .val (.long q1), .second, .val (.long q2), .second, .val (.long q3), .second, .val (.int p4), .val (.int v4), .val (.long v44), .second, .val (.ref b46), .val (.long v67), .second, .unset, .unset] [(.long (v4.toInt64))])) target
        refine XS.lload Xg64.here hx rfl (hb hby at_94) rfl ?_
        show Steps p.tables e below (Tg64.setTop (mkF m 96 #[.val (.int p0), .val (.long q1), .second, .val (.long q2), .second, .val (.long q3), .second, .val (.int p4), .val (.int v4), .val (.long v44), .second, .val (.ref b46), .val (.long v67), .second, .unset, .unset] [(.long v44), (.long (v4.toInt64))])) target
        refine XS.lsub Xg64.here hx rfl (hb hby at_96) rfl ?_
        show Steps p.tables e below (Tg64.setTop (mkF m 97 #[.val (.int p0), .val (.long q1), .second, .val (.long q2), .second, .val (.long q3), .second, .val (.int p4), .val (.int v4), .val (.long v44), .second, .val (.ref b46), .val (.long v67), .second, .unset, .unset] [(.long ((v4.toInt64) - v44))])) target
        refine XS.lstore Xg64.here hx rfl (hb hby at_97) rfl (l' := #[.val (.int p0), .val (.long q1), .second, .val (.long q2), .second, .val (.long q3), .second, .val (.int p4), .val (.int v4), .val (.long v44), .second, .val (.ref b46), .val (.long v67), .second, .val (.long v97), .second]) (by subst hv97; rfl) ?_
        show Steps p.tables e below (Tg64.setTop (mkF m 99 #[.val (.int p0), .val (.long q1), .second, .val (.long q2), .second, .val (.long q3), .second, .val (.int p4), .val (.int v4), .val (.long v44), .second, .val (.ref b46), .val (.long v67), .second, .val (.long v97), .second] [])) target
        refine XS.lload Xg64.here hx rfl (hb hby at_99) rfl ?_
        show Steps p.tables e below (Tg64.setTop (mkF m 101 #[.val (.int p0), .val (.long q1), .second, .val (.long q2), .second, .val (.long q3), .second, .val (.int p4), .val (.int v4), .val (.long v44), .second, .val (.ref b46), .val (.long v67), .second, .val (.long v97), .second] [(.long v67)])) target
        refine XS.lload Xg64.here hx rfl (hb hby at_101) rfl ?_
        show Steps p.tables e below (Tg64.setTop (mkF m 103 #[.val (.int p0), .val (.long q1), .second, .val (.long q2), .second, .val (.long q3), .second, .val (.int p4), .val (.int v4), .val (.long v44), .second, .val (.ref b46), .val (.long v67), .second, .val (.long v97), .second] [(.long v97), (.long v67)])) target
        refine XS.lcmp Xg64.here hx rfl (hb hby at_103) rfl ?_
        exact kt
      have c104 : v67 = v97 := by
        rw [hv67, hv97]
        exact ((own_rem _ _ hl hu).2 c75).1
      refine own_st (B := Tg64.setTop (mkF m 111 #[.val (.int p0), .val (.long q1), .second, .val (.long q2), .second, .val (.long q3), .second, .val (.int p4), .val (.int v4), .val (.long v44), .second, .val (.ref b46), .val (.long v67), .second, .val (.long v97), .second] [(.int (lcmpW v67 (0 : Int64)))])) (fun target kt => ?_) ?_
      · show Steps p.tables e below (Tg64.setTop (mkF m 104 #[.val (.int p0), .val (.long q1), .second, .val (.long q2), .second, .val (.long q3), .second, .val (.int p4), .val (.int v4), .val (.long v44), .second, .val (.ref b46), .val (.long v67), .second, .val (.long v97), .second] [(.int (lcmpW v67 v97))])) target
        refine XS.ifNo Xg64.here hx rfl (hb hby at_104) rfl ((if0 _ _).trans (teq ((lw_eq v67 v97).mpr c104)).2) ?_
        show Steps p.tables e below (Tg64.setTop (mkF m 107 #[.val (.int p0), .val (.long q1), .second, .val (.long q2), .second, .val (.long q3), .second, .val (.int p4), .val (.int v4), .val (.long v44), .second, .val (.ref b46), .val (.long v67), .second, .val (.long v97), .second] [])) target
        refine XS.lload Xg64.here hx rfl (hb hby at_107) rfl ?_
        show Steps p.tables e below (Tg64.setTop (mkF m 109 #[.val (.int p0), .val (.long q1), .second, .val (.long q2), .second, .val (.long q3), .second, .val (.int p4), .val (.int v4), .val (.long v44), .second, .val (.ref b46), .val (.long v67), .second, .val (.long v97), .second] [(.long v67)])) target
        refine XS.lconst Xg64.here hx rfl (hb hby at_109) ?_
        show Steps p.tables e below (Tg64.setTop (mkF m 110 #[.val (.int p0), .val (.long q1), .second, .val (.long q2), .second, .val (.long q3), .second, .val (.int p4), .val (.int v4), .val (.long v44), .second, .val (.ref b46), .val (.long v67), .second, .val (.long v97), .second] [(.long (0 : Int64)), (.long v67)])) target
        refine XS.lcmp Xg64.here hx rfl (hb hby at_110) rfl ?_
        exact kt
      have c111 : (0 : Int64) < v67 := by
        rw [hv67]
        exact ((own_rem _ _ hl hu).2 c75).2
      refine own_st (B := Tg64.setTop (mkF m 119 #[.val (.int p0), .val (.long q1), .second, .val (.long q2), .second, .val (.long q3), .second, .val (.int p4), .val (.int v4), .val (.long v44), .second, .val (.ref b46), .val (.long v67), .second, .val (.long v97), .second] [(.int (1 : Int32))])) (fun target kt => ?_) ?_
      · show Steps p.tables e below (Tg64.setTop (mkF m 111 #[.val (.int p0), .val (.long q1), .second, .val (.long q2), .second, .val (.long q3), .second, .val (.int p4), .val (.int v4), .val (.long v44), .second, .val (.ref b46), .val (.long v67), .second, .val (.long v97), .second] [(.int (lcmpW v67 (0 : Int64)))])) target
        refine XS.ifNo Xg64.here hx rfl (hb hby at_111) rfl ((if0 _ _).trans (tlt ((lw_gt v67 (0 : Int64)).mpr c111)).2.2.2) ?_
        show Steps p.tables e below (Tg64.setTop (mkF m 114 #[.val (.int p0), .val (.long q1), .second, .val (.long q2), .second, .val (.long q3), .second, .val (.int p4), .val (.int v4), .val (.long v44), .second, .val (.ref b46), .val (.long v67), .second, .val (.long v97), .second] [])) target
        refine XS.iconst Xg64.here hx rfl (hb hby at_114) ?_
        show Steps p.tables e below (Tg64.setTop (mkF m 115 #[.val (.int p0), .val (.long q1), .second, .val (.long q2), .second, .val (.long q3), .second, .val (.int p4), .val (.int v4), .val (.long v44), .second, .val (.ref b46), .val (.long v67), .second, .val (.long v97), .second] [(.int (1 : Int32))])) target
        refine XS.goto Xg64.here hx rfl (pc0 := 115) (pc' := 119) rfl (hb hby at_115) (by decide) (by decide) ?_
        exact kt
      obtain ⟨fs, hr, hrun, hended, hW, hsame⟩ := Xg64.leave (v := some (.int (1 : Int32))) (fun h => by rw [Bd.returns] at h; cases h)
      have hend : Steps p.tables e below (Tg64.setTop (mkF m 119 #[.val (.int p0), .val (.long q1), .second, .val (.long q2), .second, .val (.long q3), .second, .val (.int p4), .val (.int v4), .val (.long v44), .second, .val (.ref b46), .val (.long v67), .second, .val (.long v97), .second] [(.int (1 : Int32))])) (Tg64.setFrames fs) := by
        exact retN Xg64 hx (t := .boolean) Bd.returns (by simp) (hb hby at_119) hr
      refine own_fin hend ⟨_, hrun, hended, _, _, rfl, ?_, ⟨_, rfl⟩, hW, hsame.mono (by decide) (by decide)⟩
      show own_Q0 Z p0 q1 q2 q3 p4 h0 n0 _ Tg64.heap _
      rw [eg64]
      exact ⟨rfl, Ng64⟩
    · refine own_st (B := Tg64.setTop (mkF m 82 #[.val (.int p0), .val (.long q1), .second, .val (.long q2), .second, .val (.long q3), .second, .val (.int p4), .val (.int v4), .val (.long v44), .second, .val (.ref b46), .val (.long v67), .second, .unset, .unset] [(.int (lcmpW v67 (0 : Int64)))])) (fun target kt => ?_) ?_
      · show Steps p.tables e below (Tg64.setTop (mkF m 75 #[.val (.int p0), .val (.long q1), .second, .val (.long q2), .second, .val (.long q3), .second, .val (.int p4), .val (.int v4), .val (.long v44), .second, .val (.ref b46), .val (.long v67), .second, .unset, .unset] [(.int (lcmpW v44 (v4.toInt64)))])) target
        refine XS.ifNo Xg64.here hx rfl (hb hby at_75) rfl ((if0 _ _).trans (flt (fun q => c75 ((lw_lt v44 (v4.toInt64)).mp q))).1) ?_
        show Steps p.tables e below (Tg64.setTop (mkF m 78 #[.val (.int p0), .val (.long q1), .second, .val (.long q2), .second, .val (.long q3), .second, .val (.int p4), .val (.int v4), .val (.long v44), .second, .val (.ref b46), .val (.long v67), .second, .unset, .unset] [])) target
        refine XS.lload Xg64.here hx rfl (hb hby at_78) rfl ?_
        show Steps p.tables e below (Tg64.setTop (mkF m 80 #[.val (.int p0), .val (.long q1), .second, .val (.long q2), .second, .val (.long q3), .second, .val (.int p4), .val (.int v4), .val (.long v44), .second, .val (.ref b46), .val (.long v67), .second, .unset, .unset] [(.long v67)])) target
        refine XS.lconst Xg64.here hx rfl (hb hby at_80) ?_
        show Steps p.tables e below (Tg64.setTop (mkF m 81 #[.val (.int p0), .val (.long q1), .second, .val (.long q2), .second, .val (.long q3), .second, .val (.int p4), .val (.int v4), .val (.long v44), .second, .val (.ref b46), .val (.long v67), .second, .unset, .unset] [(.long (0 : Int64)), (.long v67)])) target
        refine XS.lcmp Xg64.here hx rfl (hb hby at_81) rfl ?_
        exact kt
      have c82 : v67 = (0 : Int64) := by
        rw [hv67]
        exact (own_rem _ _ hl hu).1 c75
      refine own_st (B := Tg64.setTop (mkF m 90 #[.val (.int p0), .val (.long q1), .second, .val (.long q2), .second, .val (.long q3), .second, .val (.int p4), .val (.int v4), .val (.long v44), .second, .val (.ref b46), .val (.long v67), .second, .unset, .unset] [(.int (1 : Int32))])) (fun target kt => ?_) ?_
      · show Steps p.tables e below (Tg64.setTop (mkF m 82 #[.val (.int p0), .val (.long q1), .second, .val (.long q2), .second, .val (.long q3), .second, .val (.int p4), .val (.int v4), .val (.long v44), .second, .val (.ref b46), .val (.long v67), .second, .unset, .unset] [(.int (lcmpW v67 (0 : Int64)))])) target
        refine XS.ifNo Xg64.here hx rfl (hb hby at_82) rfl ((if0 _ _).trans (teq ((lw_eq v67 (0 : Int64)).mpr c82)).2) ?_
        show Steps p.tables e below (Tg64.setTop (mkF m 85 #[.val (.int p0), .val (.long q1), .second, .val (.long q2), .second, .val (.long q3), .second, .val (.int p4), .val (.int v4), .val (.long v44), .second, .val (.ref b46), .val (.long v67), .second, .unset, .unset] [])) target
        refine XS.iconst Xg64.here hx rfl (hb hby at_85) ?_
        show Steps p.tables e below (Tg64.setTop (mkF m 86 #[.val (.int p0), .val (.long q1), .second, .val (.long q2), .second, .val (.long q3), .second, .val (.int p4), .val (.int v4), .val (.long v44), .second, .val (.ref b46), .val (.long v67), .second, .unset, .unset] [(.int (1 : Int32))])) target
        refine XS.goto Xg64.here hx rfl (pc0 := 86) (pc' := 90) rfl (hb hby at_86) (by decide) (by decide) ?_
        exact kt
      obtain ⟨fs, hr, hrun, hended, hW, hsame⟩ := Xg64.leave (v := some (.int (1 : Int32))) (fun h => by rw [Bd.returns] at h; cases h)
      have hend : Steps p.tables e below (Tg64.setTop (mkF m 90 #[.val (.int p0), .val (.long q1), .second, .val (.long q2), .second, .val (.long q3), .second, .val (.int p4), .val (.int v4), .val (.long v44), .second, .val (.ref b46), .val (.long v67), .second, .unset, .unset] [(.int (1 : Int32))])) (Tg64.setFrames fs) := by
        exact retN Xg64 hx (t := .boolean) Bd.returns (by simp) (hb hby at_90) hr
      refine own_fin hend ⟨_, hrun, hended, _, _, rfl, ?_, ⟨_, rfl⟩, hW, hsame.mono (by decide) (by decide)⟩
      show own_Q0 Z p0 q1 q2 q3 p4 h0 n0 _ Tg64.heap _
      rw [eg64]
      exact ⟨rfl, Ng64⟩
  · obtain ⟨v26, hv26⟩ : ∃ z : Int64, z = ((v4.toInt64) + ((((q1 &&& (7 : Int64)).toInt32) - (4 : Int32)).toInt64)) := ⟨_, rfl⟩
    refine own_st (B := s₁.setTop (mkF m 31 #[.val (.int p0), .val (.long q1), .second, .val (.long q2), .second, .val (.long q3), .second, .val (.int p4), .val (.int v4), .unset, .unset, .val (.long v26), .second, .unset, .unset, .unset] [(.long v26), (.long (0 : Int64))])) (fun target kt => ?_) ?_
    · show Steps p.tables e below (s₁.setTop (mkF m 10 #[.val (.int p0), .val (.long q1), .second, .val (.long q2), .second, .val (.long q3), .second, .val (.int p4), .val (.int v4), .unset, .unset, .unset, .unset, .unset, .unset, .unset] [(.int (p4 &&& (1 : Int32)))])) target
      refine XS.ifNo X0.here hx rfl (hb hby at_10) rfl ((if0 _ _).trans (feq c10).1) ?_
      show Steps p.tables e below (s₁.setTop (mkF m 13 #[.val (.int p0), .val (.long q1), .second, .val (.long q2), .second, .val (.long q3), .second, .val (.int p4), .val (.int v4), .unset, .unset, .unset, .unset, .unset, .unset, .unset] [])) target
      refine XS.iload X0.here hx rfl (hb hby at_13) rfl ?_
      show Steps p.tables e below (s₁.setTop (mkF m 15 #[.val (.int p0), .val (.long q1), .second, .val (.long q2), .second, .val (.long q3), .second, .val (.int p4), .val (.int v4), .unset, .unset, .unset, .unset, .unset, .unset, .unset] [(.int v4)])) target
      refine XS.i2l X0.here hx rfl (hb hby at_15) rfl ?_
      show Steps p.tables e below (s₁.setTop (mkF m 16 #[.val (.int p0), .val (.long q1), .second, .val (.long q2), .second, .val (.long q3), .second, .val (.int p4), .val (.int v4), .unset, .unset, .unset, .unset, .unset, .unset, .unset] [(.long (v4.toInt64))])) target
      refine XS.lloadN X0.here hx rfl (hb hby at_16) rfl ?_
      show Steps p.tables e below (s₁.setTop (mkF m 17 #[.val (.int p0), .val (.long q1), .second, .val (.long q2), .second, .val (.long q3), .second, .val (.int p4), .val (.int v4), .unset, .unset, .unset, .unset, .unset, .unset, .unset] [(.long q1), (.long (v4.toInt64))])) target
      refine X0.ldc2Long hx hown (mvT hZ (hw _ (List.mem_of_getElem? (i := 1) rfl))) (g := (mkF m 17 #[.val (.int p0), .val (.long q1), .second, .val (.long q2), .second, .val (.long q3), .second, .val (.int p4), .val (.int v4), .unset, .unset, .unset, .unset, .unset, .unset, .unset] [(.long q1), (.long (v4.toInt64))])) rfl (hb hby at_17) _ ?_
      show Steps p.tables e below (s₁.setTop (mkF m 20 #[.val (.int p0), .val (.long q1), .second, .val (.long q2), .second, .val (.long q3), .second, .val (.int p4), .val (.int v4), .unset, .unset, .unset, .unset, .unset, .unset, .unset] [(.long (7 : Int64)), (.long q1), (.long (v4.toInt64))])) target
      refine XS.land X0.here hx rfl (hb hby at_20) rfl ?_
      show Steps p.tables e below (s₁.setTop (mkF m 21 #[.val (.int p0), .val (.long q1), .second, .val (.long q2), .second, .val (.long q3), .second, .val (.int p4), .val (.int v4), .unset, .unset, .unset, .unset, .unset, .unset, .unset] [(.long (q1 &&& (7 : Int64))), (.long (v4.toInt64))])) target
      refine XS.l2i X0.here hx rfl (hb hby at_21) rfl ?_
      show Steps p.tables e below (s₁.setTop (mkF m 22 #[.val (.int p0), .val (.long q1), .second, .val (.long q2), .second, .val (.long q3), .second, .val (.int p4), .val (.int v4), .unset, .unset, .unset, .unset, .unset, .unset, .unset] [(.int ((q1 &&& (7 : Int64)).toInt32)), (.long (v4.toInt64))])) target
      refine XS.iconst X0.here hx rfl (hb hby at_22) ?_
      show Steps p.tables e below (s₁.setTop (mkF m 23 #[.val (.int p0), .val (.long q1), .second, .val (.long q2), .second, .val (.long q3), .second, .val (.int p4), .val (.int v4), .unset, .unset, .unset, .unset, .unset, .unset, .unset] [(.int (4 : Int32)), (.int ((q1 &&& (7 : Int64)).toInt32)), (.long (v4.toInt64))])) target
      refine XS.isub X0.here hx rfl (hb hby at_23) rfl ?_
      show Steps p.tables e below (s₁.setTop (mkF m 24 #[.val (.int p0), .val (.long q1), .second, .val (.long q2), .second, .val (.long q3), .second, .val (.int p4), .val (.int v4), .unset, .unset, .unset, .unset, .unset, .unset, .unset] [(.int (((q1 &&& (7 : Int64)).toInt32) - (4 : Int32))), (.long (v4.toInt64))])) target
      refine XS.i2l X0.here hx rfl (hb hby at_24) rfl ?_
      show Steps p.tables e below (s₁.setTop (mkF m 25 #[.val (.int p0), .val (.long q1), .second, .val (.long q2), .second, .val (.long q3), .second, .val (.int p4), .val (.int v4), .unset, .unset, .unset, .unset, .unset, .unset, .unset] [(.long ((((q1 &&& (7 : Int64)).toInt32) - (4 : Int32)).toInt64)), (.long (v4.toInt64))])) target
      refine XS.ladd X0.here hx rfl (hb hby at_25) rfl ?_
      show Steps p.tables e below (s₁.setTop (mkF m 26 #[.val (.int p0), .val (.long q1), .second, .val (.long q2), .second, .val (.long q3), .second, .val (.int p4), .val (.int v4), .unset, .unset, .unset, .unset, .unset, .unset, .unset] [(.long ((v4.toInt64) + ((((q1 &&& (7 : Int64)).toInt32) - (4 : Int32)).toInt64)))])) target
      refine XS.lstore X0.here hx rfl (hb hby at_26) rfl (l' := #[.val (.int p0), .val (.long q1), .second, .val (.long q2), .second, .val (.long q3), .second, .val (.int p4), .val (.int v4), .unset, .unset, .val (.long v26), .second, .unset, .unset, .unset]) (by subst hv26; rfl) ?_
      show Steps p.tables e below (s₁.setTop (mkF m 28 #[.val (.int p0), .val (.long q1), .second, .val (.long q2), .second, .val (.long q3), .second, .val (.int p4), .val (.int v4), .unset, .unset, .val (.long v26), .second, .unset, .unset, .unset] [])) target
      refine XS.lconst X0.here hx rfl (hb hby at_28) ?_
      show Steps p.tables e below (s₁.setTop (mkF m 29 #[.val (.int p0), .val (.long q1), .second, .val (.long q2), .second, .val (.long q3), .second, .val (.int p4), .val (.int v4), .unset, .unset, .val (.long v26), .second, .unset, .unset, .unset] [(.long (0 : Int64))])) target
      refine XS.lload X0.here hx rfl (hb hby at_29) rfl ?_
      exact kt
    obtain ⟨_, _, ⟨Tg31, Lg31, kg31, ng31⟩, -, Xg31, ⟨Lcg31, hQg31, lg31, yg31, zg31⟩, stg31⟩ := Jvm.LawKit.callS X0 hx (y := (⟨"java/lang/Math", "max", "(JJ)J"⟩ : MethodName)) hown (mvT hZ (hw _ (List.mem_of_getElem? (i := 2) rfl))) (mvT hZ (hw _ (List.mem_of_getElem? (i := 3) rfl))) (mvT hZ (hw _ (List.mem_of_getElem? (i := 4) rfl))) (mvT hZ (hw _ (List.mem_of_getElem? (i := 5) rfl))) (by decide) (backOf (W := 0) (own_rm1 l Z a0 hw [] (0 : Int64) v26 h0 n0 Z0) hZ (hw _ (List.mem_of_getElem? (i := 5) rfl)) (hw _ (List.mem_of_getElem? (i := 4) rfl)) (by decide) (by decide)) (g := (mkF m 31 #[.val (.int p0), .val (.long q1), .second, .val (.long q2), .second, .val (.long q3), .second, .val (.int p4), .val (.int v4), .unset, .unset, .val (.long v26), .second, .unset, .unset, .unset] [(.long v26), (.long (0 : Int64))])) rfl (by rw [hml]; rfl) (argsL := [(.long (0 : Int64)), (.long v26)]) (rest := []) (lenOf own_pd1 rfl) rfl (by show 2 * 0 + _ ≤ _; exact Nat.le_of_eq rfl) (hb hby at_31) (fun _ _ => ⟨rfl, e0, (by decide : 0 + 0 ≤ _), (by decide : 0 + 0 ≤ _)⟩)
    dsimp only [Pt.U, Pt.locs, Pt.cells, Pt.slots] at Xg31 lg31 yg31 zg31 stg31 hQg31
    subst lg31 yg31 zg31
    obtain ⟨rfl, Ng31q, eg31⟩ := hQg31
    have Ng31 := Fr.app N0 Ng31q
    refine own_st (stg31) ?_
    obtain ⟨v34, hv34⟩ : ∃ z : Int64, z = (if (0 : Int64) < v26 then v26 else (0 : Int64)) := ⟨_, rfl⟩
    refine own_st (B := Tg31.setTop (mkF m 46 #[.val (.int p0), .val (.long q1), .second, .val (.long q2), .second, .val (.long q3), .second, .val (.int p4), .val (.int v4), .val (.long v34), .second, .val (.long v26), .second, .unset, .unset, .unset] [])) (fun target kt => ?_) ?_
    · show Steps p.tables e below (Tg31.setTop (mkF m 34 #[.val (.int p0), .val (.long q1), .second, .val (.long q2), .second, .val (.long q3), .second, .val (.int p4), .val (.int v4), .unset, .unset, .val (.long v26), .second, .unset, .unset, .unset] [(.long (if (0 : Int64) < v26 then v26 else (0 : Int64)))])) target
      refine XS.lstore Xg31.here hx rfl (hb hby at_34) rfl (l' := #[.val (.int p0), .val (.long q1), .second, .val (.long q2), .second, .val (.long q3), .second, .val (.int p4), .val (.int v4), .val (.long v34), .second, .val (.long v26), .second, .unset, .unset, .unset]) (by subst hv34; rfl) ?_
      show Steps p.tables e below (Tg31.setTop (mkF m 36 #[.val (.int p0), .val (.long q1), .second, .val (.long q2), .second, .val (.long q3), .second, .val (.int p4), .val (.int v4), .val (.long v34), .second, .val (.long v26), .second, .unset, .unset, .unset] [])) target
      refine XS.goto Xg31.here hx rfl (pc0 := 36) (pc' := 46) rfl (hb hby at_36) (by decide) (by decide) ?_
      exact kt
    have hl : 0 ≤ v4.toInt := by rw [hv4]; exact own_pos32 p0
    have hu : 0 ≤ v34.toInt := by rw [hv34]; exact own_max0 _
    obtain ⟨Tg46, hg46, Xg46, eg46, Eg46, Ag46, Dg46, -, stg46⟩ := newO Xg31 hx hZ hown (hw _ (List.mem_of_getElem? (i := 6) rfl)) (hw _ (List.mem_of_getElem? (i := 7) rfl)) (hw _ (List.mem_of_getElem? (i := 8) rfl)) eg31 (g := (mkF m 46 #[.val (.int p0), .val (.long q1), .second, .val (.long q2), .second, .val (.long q3), .second, .val (.int p4), .val (.int v4), .val (.long v34), .second, .val (.long v26), .second, .unset, .unset, .unset] [])) rfl (hb hby at_46) (by decide) (by decide)
    obtain ⟨b46, gg46⟩ : ∃ z, z = h0.size := ⟨_, rfl⟩
    rw [← gg46] at Ag46 Dg46 stg46
    refine own_st stg46 ?_
    have g_b46 : n0 ≤ b46 := Nat.le_trans Z0 (Nat.le_of_eq gg46.symm)
    have Zz : n0 ≤ hg46.size := Nat.le_trans Z0 Eg46.1
    have F : Fld Z hg46 b46 "com/example/even_throttle/eventhrottle/Quota" "limit" "I" (.int (0 : Int32)) := Dg46 (Or.inr (hw _ (List.mem_of_getElem? (i := 21) rfl))) (ty := .int) (by decide)
    have F_1 : Fld Z hg46 b46 "com/example/even_throttle/eventhrottle/Quota" "used" "J" (.long (0 : Int64)) := Dg46 (Or.inr (hw _ (List.mem_of_getElem? (i := 23) rfl))) (ty := .long) (by decide)
    have F_2 : Fld Z hg46 b46 "com/example/even_throttle/eventhrottle/Quota" "reset" "J" (.long (0 : Int64)) := Dg46 (Or.inr (hw _ (List.mem_of_getElem? (i := 25) rfl))) (ty := .long) (by decide)
    have F_3 : Fld Z hg46 b46 "com/example/even_throttle/eventhrottle/Quota" "untilReset" "J" (.long (0 : Int64)) := Dg46 (Or.inr (hw _ (List.mem_of_getElem? (i := 27) rfl))) (ty := .long) (by decide)
    refine own_st (B := Tg46.setTop (mkF m 57 #[.val (.int p0), .val (.long q1), .second, .val (.long q2), .second, .val (.long q3), .second, .val (.int p4), .val (.int v4), .val (.long v34), .second, .val (.long v26), .second, .unset, .unset, .unset] [(.long q3), (.long q2), (.long v34), (.int v4), (.ref b46), (.ref b46)])) (fun target kt => ?_) ?_
    · show Steps p.tables e below (Tg46.setTop (mkF m 49 #[.val (.int p0), .val (.long q1), .second, .val (.long q2), .second, .val (.long q3), .second, .val (.int p4), .val (.int v4), .val (.long v34), .second, .val (.long v26), .second, .unset, .unset, .unset] [(.ref b46)])) target
      refine XS.dup Xg46.here hx rfl (hb hby at_49) rfl rfl ?_
      show Steps p.tables e below (Tg46.setTop (mkF m 50 #[.val (.int p0), .val (.long q1), .second, .val (.long q2), .second, .val (.long q3), .second, .val (.int p4), .val (.int v4), .val (.long v34), .second, .val (.long v26), .second, .unset, .unset, .unset] [(.ref b46), (.ref b46)])) target
      refine XS.iload Xg46.here hx rfl (hb hby at_50) rfl ?_
      show Steps p.tables e below (Tg46.setTop (mkF m 52 #[.val (.int p0), .val (.long q1), .second, .val (.long q2), .second, .val (.long q3), .second, .val (.int p4), .val (.int v4), .val (.long v34), .second, .val (.long v26), .second, .unset, .unset, .unset] [(.int v4), (.ref b46), (.ref b46)])) target
      refine XS.lload Xg46.here hx rfl (hb hby at_52) rfl ?_
      show Steps p.tables e below (Tg46.setTop (mkF m 54 #[.val (.int p0), .val (.long q1), .second, .val (.long q2), .second, .val (.long q3), .second, .val (.int p4), .val (.int v4), .val (.long v34), .second, .val (.long v26), .second, .unset, .unset, .unset] [(.long v34), (.int v4), (.ref b46), (.ref b46)])) target
      refine XS.lloadN Xg46.here hx rfl (hb hby at_54) rfl ?_
      show Steps p.tables e below (Tg46.setTop (mkF m 55 #[.val (.int p0), .val (.long q1), .second, .val (.long q2), .second, .val (.long q3), .second, .val (.int p4), .val (.int v4), .val (.long v34), .second, .val (.long v26), .second, .unset, .unset, .unset] [(.long q2), (.long v34), (.int v4), (.ref b46), (.ref b46)])) target
      refine XS.lload Xg46.here hx rfl (hb hby at_55) rfl ?_
      exact kt
    obtain ⟨_, _, ⟨Tg57, Lg57, kg57, ng57⟩, -, Xg57, ⟨Lcg57, hQg57, lg57, yg57, zg57⟩, stg57⟩ := Xg46.specialBack hx (y := (⟨"com/example/even_throttle/eventhrottle/Quota", "<init>", "(IJJJ)V"⟩ : MethodName)) rfl hown (mvT hZ (hw _ (List.mem_of_getElem? (i := 9) rfl))) (mvT hZ (hw _ (List.mem_of_getElem? (i := 10) rfl))) (mvT hZ (hw _ (List.mem_of_getElem? (i := 11) rfl))) (by decide) (backOf (W := 1) (own_rm2 l Z a0 hw [] b46 v4 v34 q2 q3 hg46 n0 Zz Ag46 F F_1 F_2 F_3 g_b46) hZ (hw _ (List.mem_of_getElem? (i := 11) rfl)) (hw _ (List.mem_of_getElem? (i := 8) rfl)) (by decide) (by decide)) (g := (mkF m 57 #[.val (.int p0), .val (.long q1), .second, .val (.long q2), .second, .val (.long q3), .second, .val (.int p4), .val (.int v4), .val (.long v34), .second, .val (.long v26), .second, .unset, .unset, .unset] [(.long q3), (.long q2), (.long v34), (.int v4), (.ref b46), (.ref b46)])) rfl (by rw [hml]; rfl) (Steps.refl _) (a := b46) (argsL := [(.int v4), (.long v34), (.long q2), (.long q3)]) (rest := [(.ref b46)]) (lenOf own_pd2 rfl) rfl (by show 2 * 0 + _ ≤ _; exact Nat.le_of_eq rfl) (hb hby at_57) (fun _ _ => ⟨rfl, eg46, (by decide : 1 + 0 ≤ _), (by decide : 4 + 0 ≤ _)⟩)
    dsimp only [Pt.U, Pt.locs, Pt.cells, Pt.slots] at Xg57 lg57 yg57 zg57 stg57 hQg57
    subst lg57 yg57 zg57
    obtain ⟨rfl, Ng57q, Kg57, F_4, F_5, F_6, F_7, F_8⟩ := hQg57
    have Zz_1 : n0 ≤ Tg57.heap.size := Nat.le_trans Zz Kg57.1
    have Ng57 := Fr.app Ng31 Ng57q
    refine own_st (fun _ k => stg57.trans k) ?_
    refine own_st (B := Tg57.setTop (mkF m 64 #[.val (.int p0), .val (.long q1), .second, .val (.long q2), .second, .val (.long q3), .second, .val (.int p4), .val (.int v4), .val (.long v34), .second, .val (.ref b46), .unset, .unset, .unset, .unset] [(.ref b46)])) (fun target kt => ?_) ?_
    · show Steps p.tables e below (Tg57.setTop (mkF m 60 #[.val (.int p0), .val (.long q1), .second, .val (.long q2), .second, .val (.long q3), .second, .val (.int p4), .val (.int v4), .val (.long v34), .second, .val (.long v26), .second, .unset, .unset, .unset] [(.ref b46)])) target
      refine XS.astore Xg57.here hx rfl (hb hby at_60) rfl rfl (l' := #[.val (.int p0), .val (.long q1), .second, .val (.long q2), .second, .val (.long q3), .second, .val (.int p4), .val (.int v4), .val (.long v34), .second, .val (.ref b46), .unset, .unset, .unset, .unset]) rfl ?_
      show Steps p.tables e below (Tg57.setTop (mkF m 62 #[.val (.int p0), .val (.long q1), .second, .val (.long q2), .second, .val (.long q3), .second, .val (.int p4), .val (.int v4), .val (.long v34), .second, .val (.ref b46), .unset, .unset, .unset, .unset] [])) target
      refine XS.aload Xg57.here hx rfl (hb hby at_62) rfl rfl ?_
      exact kt
    obtain ⟨cqg64, kqg64, qg64a, qg64b, qg64c⟩ := isOf hZ rfl F_4
    obtain ⟨_, _, ⟨Tg64, Lg64, kg64, ng64⟩, -, Xg64, ⟨Lcg64, hQg64, lg64, yg64, zg64⟩, stg64⟩ := Xg57.virtualBack hx (y := (⟨"com/example/even_throttle/eventhrottle/Quota", "remaining", "()J"⟩ : MethodName)) (z := (⟨"com/example/even_throttle/eventhrottle/Quota", "remaining", "()J"⟩ : MethodName)) hown (mvT hZ (hw _ (List.mem_of_getElem? (i := 28) rfl))) (mvT hZ (hw _ (List.mem_of_getElem? (i := 29) rfl))) (notFace_of_selects (args := #[]) (mvT hZ (hw _ (List.mem_of_getElem? (i := 31) rfl)))) (mvT hZ (hw _ (List.mem_of_getElem? (i := 31) rfl))) (mvT hZ (hw _ (List.mem_of_getElem? (i := 30) rfl))) (by decide) (backOf (W := 0) (own_rm5 l Z a0 hw [] b46 v4 v34 Tg57.heap n0 Zz_1 F_5 F_6) hZ (hw _ (List.mem_of_getElem? (i := 32) rfl)) (hw _ (List.mem_of_getElem? (i := 8) rfl)) (by decide) (by decide)) qg64a qg64c (g := (mkF m 64 #[.val (.int p0), .val (.long q1), .second, .val (.long q2), .second, .val (.long q3), .second, .val (.int p4), .val (.int v4), .val (.long v34), .second, .val (.ref b46), .unset, .unset, .unset, .unset] [(.ref b46)])) rfl (by rw [hml]; rfl) (Steps.refl _) (argsL := []) (rest := []) (lenOf own_pd3 rfl) rfl (by show 2 * 0 + _ ≤ _; exact Nat.le_of_eq rfl) (hb hby at_64) (fun _ _ => ⟨rfl, rfl, (by decide : 1 + 0 ≤ _), (by decide : 4 + 0 ≤ _)⟩)
    dsimp only [Pt.U, Pt.locs, Pt.cells, Pt.slots] at Xg64 lg64 yg64 zg64 stg64 hQg64
    subst lg64 yg64 zg64
    obtain ⟨rfl, Ng64q, eg64⟩ := hQg64
    have Ng64 := Fr.app Ng57 Ng64q
    refine own_st (fun _ k => stg64.trans k) ?_
    obtain ⟨v67, hv67⟩ : ∃ z : Int64, z = (if (0 : Int64) < ((v4.toInt64) - v34) then ((v4.toInt64) - v34) else (0 : Int64)) := ⟨_, rfl⟩
    refine own_st (B := Tg64.setTop (mkF m 75 #[.val (.int p0), .val (.long q1), .second, .val (.long q2), .second, .val (.long q3), .second, .val (.int p4), .val (.int v4), .val (.long v34), .second, .val (.ref b46), .val (.long v67), .second, .unset, .unset] [(.int (lcmpW v34 (v4.toInt64)))])) (fun target kt => ?_) ?_
    · show Steps p.tables e below (Tg64.setTop (mkF m 67 #[.val (.int p0), .val (.long q1), .second, .val (.long q2), .second, .val (.long q3), .second, .val (.int p4), .val (.int v4), .val (.long v34), .second, .val (.ref b46), .unset, .unset, .unset, .unset] [(.long (if (0 : Int64) < ((v4.toInt64) - v34) then ((v4.toInt64) - v34) else (0 : Int64)))])) target
      refine XS.lstore Xg64.here hx rfl (hb hby at_67) rfl (l' := #[.val (.int p0), .val (.long q1), .second, .val (.long q2), .second, .val (.long q3), .second, .val (.int p4), .val (.int v4), .val (.long v34), .second, .val (.ref b46), .val (.long v67), .second, .unset, .unset]) (by subst hv67; rfl) ?_
      show Steps p.tables e below (Tg64.setTop (mkF m 69 #[.val (.int p0), .val (.long q1), .second, .val (.long q2), .second, .val (.long q3), .second, .val (.int p4), .val (.int v4), .val (.long v34), .second, .val (.ref b46), .val (.long v67), .second, .unset, .unset] [])) target
      refine XS.lload Xg64.here hx rfl (hb hby at_69) rfl ?_
      show Steps p.tables e below (Tg64.setTop (mkF m 71 #[.val (.int p0), .val (.long q1), .second, .val (.long q2), .second, .val (.long q3), .second, .val (.int p4), .val (.int v4), .val (.long v34), .second, .val (.ref b46), .val (.long v67), .second, .unset, .unset] [(.long v34)])) target
      refine XS.iload Xg64.here hx rfl (hb hby at_71) rfl ?_
      show Steps p.tables e below (Tg64.setTop (mkF m 73 #[.val (.int p0), .val (.long q1), .second, .val (.long q2), .second, .val (.long q3), .second, .val (.int p4), .val (.int v4), .val (.long v34), .second, .val (.ref b46), .val (.long v67), .second, .unset, .unset] [(.int v4), (.long v34)])) target
      refine XS.i2l Xg64.here hx rfl (hb hby at_73) rfl ?_
      show Steps p.tables e below (Tg64.setTop (mkF m 74 #[.val (.int p0), .val (.long q1), .second, .val (.long q2), .second, .val (.long q3), .second, .val (.int p4), .val (.int v4), .val (.long v34), .second, .val (.ref b46), .val (.long v67), .second, .unset, .unset] [(.long (v4.toInt64)), (.long v34)])) target
      refine XS.lcmp Xg64.here hx rfl (hb hby at_74) rfl ?_
      exact kt
    by_cases c75 : v34 < (v4.toInt64)
    · obtain ⟨v97, hv97⟩ : ∃ z : Int64, z = ((v4.toInt64) - v34) := ⟨_, rfl⟩
      refine own_st (B := Tg64.setTop (mkF m 104 #[.val (.int p0), .val (.long q1), .second, .val (.long q2), .second, .val (.long q3), .second, .val (.int p4), .val (.int v4), .val (.long v34), .second, .val (.ref b46), .val (.long v67), .second, .val (.long v97), .second] [(.int (lcmpW v67 v97))])) (fun target kt => ?_) ?_
      · show Steps p.tables e below (Tg64.setTop (mkF m 75 #[.val (.int p0), .val (.long q1), .second, .val (.long q2), .second, .val (.long q3), .second, .val (.int p4), .val (.int v4), .val (.long v34), .second, .val (.ref b46), .val (.long v67), .second, .unset, .unset] [(.int (lcmpW v34 (v4.toInt64)))])) target
        refine XS.ifYes Xg64.here hx rfl (pc0 := 75) (pc' := 91) rfl (hb hby at_75) rfl ((if0 _ _).trans (tlt ((lw_lt v34 (v4.toInt64)).mpr c75)).1) (by decide) (by decide) ?_
        show Steps p.tables e below (Tg64.setTop (mkF m 91 #[.val (.int p0), .val (.long q1), .second, .val (.long q2), .second, .val (.long q3), .second, .val (.int p4), .val (.int v4), .val (.long v34), .second, .val (.ref b46), .val (.long v67), .second, .unset, .unset] [])) target
        refine XS.iload Xg64.here hx rfl (hb hby at_91) rfl ?_
        show Steps p.tables e below (Tg64.setTop (mkF m 93 #[.val (.int p0), .val (.long q1), .second, .val (.long q2), .second, .val (.long q3), .second, .val (.int p4), .val (.int v4), .val (.long v34), .second, .val (.ref b46), .val (.long v67), .second, .unset, .unset] [(.int v4)])) target
        refine XS.i2l Xg64.here hx rfl (hb hby at_93) rfl ?_
        show Steps p.tables e below (Tg64.setTop (mkF m 94 #[.val (.int p0), .val (.long q1), .second, .val (.long q2), .second, .val (.long q3), .second, .val (.int p4), .val (.int v4), .val (.long v34), .second, .val (.ref b46), .val (.long v67), .second, .unset, .unset] [(.long (v4.toInt64))])) target
        refine XS.lload Xg64.here hx rfl (hb hby at_94) rfl ?_
        show Steps p.tables e below (Tg64.setTop (mkF m 96 #[.val (.int p0), .val (.long q1), .second, .val (.long q2), .second, .val (.long q3), .second, .val (.int p4), .val (.int v4), .val (.long v34), .second, .val (.ref b46), .val (.long v67), .second, .unset, .unset] [(.long v34), (.long (v4.toInt64))])) target
        refine XS.lsub Xg64.here hx rfl (hb hby at_96) rfl ?_
        show Steps p.tables e below (Tg64.setTop (mkF m 97 #[.val (.int p0), .val (.long q1), .second, .val (.long q2), .second, .val (.long q3), .second, .val (.int p4), .val (.int v4), .val (.long v34), .second, .val (.ref b46), .val (.long v67), .second, .unset, .unset] [(.long ((v4.toInt64) - v34))])) target
        refine XS.lstore Xg64.here hx rfl (hb hby at_97) rfl (l' := #[.val (.int p0), .val (.long q1), .second, .val (.long q2), .second, .val (.long q3), .second, .val (.int p4), .val (.int v4), .val (.long v34), .second, .val (.ref b46), .val (.long v67), .second, .val (.long v97), .second]) (by subst hv97; rfl) ?_
        show Steps p.tables e below (Tg64.setTop (mkF m 99 #[.val (.int p0), .val (.long q1), .second, .val (.long q2), .second, .val (.long q3), .second, .val (.int p4), .val (.int v4), .val (.long v34), .second, .val (.ref b46), .val (.long v67), .second, .val (.long v97), .second] [])) target
        refine XS.lload Xg64.here hx rfl (hb hby at_99) rfl ?_
        show Steps p.tables e below (Tg64.setTop (mkF m 101 #[.val (.int p0), .val (.long q1), .second, .val (.long q2), .second, .val (.long q3), .second, .val (.int p4), .val (.int v4), .val (.long v34), .second, .val (.ref b46), .val (.long v67), .second, .val (.long v97), .second] [(.long v67)])) target
        refine XS.lload Xg64.here hx rfl (hb hby at_101) rfl ?_
        show Steps p.tables e below (Tg64.setTop (mkF m 103 #[.val (.int p0), .val (.long q1), .second, .val (.long q2), .second, .val (.long q3), .second, .val (.int p4), .val (.int v4), .val (.long v34), .second, .val (.ref b46), .val (.long v67), .second, .val (.long v97), .second] [(.long v97), (.long v67)])) target
        refine XS.lcmp Xg64.here hx rfl (hb hby at_103) rfl ?_
        exact kt
      have c104 : v67 = v97 := by
        rw [hv67, hv97]
        exact ((own_rem _ _ hl hu).2 c75).1
      refine own_st (B := Tg64.setTop (mkF m 111 #[.val (.int p0), .val (.long q1), .second, .val (.long q2), .second, .val (.long q3), .second, .val (.int p4), .val (.int v4), .val (.long v34), .second, .val (.ref b46), .val (.long v67), .second, .val (.long v97), .second] [(.int (lcmpW v67 (0 : Int64)))])) (fun target kt => ?_) ?_
      · show Steps p.tables e below (Tg64.setTop (mkF m 104 #[.val (.int p0), .val (.long q1), .second, .val (.long q2), .second, .val (.long q3), .second, .val (.int p4), .val (.int v4), .val (.long v34), .second, .val (.ref b46), .val (.long v67), .second, .val (.long v97), .second] [(.int (lcmpW v67 v97))])) target
        refine XS.ifNo Xg64.here hx rfl (hb hby at_104) rfl ((if0 _ _).trans (teq ((lw_eq v67 v97).mpr c104)).2) ?_
        show Steps p.tables e below (Tg64.setTop (mkF m 107 #[.val (.int p0), .val (.long q1), .second, .val (.long q2), .second, .val (.long q3), .second, .val (.int p4), .val (.int v4), .val (.long v34), .second, .val (.ref b46), .val (.long v67), .second, .val (.long v97), .second] [])) target
        refine XS.lload Xg64.here hx rfl (hb hby at_107) rfl ?_
        show Steps p.tables e below (Tg64.setTop (mkF m 109 #[.val (.int p0), .val (.long q1), .second, .val (.long q2), .second, .val (.long q3), .second, .val (.int p4), .val (.int v4), .val (.long v34), .second, .val (.ref b46), .val (.long v67), .second, .val (.long v97), .second] [(.long v67)])) target
        refine XS.lconst Xg64.here hx rfl (hb hby at_109) ?_
        show Steps p.tables e below (Tg64.setTop (mkF m 110 #[.val (.int p0), .val (.long q1), .second, .val (.long q2), .second, .val (.long q3), .second, .val (.int p4), .val (.int v4), .val (.long v34), .second, .val (.ref b46), .val (.long v67), .second, .val (.long v97), .second] [(.long (0 : Int64)), (.long v67)])) target
        refine XS.lcmp Xg64.here hx rfl (hb hby at_110) rfl ?_
        exact kt
      have c111 : (0 : Int64) < v67 := by
        rw [hv67]
        exact ((own_rem _ _ hl hu).2 c75).2
      refine own_st (B := Tg64.setTop (mkF m 119 #[.val (.int p0), .val (.long q1), .second, .val (.long q2), .second, .val (.long q3), .second, .val (.int p4), .val (.int v4), .val (.long v34), .second, .val (.ref b46), .val (.long v67), .second, .val (.long v97), .second] [(.int (1 : Int32))])) (fun target kt => ?_) ?_
      · show Steps p.tables e below (Tg64.setTop (mkF m 111 #[.val (.int p0), .val (.long q1), .second, .val (.long q2), .second, .val (.long q3), .second, .val (.int p4), .val (.int v4), .val (.long v34), .second, .val (.ref b46), .val (.long v67), .second, .val (.long v97), .second] [(.int (lcmpW v67 (0 : Int64)))])) target
        refine XS.ifNo Xg64.here hx rfl (hb hby at_111) rfl ((if0 _ _).trans (tlt ((lw_gt v67 (0 : Int64)).mpr c111)).2.2.2) ?_
        show Steps p.tables e below (Tg64.setTop (mkF m 114 #[.val (.int p0), .val (.long q1), .second, .val (.long q2), .second, .val (.long q3), .second, .val (.int p4), .val (.int v4), .val (.long v34), .second, .val (.ref b46), .val (.long v67), .second, .val (.long v97), .second] [])) target
        refine XS.iconst Xg64.here hx rfl (hb hby at_114) ?_
        show Steps p.tables e below (Tg64.setTop (mkF m 115 #[.val (.int p0), .val (.long q1), .second, .val (.long q2), .second, .val (.long q3), .second, .val (.int p4), .val (.int v4), .val (.long v34), .second, .val (.ref b46), .val (.long v67), .second, .val (.long v97), .second] [(.int (1 : Int32))])) target
        refine XS.goto Xg64.here hx rfl (pc0 := 115) (pc' := 119) rfl (hb hby at_115) (by decide) (by decide) ?_
        exact kt
      obtain ⟨fs, hr, hrun, hended, hW, hsame⟩ := Xg64.leave (v := some (.int (1 : Int32))) (fun h => by rw [Bd.returns] at h; cases h)
      have hend : Steps p.tables e below (Tg64.setTop (mkF m 119 #[.val (.int p0), .val (.long q1), .second, .val (.long q2), .second, .val (.long q3), .second, .val (.int p4), .val (.int v4), .val (.long v34), .second, .val (.ref b46), .val (.long v67), .second, .val (.long v97), .second] [(.int (1 : Int32))])) (Tg64.setFrames fs) := by
        exact retN Xg64 hx (t := .boolean) Bd.returns (by simp) (hb hby at_119) hr
      refine own_fin hend ⟨_, hrun, hended, _, _, rfl, ?_, ⟨_, rfl⟩, hW, hsame.mono (by decide) (by decide)⟩
      show own_Q0 Z p0 q1 q2 q3 p4 h0 n0 _ Tg64.heap _
      rw [eg64]
      exact ⟨rfl, Ng64⟩
    · refine own_st (B := Tg64.setTop (mkF m 82 #[.val (.int p0), .val (.long q1), .second, .val (.long q2), .second, .val (.long q3), .second, .val (.int p4), .val (.int v4), .val (.long v34), .second, .val (.ref b46), .val (.long v67), .second, .unset, .unset] [(.int (lcmpW v67 (0 : Int64)))])) (fun target kt => ?_) ?_
      · show Steps p.tables e below (Tg64.setTop (mkF m 75 #[.val (.int p0), .val (.long q1), .second, .val (.long q2), .second, .val (.long q3), .second, .val (.int p4), .val (.int v4), .val (.long v34), .second, .val (.ref b46), .val (.long v67), .second, .unset, .unset] [(.int (lcmpW v34 (v4.toInt64)))])) target
        refine XS.ifNo Xg64.here hx rfl (hb hby at_75) rfl ((if0 _ _).trans (flt (fun q => c75 ((lw_lt v34 (v4.toInt64)).mp q))).1) ?_
        show Steps p.tables e below (Tg64.setTop (mkF m 78 #[.val (.int p0), .val (.long q1), .second, .val (.long q2), .second, .val (.long q3), .second, .val (.int p4), .val (.int v4), .val (.long v34), .second, .val (.ref b46), .val (.long v67), .second, .unset, .unset] [])) target
        refine XS.lload Xg64.here hx rfl (hb hby at_78) rfl ?_
        show Steps p.tables e below (Tg64.setTop (mkF m 80 #[.val (.int p0), .val (.long q1), .second, .val (.long q2), .second, .val (.long q3), .second, .val (.int p4), .val (.int v4), .val (.long v34), .second, .val (.ref b46), .val (.long v67), .second, .unset, .unset] [(.long v67)])) target
        refine XS.lconst Xg64.here hx rfl (hb hby at_80) ?_
        show Steps p.tables e below (Tg64.setTop (mkF m 81 #[.val (.int p0), .val (.long q1), .second, .val (.long q2), .second, .val (.long q3), .second, .val (.int p4), .val (.int v4), .val (.long v34), .second, .val (.ref b46), .val (.long v67), .second, .unset, .unset] [(.long (0 : Int64)), (.long v67)])) target
        refine XS.lcmp Xg64.here hx rfl (hb hby at_81) rfl ?_
        exact kt
      have c82 : v67 = (0 : Int64) := by
        rw [hv67]
        exact (own_rem _ _ hl hu).1 c75
      refine own_st (B := Tg64.setTop (mkF m 90 #[.val (.int p0), .val (.long q1), .second, .val (.long q2), .second, .val (.long q3), .second, .val (.int p4), .val (.int v4), .val (.long v34), .second, .val (.ref b46), .val (.long v67), .second, .unset, .unset] [(.int (1 : Int32))])) (fun target kt => ?_) ?_
      · show Steps p.tables e below (Tg64.setTop (mkF m 82 #[.val (.int p0), .val (.long q1), .second, .val (.long q2), .second, .val (.long q3), .second, .val (.int p4), .val (.int v4), .val (.long v34), .second, .val (.ref b46), .val (.long v67), .second, .unset, .unset] [(.int (lcmpW v67 (0 : Int64)))])) target
        refine XS.ifNo Xg64.here hx rfl (hb hby at_82) rfl ((if0 _ _).trans (teq ((lw_eq v67 (0 : Int64)).mpr c82)).2) ?_
        show Steps p.tables e below (Tg64.setTop (mkF m 85 #[.val (.int p0), .val (.long q1), .second, .val (.long q2), .second, .val (.long q3), .second, .val (.int p4), .val (.int v4), .val (.long v34), .second, .val (.ref b46), .val (.long v67), .second, .unset, .unset] [])) target
        refine XS.iconst Xg64.here hx rfl (hb hby at_85) ?_
        show Steps p.tables e below (Tg64.setTop (mkF m 86 #[.val (.int p0), .val (.long q1), .second, .val (.long q2), .second, .val (.long q3), .second, .val (.int p4), .val (.int v4), .val (.long v34), .second, .val (.ref b46), .val (.long v67), .second, .unset, .unset] [(.int (1 : Int32))])) target
        refine XS.goto Xg64.here hx rfl (pc0 := 86) (pc' := 90) rfl (hb hby at_86) (by decide) (by decide) ?_
        exact kt
      obtain ⟨fs, hr, hrun, hended, hW, hsame⟩ := Xg64.leave (v := some (.int (1 : Int32))) (fun h => by rw [Bd.returns] at h; cases h)
      have hend : Steps p.tables e below (Tg64.setTop (mkF m 90 #[.val (.int p0), .val (.long q1), .second, .val (.long q2), .second, .val (.long q3), .second, .val (.int p4), .val (.int v4), .val (.long v34), .second, .val (.ref b46), .val (.long v67), .second, .unset, .unset] [(.int (1 : Int32))])) (Tg64.setFrames fs) := by
        exact retN Xg64 hx (t := .boolean) Bd.returns (by simp) (hb hby at_90) hr
      refine own_fin hend ⟨_, hrun, hended, _, _, rfl, ?_, ⟨_, rfl⟩, hW, hsame.mono (by decide) (by decide)⟩
      show own_Q0 Z p0 q1 q2 q3 p4 h0 n0 _ Tg64.heap _
      rw [eg64]
      exact ⟨rfl, Ng64⟩
set_option maxRecDepth 65536 in
set_option maxHeartbeats 40000000 in
theorem own_comes_1 {Post : Tables → Env → Array Value → State → Outcome → State → Prop} (hpost : ∀ tb e args s v u, (limb_1_1.after args s (.returned v) u = true ∧ limb_1_2.after args s (.returned v) u = true ∧ True) → FrameEnd s (.returned v) u (Jvm.fieldLocs frame_1_writes args s ++ Jvm.arrayLocs frame_1_arrays args s ++ Jvm.staticLocs frame_1_statics s) 16 128 → Post tb e args s (.returned v) u) :
    ArmFor flags0 classFile x code maxLocals ret World_1 tables_1 room_1 Calls_1 rest_1 Pre_1 Post := by
  intro l hfl _ _ p e ha hc hk s m args below hf hA hF happ hP
  obtain ⟨hcalls, hrest, hpre⟩ := hP
  obtain ⟨-, -, -, hnamed, -, -, -, hat⟩ := (Spec.applies_iff hf).mp happ
  obtain ⟨hg, hn⟩ := and_e (Cond.before_iff.mp (show (Jvm.Cond.and given_1 narrow_1).before args s = true from hpre))
  obtain ⟨g1, g2⟩ := and_e hg
  obtain ⟨g3, g4⟩ := and_e g2
  obtain ⟨g5, g6⟩ := and_e g4
  obtain ⟨g7, g8⟩ := and_e g6
  obtain ⟨g9, g10⟩ := and_e g8
  obtain ⟨w0, w1, w2, w3, w4, rfl⟩ : ∃ w0 w1 w2 w3 w4 : Value, args = #[w0, w1, w2, w3, w4] := by
    have hs : args.size = 5 := by simpa [Cond.value, given_1] using g1
    obtain ⟨L⟩ := args
    match L, hs with
    | [w0, w1, w2, w3, w4], _ => exact ⟨w0, w1, w2, w3, w4, rfl⟩
  have hw := fun d (hd : d ∈ tables_1) => atoms_spec (ws := Jvm.Cond.code x code maxLocals ret :: tables_1) hat d (List.mem_cons_of_mem _ hd)
  obtain ⟨i0, ei0⟩ := is_v g3
  obtain rfl : w0 = (.int i0) := Option.some.inj ei0
  obtain ⟨i1, ei1⟩ := isL_v g5
  obtain rfl : w1 = (.long i1) := Option.some.inj ei1
  obtain ⟨i2, ei2⟩ := isL_v g7
  obtain rfl : w2 = (.long i2) := Option.some.inj ei2
  obtain ⟨i3, ei3⟩ := isL_v g9
  obtain rfl : w3 = (.long i3) := Option.some.inj ei3
  obtain ⟨i4, ei4⟩ := is_v g10
  obtain rfl : w4 = (.int i4) := Option.some.inj ei4
  obtain ⟨n, o, h1, h2, h3, _, L, rfl, ⟨rfl, N⟩, hq⟩ := own_rm0 l s _ hw tables_1 i0 i1 i2 i3 i4 s.heap s.heap.size (Nat.le_refl _) p e ha hc hk s m _ below hf ((Spec.applies_iff_loose hf).mp happ).1 ⟨rfl, State.Warmed39.refl s, rfl⟩ trivial
  refine ⟨n, _, h1, h2, h3, hpost _ _ _ _ _ _ ⟨Cond.after_iff.mpr rfl, Cond.after_iff.mpr (eq_i res_at (Term.int_eval (1)) rfl), trivial⟩ ⟨hq.1, hq.2.1, (hq.2.2.sift fun y hy => Or.inr (N y hy)).mono (by decide) (by decide)⟩⟩
theorem main_1_1 : Claimed_1_1 := own_comes_1 fun _ _ _ _ _ _ h hF => ⟨h.1, hF⟩
theorem main_1_2 : Claimed_1_2 := own_comes_1 fun _ _ _ _ _ _ h hF => ⟨h.2.1, hF⟩
end Jvm.Pilot.@@N@@
namespace Jvm.Pilot.@@N@@
open Jvm Jvm.ClassFile Sem Op Lib Jvm.Free Jvm.Stand Jvm.Pilot.@@N@@.Jvm.D
/-! MADE BY PROGRAM (witnessworld.py) out of the Statement's table words and the real class files: 11 classes; the members and pool entries that the words name. The judged class is class 1, her method 1. -/
namespace start1
open Jvm.ClassFile
def u (s : String) : CpInfo := .utf8 (stringToUtf16 s)
/-- a pool by its gaps: so many unusable entries, then the entry; so many at the end -/
def gap : Nat → List CpInfo → List CpInfo
  | 0, r => r
  | n + 1, r => .unusable :: gap n r
def poolList (es : List (Nat × CpInfo)) (last : Nat) : List CpInfo := es.foldr (fun e r => gap e.1 (e.2 :: r)) (gap last [])
def pool (es : List (Nat × CpInfo)) (last : Nat) : Array CpInfo := ⟨poolList es last⟩
def fileOf (pool : Array CpInfo) (this : Nat) (attrs : Array Attribute := #[]) (ms : Array MethodInfo := #[]) (fl : Nat := 33) (sup : Nat := 0) (ifs : Array Nat := #[]) (fds : Array FieldInfo := #[]) : ClassFile where
  minorVersion := 0
  majorVersion := 65
  constantPool := pool
  accessFlags := fl
  thisClass := this
  superClass := sup
  interfaces := ifs
  fields := fds
  methods := ms
  attributes := attrs
def plain (name : String) (sup : Option ClassId) : Class where
  name := name
  kind := .ordinary
  loader := none
  accessFlags := 33
  super := sup
  interfaces := #[]
  cf := none
  fields := #[]
  methods := #[]
  instanceTypes := #[]
  staticTypes := #[]
  resolved := #[]
  callSites := []
  init := .initialized
  statics := none
  mirror := none

def pool0 : Array CpInfo := pool [(5, u "<init>"), (0, u "()V"), (1, .class_ 10), (1, u "java/lang/Object")] 113

def k0c0 : Code := { maxStack := 0, maxLocals := 1, code := object_method_1_code, exceptionTable := #[], attributes := #[] }
def k0m0 : Method := { name := "<init>", desc := "()V", sig := { parameters := [], returnType := none }, accessFlags := 1, code := some k0c0 }
/-- java/lang/Object -/
def k0 : Class := { plain "java/lang/Object" none with
  accessFlags := 33
  interfaces := #[]
  cf := some (fileOf pool0 8 #[] #[{ accessFlags := 1, nameIndex := 5, descriptorIndex := 6, attributes := #[] }] 33 0 #[] #[])
  fields := #[]
  methods := #[k0m0]
  instanceTypes := #[]
  staticTypes := #[]
  resolved := Array.replicate 124 none
  statics := none }

def pool1 : Array CpInfo := pool [(2, .class_ 4), (1, u "java/lang/Object"), (0, u "<init>"), (0, u "()V"), (0, .integer 2147483647), (0, .long 7), (1, .methodref 11 12), (0, .class_ 13), (0, .nameAndType 14 15), (0, u "java/lang/Math"), (0, u "max"), (0, u "(JJ)J"), (2, .long 9223372036854775807), (1, .class_ 21), (0, u "com/example/even_throttle/eventhrottle/Quota"), (0, .methodref 20 23), (0, .nameAndType 5 24), (0, u "(IJJJ)V"), (0, .methodref 20 26), (0, .nameAndType 27 28), (0, u "remaining"), (0, u "()J"), (0, .class_ 30), (0, u "com/example/even_throttle/eventhrottle/QuotaRemainingPinLaw"), (2, u "law"), (0, u "(IJJJI)Z")] 3

def k1m0 : Method := { name := "<init>", desc := "()V", sig := { parameters := [], returnType := none }, accessFlags := 1, code := none }
def k1c1 : Code := { maxStack := 9, maxLocals := 16, code := code, exceptionTable := #[], attributes := #[] }
def k1m1 : Method := { name := "law", desc := "(IJJJI)Z", sig := { parameters := [.int, .long, .long, .long, .int], returnType := some .boolean }, accessFlags := 9, code := some k1c1 }
/-- com/example/even_throttle/eventhrottle/QuotaRemainingPinLaw -/
def k1 : Class := { plain "com/example/even_throttle/eventhrottle/QuotaRemainingPinLaw" (some 0) with
  accessFlags := 49
  interfaces := #[]
  cf := some (fileOf pool1 29 #[] #[{ accessFlags := 1, nameIndex := 5, descriptorIndex := 6, attributes := #[] }, { accessFlags := 9, nameIndex := 33, descriptorIndex := 34, attributes := #[] }] 49 2 #[] #[])
  fields := #[]
  methods := #[k1m0, k1m1]
  instanceTypes := #[]
  staticTypes := #[]
  resolved := Array.replicate 38 none
  statics := none }

def pool2 : Array CpInfo := pool [(1, .class_ 2), (0, u "java/lang/Math"), (1, .class_ 6), (1, u "java/lang/Object"), (0, u "<init>"), (0, u "()V"), (89, .class_ 100), (1, u "java/lang/Math$RandomNumberGeneratorHolder"), (20, u "(JJ)J"), (50, u "negativeZeroFloatBits"), (0, u "J"), (2, u "negativeZeroDoubleBits"), (21, u "max"), (46, u "$assertionsDisabled"), (0, u "Z"), (91, u "twoToTheDoubleScaleDown"), (0, u "D"), (4, u "twoToTheDoubleScaleUp"), (9, u "E"), (3, u "PI"), (2, u "TAU"), (2, u "DEGREES_TO_RADIANS"), (0, u "RADIANS_TO_DEGREES")] 94

def k2m0 : Method := { name := "<init>", desc := "()V", sig := { parameters := [], returnType := none }, accessFlags := 2, code := none }
def k2c1 : Code := { maxStack := 4, maxLocals := 4, code := jdk_29_method_66_code, exceptionTable := #[], attributes := #[] }
def k2m1 : Method := { name := "max", desc := "(JJ)J", sig := { parameters := [.long, .long], returnType := some .long }, accessFlags := 9, code := some k2c1 }
/-- java/lang/Math -/
def k2 : Class := { plain "java/lang/Math" (some 0) with
  accessFlags := 49
  interfaces := #[]
  cf := some (fileOf pool2 1 #[.nestMembers #[98]] #[{ accessFlags := 2, nameIndex := 7, descriptorIndex := 8, attributes := #[] }, { accessFlags := 9, nameIndex := 198, descriptorIndex := 121, attributes := #[] }] 49 4 #[] #[{ accessFlags := 25, nameIndex := 354, descriptorIndex := 339, attributes := #[] }, { accessFlags := 25, nameIndex := 358, descriptorIndex := 339, attributes := #[] }, { accessFlags := 25, nameIndex := 361, descriptorIndex := 339, attributes := #[] }, { accessFlags := 26, nameIndex := 364, descriptorIndex := 339, attributes := #[] }, { accessFlags := 26, nameIndex := 365, descriptorIndex := 339, attributes := #[] }, { accessFlags := 26, nameIndex := 172, descriptorIndex := 173, attributes := #[] }, { accessFlags := 26, nameIndex := 176, descriptorIndex := 173, attributes := #[] }, { accessFlags := 8, nameIndex := 344, descriptorIndex := 339, attributes := #[] }, { accessFlags := 8, nameIndex := 338, descriptorIndex := 339, attributes := #[] }, { accessFlags := 4120, nameIndex := 245, descriptorIndex := 246, attributes := #[] }])
  fields := #[{ name := "E", type := .double, accessFlags := 25, slot := 0, constantValue := 0 }, { name := "PI", type := .double, accessFlags := 25, slot := 1, constantValue := 0 }, { name := "TAU", type := .double, accessFlags := 25, slot := 2, constantValue := 0 }, { name := "DEGREES_TO_RADIANS", type := .double, accessFlags := 26, slot := 3, constantValue := 0 }, { name := "RADIANS_TO_DEGREES", type := .double, accessFlags := 26, slot := 4, constantValue := 0 }, { name := "negativeZeroFloatBits", type := .long, accessFlags := 26, slot := 5, constantValue := 0 }, { name := "negativeZeroDoubleBits", type := .long, accessFlags := 26, slot := 6, constantValue := 0 }, { name := "twoToTheDoubleScaleUp", type := .double, accessFlags := 8, slot := 7, constantValue := 0 }, { name := "twoToTheDoubleScaleDown", type := .double, accessFlags := 8, slot := 8, constantValue := 0 }, { name := "$assertionsDisabled", type := .boolean, accessFlags := 4120, slot := 9, constantValue := 0 }]
  methods := #[k2m0, k2m1]
  instanceTypes := #[]
  staticTypes := #[.double, .double, .double, .double, .double, .long, .long, .double, .double, .boolean]
  resolved := Array.replicate 460 none
  statics := none }

def pool3 : Array CpInfo := pool [(1, .methodref 2 3), (0, .class_ 4), (0, .nameAndType 5 6), (0, u "java/lang/Object"), (0, u "<init>"), (0, u "()V"), (0, .class_ 8), (0, u "java/lang/Record")] 13

def k3c0 : Code := { maxStack := 1, maxLocals := 1, code := jdk_30_method_1_code, exceptionTable := #[], attributes := #[] }
def k3m0 : Method := { name := "<init>", desc := "()V", sig := { parameters := [], returnType := none }, accessFlags := 4, code := some k3c0 }
/-- java/lang/Record -/
def k3 : Class := { plain "java/lang/Record" (some 0) with
  accessFlags := 1057
  interfaces := #[]
  cf := some (fileOf pool3 7 #[] #[{ accessFlags := 4, nameIndex := 5, descriptorIndex := 6, attributes := #[] }] 1057 2 #[] #[])
  fields := #[]
  methods := #[k3m0]
  instanceTypes := #[]
  staticTypes := #[]
  resolved := Array.replicate 22 none
  statics := none }

def pool4 : Array CpInfo := pool [(1, .methodref 2 3), (0, .class_ 4), (0, .nameAndType 5 6), (0, u "java/lang/Record"), (0, u "<init>"), (0, u "()V"), (0, .fieldref 8 9), (0, .class_ 10), (0, .nameAndType 11 12), (0, u "com/example/even_throttle/eventhrottle/Quota"), (0, u "limit"), (0, u "I"), (0, .fieldref 8 14), (0, .nameAndType 15 16), (0, u "used"), (0, u "J"), (0, .fieldref 8 18), (0, .nameAndType 19 16), (0, u "reset"), (0, .fieldref 8 21), (0, .nameAndType 22 16), (0, u "untilReset"), (8, u "(IJJJ)V"), (0, .methodref 33 34), (0, .class_ 35), (0, .nameAndType 36 37), (0, u "java/lang/Math"), (0, u "max"), (0, u "(JJ)J"), (20, u "remaining"), (0, u "()J")] 26

def k4c0 : Code := { maxStack := 3, maxLocals := 8, code := prog_6_method_1_code, exceptionTable := #[], attributes := #[] }
def k4m0 : Method := { name := "<init>", desc := "(IJJJ)V", sig := { parameters := [.int, .long, .long, .long], returnType := none }, accessFlags := 0, code := some k4c0 }
def k4c1 : Code := { maxStack := 6, maxLocals := 1, code := prog_6_method_4_code, exceptionTable := #[], attributes := #[] }
def k4m1 : Method := { name := "remaining", desc := "()J", sig := { parameters := [], returnType := some .long }, accessFlags := 0, code := some k4c1 }
/-- com/example/even_throttle/eventhrottle/Quota -/
def k4 : Class := { plain "com/example/even_throttle/eventhrottle/Quota" (some 3) with
  accessFlags := 48
  interfaces := #[]
  cf := some (fileOf pool4 8 #[] #[{ accessFlags := 0, nameIndex := 5, descriptorIndex := 31, attributes := #[] }, { accessFlags := 0, nameIndex := 58, descriptorIndex := 59, attributes := #[] }] 48 2 #[] #[{ accessFlags := 18, nameIndex := 11, descriptorIndex := 12, attributes := #[] }, { accessFlags := 18, nameIndex := 15, descriptorIndex := 16, attributes := #[] }, { accessFlags := 18, nameIndex := 19, descriptorIndex := 16, attributes := #[] }, { accessFlags := 18, nameIndex := 22, descriptorIndex := 16, attributes := #[] }])
  fields := #[{ name := "limit", type := .int, accessFlags := 18, slot := 0, constantValue := 0 }, { name := "used", type := .long, accessFlags := 18, slot := 1, constantValue := 0 }, { name := "reset", type := .long, accessFlags := 18, slot := 2, constantValue := 0 }, { name := "untilReset", type := .long, accessFlags := 18, slot := 3, constantValue := 0 }]
  methods := #[k4m0, k4m1]
  instanceTypes := #[.int, .long, .long, .long]
  staticTypes := #[]
  resolved := Array.replicate 86 none
  statics := none }

def pool5 : Array CpInfo := pool [(1, u "java/lang/Cloneable"), (0, .class_ 1), (0, u "java/lang/Object"), (0, .class_ 3)] 3

/-- java/lang/Cloneable -/
def k5 : Class := { plain "java/lang/Cloneable" (some 0) with
  accessFlags := 1537
  interfaces := #[]
  cf := some (fileOf pool5 2 #[] #[] 1537 4 #[] #[])
  fields := #[]
  methods := #[]
  instanceTypes := #[]
  staticTypes := #[]
  resolved := Array.replicate 8 none
  statics := none }

def pool6 : Array CpInfo := pool [(1, u "java/io/Serializable"), (0, .class_ 1), (0, u "java/lang/Object"), (0, .class_ 3)] 3

/-- java/io/Serializable -/
def k6 : Class := { plain "java/io/Serializable" (some 0) with
  accessFlags := 1537
  interfaces := #[]
  cf := some (fileOf pool6 2 #[] #[] 1537 4 #[] #[])
  fields := #[]
  methods := #[]
  instanceTypes := #[]
  staticTypes := #[]
  resolved := Array.replicate 8 none
  statics := none }

/-- the primitive byte -/
def k7 : Class := { plain "byte" none with kind := .primitive 'B', accessFlags := 0x411 }
/-- [B -/
def k8 : Class := { plain "[B" (some 0) with kind := .array 7 .byte, interfaces := #[5, 6], accessFlags := 1041 }

/-- the primitive int -/
def k9 : Class := { plain "int" none with kind := .primitive 'I', accessFlags := 0x411 }
/-- [I -/
def k10 : Class := { plain "[I" (some 0) with kind := .array 9 .int, interfaces := #[5, 6], accessFlags := 1041 }

def heap : Heap := #[]
def classes : Array Class := #[k0, k1, k2, k3, k4, k5, k6, k7, k8, k9, k10]
def interned : List (Array UInt16 × Addr) := []
def slotsUsed : Nat := 0
def theMethod : MethodId := ⟨1, 1⟩
def args0 : Array Value := #[.int 3, .long 4, .long 5, .long 6, .int 7]
def aboutOver (below : List Frame) : State where
  vm := { classes := classes, interned := interned.toArray }
  heap := heap
  slotsUsed := slotsUsed
  threads := #[{ frames := .invoking theMethod args0 :: below }]
def below0 : List Frame := [.native { method := ⟨0, 0⟩, args := #[] }]
def about1 : State := aboutOver below0
def p0 : Program := .bare "" "" ""
def e0 : Env := launch0.env 0 0 0
theorem w_frames : about1.frames = Frame.invoking theMethod args0 :: below0 := rfl
set_option maxRecDepth 65536 in
theorem w_args : argsFit about1.vm theMethod args0 = true := by decide +kernel
set_option maxRecDepth 65536 in
theorem w_heap : heapFits about1 = true := by decide +kernel
set_option maxRecDepth 65536 in
theorem w_runnable : about1.curStatus? = some .runnable := by decide +kernel
set_option maxRecDepth 65536 in
theorem w_alone : about1.alone = true := by decide +kernel
set_option maxRecDepth 65536 in
theorem w_named : about1.methodNamed? x = some theMethod := by decide +kernel
set_option maxRecDepth 65536 in
theorem w_hears : about1.hears theMethod below0 = true := by decide +kernel
set_option maxRecDepth 65536 in
theorem w_ripe : about1.ripe theMethod args0 below0 = true := by decide +kernel
theorem w_running : about1.status = .running := rfl
set_option maxRecDepth 65536 in
theorem w_room : about1.hasRoom e0.platform room_1 = true :=
  launch0.hasRoom_least _ room_1 (by decide +kernel) (by decide +kernel) (by decide +kernel) (by decide +kernel) (by decide +kernel) (by decide +kernel)
theorem allAtoms_all (ts : List Jvm.Cond) (a : Array Jvm.Value) (st : Jvm.State) : (allAtoms ts).before a st = ts.all (fun c => c.before a st) := by
  induction ts with
  | nil => rfl
  | cons c t ih =>
    show (Jvm.Cond.and c (allAtoms t)).before a st = _
    rw [Jvm.Cond.before_and, ih, List.all_cons]
def words1 : List Jvm.Cond := Jvm.Cond.code x code maxLocals ret :: tables_1
/-- a 'code' word, met by the world's own term for the bytes: nothing is compared byte by byte -/
theorem code_word {y : MethodName} {bytes : ByteArray} {mx : Nat} {rt : Option FieldType} {a : Array Value} {s : State} {m : MethodId} {meth : Method} {c : Code} (h1 : s.methodNamed? y = some m) (h2 : s.vm.method? m = some meth) (h3 : meth.code = some c) (h4 : c.code = bytes)
    (h5 : (c.maxLocals == mx && c.exceptionTable.isEmpty && decide (c.maxStack ≤ mostOperands) && decide (meth.sig.returnType = rt) && !meth.locks && decide (parseMethodDescriptor y.desc = some meth.sig)) = true) : (Jvm.Cond.code y bytes mx rt).before a s = true := by
  simp only [Bool.and_eq_true, beq_iff_eq, Bool.not_eq_true', decide_eq_true_eq] at h5
  obtain ⟨⟨⟨⟨⟨g1, g2⟩, g3⟩, g4⟩, g5⟩, g6⟩ := h5
  simp [Cond.before, Cond.holds, Cond.value, h1, h2, h3, h4, g1, g2, g3, g4, g5, g6]
def isCode : Jvm.Cond → Bool
  | .code _ _ _ _ => true
  | _ => false
theorem all_split {L : List Jvm.Cond} {P : Jvm.Cond → Bool} (h1 : L.all (fun c => isCode c || P c) = true) (h2 : ∀ c ∈ L.filter isCode, P c = true) : L.all P = true := by
  refine List.all_eq_true.mpr fun c hc => ?_
  have h := List.all_eq_true.mp h1 c hc
  rcases Bool.eq_false_or_eq_true (isCode c) with hi | hi
  · exact h2 c (List.mem_filter.mpr ⟨hc, hi⟩)
  · simpa [hi] using h
set_option maxRecDepth 65536 in
theorem w_c0 : (Jvm.Cond.code x code maxLocals ret).before args0 about1 = true := code_word (m := ⟨1, 1⟩) (meth := k1m1) (c := k1c1) (by decide +kernel) rfl rfl rfl (by decide +kernel)
set_option maxRecDepth 65536 in
theorem w_c1 : (Jvm.Cond.code ({ cls := "java/lang/Math", name := "max", desc := "(JJ)J" } : Jvm.MethodName) jdk_29_method_66_code (4 : Nat) (Option.some Jvm.ClassFile.FieldType.long)).before args0 about1 = true := code_word (m := ⟨2, 1⟩) (meth := k2m1) (c := k2c1) (by decide +kernel) rfl rfl rfl (by decide +kernel)
set_option maxRecDepth 65536 in
theorem w_c2 : (Jvm.Cond.code ({ cls := "com/example/even_throttle/eventhrottle/Quota", name := "<init>", desc := "(IJJJ)V" } : Jvm.MethodName) prog_6_method_1_code (8 : Nat) (Option.none : Option Jvm.ClassFile.FieldType)).before args0 about1 = true := code_word (m := ⟨4, 0⟩) (meth := k4m0) (c := k4c0) (by decide +kernel) rfl rfl rfl (by decide +kernel)
set_option maxRecDepth 65536 in
theorem w_c3 : (Jvm.Cond.code ({ cls := "java/lang/Record", name := "<init>", desc := "()V" } : Jvm.MethodName) jdk_30_method_1_code (1 : Nat) (Option.none : Option Jvm.ClassFile.FieldType)).before args0 about1 = true := code_word (m := ⟨3, 0⟩) (meth := k3m0) (c := k3c0) (by decide +kernel) rfl rfl rfl (by decide +kernel)
set_option maxRecDepth 65536 in
theorem w_c4 : (Jvm.Cond.code ({ cls := "java/lang/Object", name := "<init>", desc := "()V" } : Jvm.MethodName) object_method_1_code (1 : Nat) (Option.none : Option Jvm.ClassFile.FieldType)).before args0 about1 = true := code_word (m := ⟨0, 0⟩) (meth := k0m0) (c := k0c0) (by decide +kernel) rfl rfl rfl (by decide +kernel)
set_option maxRecDepth 65536 in
theorem w_c5 : (Jvm.Cond.code ({ cls := "com/example/even_throttle/eventhrottle/Quota", name := "remaining", desc := "()J" } : Jvm.MethodName) prog_6_method_4_code (1 : Nat) (Option.some Jvm.ClassFile.FieldType.long)).before args0 about1 = true := code_word (m := ⟨4, 1⟩) (meth := k4m1) (c := k4c1) (by decide +kernel) rfl rfl rfl (by decide +kernel)
def codes1 : List Jvm.Cond := [Jvm.Cond.code x code maxLocals ret, Jvm.Cond.code ({ cls := "java/lang/Math", name := "max", desc := "(JJ)J" } : Jvm.MethodName) jdk_29_method_66_code (4 : Nat) (Option.some Jvm.ClassFile.FieldType.long), Jvm.Cond.code ({ cls := "com/example/even_throttle/eventhrottle/Quota", name := "<init>", desc := "(IJJJ)V" } : Jvm.MethodName) prog_6_method_1_code (8 : Nat) (Option.none : Option Jvm.ClassFile.FieldType), Jvm.Cond.code ({ cls := "java/lang/Record", name := "<init>", desc := "()V" } : Jvm.MethodName) jdk_30_method_1_code (1 : Nat) (Option.none : Option Jvm.ClassFile.FieldType), Jvm.Cond.code ({ cls := "java/lang/Object", name := "<init>", desc := "()V" } : Jvm.MethodName) object_method_1_code (1 : Nat) (Option.none : Option Jvm.ClassFile.FieldType), Jvm.Cond.code ({ cls := "com/example/even_throttle/eventhrottle/Quota", name := "remaining", desc := "()J" } : Jvm.MethodName) prog_6_method_4_code (1 : Nat) (Option.some Jvm.ClassFile.FieldType.long)]
set_option maxRecDepth 65536 in
theorem codes_eq : words1.filter isCode = codes1 := rfl
theorem w_codes : ∀ c ∈ words1.filter isCode, c.before args0 about1 = true := by
  rw [codes_eq]
  intro c hc
  simp only [codes1, List.mem_cons, List.not_mem_nil, or_false] at hc
  rcases hc with rfl | rfl | rfl | rfl | rfl | rfl
  · exact w_c0
  · exact w_c1
  · exact w_c2
  · exact w_c3
  · exact w_c4
  · exact w_c5
set_option maxRecDepth 65536 in
theorem w_t1 : (words1.take 24).all (fun c => isCode c || c.before args0 about1) = true := by decide +kernel
set_option maxRecDepth 65536 in
theorem w_t2 : (words1.drop 24).all (fun c => isCode c || c.before args0 about1) = true := by decide +kernel
theorem w_tables : (allAtoms (Jvm.Cond.code x code maxLocals ret :: tables_1)).before args0 about1 = true := by
  rw [allAtoms_all]
  show words1.all (fun c => c.before args0 about1) = true
  refine all_split ?_ w_codes
  rw [← List.take_append_drop 24 words1, List.all_append, w_t1, w_t2]
  rfl
set_option maxRecDepth 65536 in
theorem w_case : (Jvm.Cond.and given_1 narrow_1).before args0 about1 = true := by decide +kernel
theorem w_applies : (headSpec (Jvm.Cond.code x code maxLocals ret :: tables_1) room_1).applies x e0.platform about1 = true :=
  (Spec.applies_iff w_frames).mpr ⟨w_running, w_runnable, w_alone, w_named, w_hears, w_ripe, w_room, w_tables⟩
theorem atStart : AtStart classFile x code maxLocals ret World_1 tables_1 room_1 Calls_1 rest_1 Pre_1 launch0 p0 e0 about1 theMethod args0 below0 :=
  ⟨lists_1, trivial, launch0.admits_env _ _ _, launch0.least_env, fairChoices_fair.cas, fairChoices_fair.clock, w_frames, w_args, w_heap, w_applies, trivial, trivial, w_case⟩
end start1
theorem witness_1 : WitnessClaimed_1 := ⟨start1.p0, start1.e0, start1.about1, start1.theMethod, start1.args0, start1.below0, start1.atStart⟩
end Jvm.Pilot.@@N@@
