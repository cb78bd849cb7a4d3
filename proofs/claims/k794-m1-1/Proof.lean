import JvmDerived
import JvmDerived.Pilot.@@N@@Statement
import JvmDerived.Pilot.@@N@@Code
set_option linter.unusedVariables false
set_option linter.unusedSimpArgs false
namespace Jvm.RoadKit
open Sem ClassFile Op Lib Jvm.Stand Jvm.Free Jvm.LawKit
section New
variable {p : Program} {l : Launch} {e : Env} {R : Room} {s : State} {m : MethodId} {args : Array Value} {below : List Frame} {meth : Method} {c : Code} {T : State} {locs : List Loc} {cells slots : Nat}
theorem retI (X : Stand p l e R s m args below meth c T locs cells slots) (hx : p.tables.exec = Jvm.exec) {pc : Nat} {Ls : Array Slot} {z : Int32} {rest : List Value} (hret : meth.sig.returnType = some .int) (hd : decode c.code pc = .ok (.ireturn, 1)) {fs : List Frame}
    (hl : ∀ (f : JFrame) (acts : List Action), f.method = m → f.locked = none → f.entered = [] → (doReturn e (T.setTop f) acts (some (.int z))).1 = T.setFrames fs) : Steps p.tables e below (T.setTop (mkF m pc Ls (.int z :: rest))) (T.setFrames fs) := by
  have hm' : T.vm.method? m = some meth := X.method'
  have hn : narrow .int (.int z) = .int z := rfl
  show Steps p.tables e below (T.setTop { method := m, pc := pc, locals := Ls, stack := _ :: rest, locked := none }) _
  jvm_step X.here [X.here.top, hx, hd, hm', hret, hn]
  first | (intro acts; rw [hl _ acts rfl rfl rfl]) | rw [hl _ _ rfl rfl rfl]
  exact Steps.refl _
theorem own_retJ (X : Stand p l e R s m args below meth c T locs cells slots) (hx : p.tables.exec = Jvm.exec) {pc : Nat} {Ls : Array Slot} {z : Int64} {rest : List Value} (hret : meth.sig.returnType = some .long) (hd : decode c.code pc = .ok (.lreturn, 1)) {fs : List Frame}
    (hl : ∀ (f : JFrame) (acts : List Action), f.method = m → f.locked = none → f.entered = [] → (doReturn e (T.setTop f) acts (some (.long z))).1 = T.setFrames fs) : Steps p.tables e below (T.setTop (mkF m pc Ls (.long z :: rest))) (T.setFrames fs) := by
  have hm' : T.vm.method? m = some meth := X.method'
  have hn : narrow .long (.long z) = .long z := rfl
  show Steps p.tables e below (T.setTop { method := m, pc := pc, locals := Ls, stack := _ :: rest, locked := none }) _
  jvm_step X.here [X.here.top, hx, hd, hm', hret, hn]
  first | (intro acts; rw [hl _ acts rfl rfl rfl]) | rw [hl _ _ rfl rfl rfl]
  exact Steps.refl _
end New
/-- from the state A the run comes to a state that P describes -/
def own_Lead (tb : Tables) (e : Env) (below : List Frame) (A : State) (P : State → Prop) : Prop := ∃ B, P B ∧ ∀ t, Steps tb e below B t → Steps tb e below A t
theorem own_st {tb : Tables} {e : Env} {below : List Frame} {A B : State} {P : State → Prop} (st : ∀ t, Steps tb e below B t → Steps tb e below A t) (h : own_Lead tb e below B P) : own_Lead tb e below A P := by
  obtain ⟨C, hp, hs⟩ := h
  exact ⟨C, hp, fun t k => st t (hs t k)⟩
theorem own_fin {tb : Tables} {e : Env} {below : List Frame} {A B : State} {P : State → Prop} (st : Steps tb e below A B) (h : P B) : own_Lead tb e below A P := ⟨B, h, fun t k => st.trans k⟩
theorem own_run {tb : Tables} {e : Env} {below : List Frame} {A : State} {K : State → Outcome → Prop} (h : own_Lead tb e below A (fun B => ∃ o, K B o)) : ∃ s₂ o, Steps tb e below A s₂ ∧ K s₂ o := by
  obtain ⟨B, ⟨o, hk⟩, st⟩ := h
  exact ⟨B, o, st B (Steps.refl _), hk⟩
/-- a boolean as an int -/
def own_b (P : Prop) [Decidable P] : Int32 := if P then 1 else 0
theorem own_b1 {P : Prop} [Decidable P] (h : P) : own_b P = 1 := if_pos h
theorem own_b0 {P : Prop} [Decidable P] (h : ¬ P) : own_b P = 0 := if_neg h
theorem own_bi {P Q : Prop} [Decidable P] [Decidable Q] (h : P ↔ Q) : own_b P = own_b Q := by
  by_cases hp : P
  · rw [own_b1 hp, own_b1 (h.mp hp)]
  · rw [own_b0 hp, own_b0 (fun q => hp (h.mpr q))]
theorem own_bj {P Q : Prop} [Decidable P] [Decidable Q] {x : Int32} (hx : x = own_b Q) (h1 : Q → P) (h2 : ¬ Q → ¬ P) : x = own_b P := by
  rw [hx]
  by_cases hq : Q
  · rw [own_b1 hq, own_b1 (h1 hq)]
  · rw [own_b0 hq, own_b0 (h2 hq)]
theorem own_bn0 {P : Prop} [Decidable P] {x : Int32} (hx : x = own_b P) (h : P) : ¬ x = 0 := by rw [hx, own_b1 h]; decide
theorem own_b00 {P : Prop} [Decidable P] {x : Int32} (hx : x = own_b P) (h : ¬ P) : x = 0 := by rw [hx, own_b0 h]
theorem own_bb {P Q : Prop} [Decidable P] [Decidable Q] {x y : Int32} (hx : x = own_b P) (hy : y = own_b Q) (h : P ↔ Q) : x = y := by rw [hx, hy, own_bi h]
theorem own_bnar {P : Prop} [Decidable P] : nar .boolean (own_b P) = own_b P := by
  by_cases hp : P
  · rw [own_b1 hp]; decide
  · rw [own_b0 hp]; decide
theorem own_nar {P : Prop} [Decidable P] {x : Int32} (hx : x = own_b P) : nar .boolean x = own_b P := by rw [hx]; exact own_bnar
theorem own_bfits {x : Int32} (h : narrow .boolean (.int x) = .int x) : fits .boolean (.int x) = true := by
  have := fits_nar_bool x
  have e : nar .boolean x = x := Value.int.inj h
  rwa [e] at this
theorem own_cast {Z : State} {h : Heap} {a : Addr} {C n d : String} {v w : Value} (e : v = w) (F : Fld Z h a C n d v) : Fld Z h a C n d w := e ▸ F
section Copy
variable {p : Program} {l : Launch} {e : Env} {R : Room} {s : State} {m : MethodId} {args : Array Value} {below : List Frame} {meth : Method} {c : Code} {T : State} {locs : List Loc} {cells slots : Nat} {Z : State} {h : Heap} {a b : Addr}
end Copy
section Cold
variable {p : Program} {l : Launch} {e : Env} {R : Room} {s : State} {vm0 : Vm} {m : MethodId} {args : Array Value} {below : List Frame} {meth : Method} {c : Code} {T : State} {locs : List Loc} {cells slots : Nat} {Z : State} {a0 : Array Value} {h : Heap}
end Cold
end Jvm.RoadKit
namespace Jvm.Pilot.@@N@@
open Jvm Jvm.ClassFile Sem Op Lib Jvm.Free Jvm.Stand Jvm.LawKit Jvm.RoadKit Bundle Jvm.Pilot.@@N@@.Jvm.D
theorem own_l1 (a b : Int64) : a + b - a = b := by
  apply Int64.toInt_inj.mp
  have h1 := c_lsub (a + b) a
  have h2 := c_ladd a b
  have h3 := rng64 (a + b - a)
  have h4 := rng64 b
  omega
theorem own_l2 (a b : Int64) : (0 : Int64) - (a - b) = b - a := by
  apply Int64.toInt_inj.mp
  have h1 := c_lsub 0 (a - b)
  have h2 := c_lsub a b
  have h3 := c_lsub b a
  have h4 := rng64 ((0 : Int64) - (a - b))
  have h5 := rng64 (b - a)
  have h6 : (0 : Int64).toInt = 0 := by decide
  omega
theorem own_d3_0 : decode jdk_29_method_66_code 0 = .ok (.lload_n 0, 1) := by decide +kernel
theorem own_d3_1 : decode jdk_29_method_66_code 1 = .ok (.lload_n 2, 1) := by decide +kernel
theorem own_d3_2 : decode jdk_29_method_66_code 2 = .ok (.lcmp, 1) := by decide +kernel
theorem own_d3_3 : decode jdk_29_method_66_code 3 = .ok (.ifCond .lt 7, 3) := by decide +kernel
theorem own_d3_6 : decode jdk_29_method_66_code 6 = .ok (.lload_n 0, 1) := by decide +kernel
theorem own_d3_7 : decode jdk_29_method_66_code 7 = .ok (.goto 4, 3) := by decide +kernel
theorem own_d3_10 : decode jdk_29_method_66_code 10 = .ok (.lload_n 2, 1) := by decide +kernel
theorem own_d3_11 : decode jdk_29_method_66_code 11 = .ok (.lreturn, 1) := by decide +kernel
theorem own_ef3 (m : MethodId) (q0 : Int64) (q1 : Int64) : entryFrame m #[(.long q0), (.long q1)] 4 = mkF m 0 #[.val (.long q0), .second, .val (.long q1), .second] [] := by first | (simp [entryFrame, mkF, argsToLocals, Value.category]; done) | rfl
def own_Q3 (Z : State) (q0 : Int64) (q1 : Int64) (h0 : Heap) (n0 : Nat) (v : Option Value) (h : Heap) (L : List Loc) : Prop := (v = some (.long ((if q0 < q1 then q1 else q0)))) ∧ (Fr n0 L) ∧ (h = h0)
set_option maxRecDepth 65536 in
set_option maxHeartbeats 40000000 in
theorem own_rm3 (l : Launch) (Z : State) (a0 : Array Value) (hw : ∀ d ∈ tables_1, d.before a0 Z = true) (ws : List Jvm.Cond) (q0 : Int64) (q1 : Int64) (h0 : Heap) (n0 : Nat) (Z0 : n0 ≤ h0.size) :
    MetFree l (⟨"java/lang/Math", "max", "(JJ)J"⟩ : MethodName) (head1 (Jvm.Cond.code (⟨"java/lang/Math", "max", "(JJ)J"⟩ : MethodName) jdk_29_method_66_code 4 (some .long) :: ws) ({ frames := 0, cells := 0, slots := 0, locals := 0 } : Room)) (fun a U => a = #[(.long q0), (.long q1)] ∧ Z.Warmed39 U.vm ∧ U.heap = h0) (fun _ _ _ _ _ => True) (fun _ U o U' => ∃ v L, o = .returned v ∧ own_Q3 Z q0 q1 h0 n0 v U'.heap L ∧ FrameEnd U o U' L ({ frames := 0, cells := 0, slots := 0, locals := 0 } : Room).cells ({ frames := 0, cells := 0, slots := 0, locals := 0 } : Room).slots) := by
  refine MetFree.of_bodySF (Jvm.Free.JP.mathPlain rfl (by decide +kernel)) hisR ?_
  intro p e s m args below meth c s₁ Bd hml0 hP hK
  obtain ⟨rfl, hZ, hh⟩ := hP
  have hx := Bd.exec
  have hby := Bd.bytes
  have hml : c.maxLocals = 4 := hml0
  have hown : s.vm.findClass "java/lang/Math" = some m.cls := findClass_of_methodNamed Bd.named
  have hnm := (name_of_methodNamed Bd.named Bd.method).1
  have X0 : Stand p l e ({ frames := 0, cells := 0, slots := 0, locals := 0 } : Room) s m #[(.long q0), (.long q1)] below meth c s₁ [] 0 0 := Stand.of_body Bd
  have e0 : s₁.heap = h0 := by rw [← hh, Bd.state]; rfl
  have N0 := Fr.nil n0
  have pre0 : ∀ t, Steps p.tables e below (s₁.setTop (mkF m 0 #[.val (.long q0), .second, .val (.long q1), .second] [])) t → Steps p.tables e below (s₁.setTop (entryFrame m #[(.long q0), (.long q1)] 4)) t := fun t k => castTop (own_ef3 m q0 q1) k
  refine own_run (own_st pre0 ?_)
  refine own_st (B := s₁.setTop (mkF m 3 #[.val (.long q0), .second, .val (.long q1), .second] [(.int (lcmpW q0 q1))])) (fun target kt => ?_) ?_
  · show Steps p.tables e below (s₁.setTop (mkF m 0 #[.val (.long q0), .second, .val (.long q1), .second] [])) target
    refine XS.lloadN X0.here hx rfl (hb hby own_d3_0) rfl ?_
    show Steps p.tables e below (s₁.setTop (mkF m 1 #[.val (.long q0), .second, .val (.long q1), .second] [(.long q0)])) target
    refine XS.lloadN X0.here hx rfl (hb hby own_d3_1) rfl ?_
    show Steps p.tables e below (s₁.setTop (mkF m 2 #[.val (.long q0), .second, .val (.long q1), .second] [(.long q1), (.long q0)])) target
    refine XS.lcmp X0.here hx rfl (hb hby own_d3_2) rfl ?_
    exact kt
  obtain ⟨_, ⟨j11_s0, rfl, hj11_s0⟩, st_M11⟩ : own_Lead p.tables e below (s₁.setTop (mkF m 3 #[.val (.long q0), .second, .val (.long q1), .second] [(.int (lcmpW q0 q1))])) (fun B => ∃ (j11_s0 : Int64), B = s₁.setTop (mkF m 11 #[.val (.long q0), .second, .val (.long q1), .second] [(.long j11_s0)]) ∧ j11_s0 = (if q0 < q1 then q1 else q0)) := by
    by_cases c3 : q0 < q1
    · refine own_st (B := s₁.setTop (mkF m 11 #[.val (.long q0), .second, .val (.long q1), .second] [(.long q1)])) (fun target kt => ?_) ?_
      · show Steps p.tables e below (s₁.setTop (mkF m 3 #[.val (.long q0), .second, .val (.long q1), .second] [(.int (lcmpW q0 q1))])) target
        refine XS.ifYes X0.here hx rfl (pc0 := 3) (pc' := 10) rfl (hb hby own_d3_3) rfl ((if0 _ _).trans (tlt ((lw_lt q0 q1).mpr c3)).1) (by decide) (by decide) ?_
        show Steps p.tables e below (s₁.setTop (mkF m 10 #[.val (.long q0), .second, .val (.long q1), .second] [])) target
        refine XS.lloadN X0.here hx rfl (hb hby own_d3_10) rfl ?_
        exact kt
      exact ⟨_, ⟨q1, rfl, (if_pos c3).symm⟩, fun _ k => k⟩
    · refine own_st (B := s₁.setTop (mkF m 11 #[.val (.long q0), .second, .val (.long q1), .second] [(.long q0)])) (fun target kt => ?_) ?_
      · show Steps p.tables e below (s₁.setTop (mkF m 3 #[.val (.long q0), .second, .val (.long q1), .second] [(.int (lcmpW q0 q1))])) target
        refine XS.ifNo X0.here hx rfl (hb hby own_d3_3) rfl ((if0 _ _).trans (flt (fun q => c3 ((lw_lt q0 q1).mp q))).1) ?_
        show Steps p.tables e below (s₁.setTop (mkF m 6 #[.val (.long q0), .second, .val (.long q1), .second] [])) target
        refine XS.lloadN X0.here hx rfl (hb hby own_d3_6) rfl ?_
        show Steps p.tables e below (s₁.setTop (mkF m 7 #[.val (.long q0), .second, .val (.long q1), .second] [(.long q0)])) target
        refine XS.goto X0.here hx rfl (pc0 := 7) (pc' := 11) rfl (hb hby own_d3_7) (by decide) (by decide) ?_
        exact kt
      exact ⟨_, ⟨q0, rfl, (if_neg c3).symm⟩, fun _ k => k⟩
  refine own_st st_M11 ?_
  obtain ⟨fs, hr, hrun, hended, hW, hsame⟩ := X0.leave (v := some (.long j11_s0)) (fun h => by rw [Bd.returns] at h; cases h)
  have hend : Steps p.tables e below (s₁.setTop (mkF m 11 #[.val (.long q0), .second, .val (.long q1), .second] [(.long j11_s0)])) (s₁.setFrames fs) := by
    exact own_retJ X0 hx Bd.returns (hb hby own_d3_11) hr
  refine own_fin hend ⟨_, hrun, hended, _, _, rfl, ?_, ⟨_, rfl⟩, hW, hsame.mono (by decide) (by decide)⟩
  show own_Q3 Z q0 q1 h0 n0 _ s₁.heap _
  rw [e0]
  subst hj11_s0
  exact ⟨(congrArg (fun z => some (Value.long z)) rfl), N0, rfl⟩
theorem own_pd0 : parseMethodDescriptor "(JJ)J" = some ⟨[.long, .long], some .long⟩ := by decide +kernel
theorem own_pn0 : plainName "ringward/Silence" = true := by first | (simp [plainName, overriddenIn]; done) | decide +kernel
theorem own_d1_0 : decode prog_75_method_1_code 0 = .ok (.aload_n 0, 1) := by decide +kernel
theorem own_d1_1 : decode prog_75_method_1_code 1 = .ok (.invokespecial 1, 3) := by decide +kernel
theorem own_d1_4 : decode prog_75_method_1_code 4 = .ok (.aload_n 0, 1) := by decide +kernel
theorem own_d1_5 : decode prog_75_method_1_code 5 = .ok (.lload_n 1, 1) := by decide +kernel
theorem own_d1_6 : decode prog_75_method_1_code 6 = .ok (.putfield 7, 3) := by decide +kernel
theorem own_d1_9 : decode prog_75_method_1_code 9 = .ok (.aload_n 0, 1) := by decide +kernel
theorem own_d1_10 : decode prog_75_method_1_code 10 = .ok (.lconst 1, 1) := by decide +kernel
theorem own_d1_11 : decode prog_75_method_1_code 11 = .ok (.lload_n 1, 1) := by decide +kernel
theorem own_d1_12 : decode prog_75_method_1_code 12 = .ok (.ldc2_w 13, 3) := by decide +kernel
theorem own_d1_15 : decode prog_75_method_1_code 15 = .ok (.ldiv, 1) := by decide +kernel
theorem own_d1_16 : decode prog_75_method_1_code 16 = .ok (.invokestatic 15, 3) := by decide +kernel
theorem own_d1_19 : decode prog_75_method_1_code 19 = .ok (.putfield 21, 3) := by decide +kernel
theorem own_d1_22 : decode prog_75_method_1_code 22 = .ok (.aload_n 0, 1) := by decide +kernel
theorem own_d1_23 : decode prog_75_method_1_code 23 = .ok (.lconst 1, 1) := by decide +kernel
theorem own_d1_24 : decode prog_75_method_1_code 24 = .ok (.lload_n 1, 1) := by decide +kernel
theorem own_d1_25 : decode prog_75_method_1_code 25 = .ok (.ldc2_w 24, 3) := by decide +kernel
theorem own_d1_28 : decode prog_75_method_1_code 28 = .ok (.ldiv, 1) := by decide +kernel
theorem own_d1_29 : decode prog_75_method_1_code 29 = .ok (.invokestatic 15, 3) := by decide +kernel
theorem own_d1_32 : decode prog_75_method_1_code 32 = .ok (.putfield 26, 3) := by decide +kernel
theorem own_d1_35 : decode prog_75_method_1_code 35 = .ok (.return_, 1) := by decide +kernel
theorem own_ef1 (m : MethodId) (r0 : Addr) (q1 : Int64) : entryFrame m #[(.ref r0), (.long q1)] 3 = mkF m 0 #[.val (.ref r0), .val (.long q1), .second] [] := by first | (simp [entryFrame, mkF, argsToLocals, Value.category]; done) | rfl
def own_Q1 (Z : State) (r0 : Addr) (q1 : Int64) (h0 : Heap) (n0 : Nat) (v : Option Value) (h : Heap) (L : List Loc) : Prop := (v = none) ∧ (Fr n0 L) ∧ (Keep h0 h [r0]) ∧ (Exa Z h r0 "ringward/Silence") ∧ (Fld Z h r0 "ringward/Silence" "timeoutMillis" "J" (.long q1)) ∧ (Fld Z h r0 "ringward/Silence" "intervalMillis" "J" (.long ((if (1 : Int64) < (q1 / (40 : Int64)) then (q1 / (40 : Int64)) else (1 : Int64))))) ∧ (Fld Z h r0 "ringward/Silence" "lateMillis" "J" (.long ((if (1 : Int64) < (q1 / (20 : Int64)) then (q1 / (20 : Int64)) else (1 : Int64))))) ∧ (Fld Z h r0 "ringward/Silence" "asking" "Z" (.int (0 : Int32))) ∧ (Fld Z h r0 "ringward/Silence" "deadline" "J" (.long (0 : Int64)))
set_option maxRecDepth 65536 in
set_option maxHeartbeats 40000000 in
theorem own_rm1 (l : Launch) (Z : State) (a0 : Array Value) (hw : ∀ d ∈ tables_1, d.before a0 Z = true) (ws : List Jvm.Cond) (r0 : Addr) (q1 : Int64) (h0 : Heap) (n0 : Nat) (Z0 : n0 ≤ h0.size) (E_r0 : Exa Z h0 r0 "ringward/Silence") (F_r0_timeoutMillis : Fld Z h0 r0 "ringward/Silence" "timeoutMillis" "J" (.long (0 : Int64))) (F_r0_intervalMillis : Fld Z h0 r0 "ringward/Silence" "intervalMillis" "J" (.long (0 : Int64))) (F_r0_lateMillis : Fld Z h0 r0 "ringward/Silence" "lateMillis" "J" (.long (0 : Int64))) (F_r0_asking : Fld Z h0 r0 "ringward/Silence" "asking" "Z" (.int (0 : Int32))) (F_r0_deadline : Fld Z h0 r0 "ringward/Silence" "deadline" "J" (.long (0 : Int64))) (g_r0 : n0 ≤ r0) :
    MetFree l (⟨"ringward/Silence", "<init>", "(J)V"⟩ : MethodName) (head1 (Jvm.Cond.code (⟨"ringward/Silence", "<init>", "(J)V"⟩ : MethodName) prog_75_method_1_code 3 none :: ws) ({ frames := 1, cells := 0, slots := 0, locals := 16 } : Room)) (fun a U => a = #[(.ref r0), (.long q1)] ∧ Z.Warmed39 U.vm ∧ U.heap = h0) (fun _ _ _ _ _ => True) (fun _ U o U' => ∃ v L, o = .returned v ∧ own_Q1 Z r0 q1 h0 n0 v U'.heap L ∧ FrameEnd U o U' L ({ frames := 1, cells := 0, slots := 0, locals := 16 } : Room).cells ({ frames := 1, cells := 0, slots := 0, locals := 16 } : Room).slots) := by
  refine MetFree.of_bodySF (plainFor_of_name own_pn0) hisR ?_
  intro p e s m args below meth c s₁ Bd hml0 hP hK
  obtain ⟨rfl, hZ, hh⟩ := hP
  have hx := Bd.exec
  have hby := Bd.bytes
  have hml : c.maxLocals = 3 := hml0
  have hown : s.vm.findClass "ringward/Silence" = some m.cls := findClass_of_methodNamed Bd.named
  have hnm := (name_of_methodNamed Bd.named Bd.method).1
  have X0 : Stand p l e ({ frames := 1, cells := 0, slots := 0, locals := 16 } : Room) s m #[(.ref r0), (.long q1)] below meth c s₁ [] 0 0 := Stand.of_body Bd
  have e0 : s₁.heap = h0 := by rw [← hh, Bd.state]; rfl
  have N0 := Fr.nil n0
  have pre0 : ∀ t, Steps p.tables e below (s₁.setTop (mkF m 0 #[.val (.ref r0), .val (.long q1), .second] [])) t → Steps p.tables e below (s₁.setTop (entryFrame m #[(.ref r0), (.long q1)] 3)) t := fun t k => castTop (own_ef1 m r0 q1) k
  refine own_run (own_st pre0 ?_)
  refine own_st (B := s₁.setTop (mkF m 1 #[.val (.ref r0), .val (.long q1), .second] [(.ref r0)])) (fun target kt => ?_) ?_
  · show Steps p.tables e below (s₁.setTop (mkF m 0 #[.val (.ref r0), .val (.long q1), .second] [])) target
    refine XS.aloadN X0.here hx rfl (hb hby own_d1_0) rfl rfl ?_
    exact kt
  obtain ⟨Tg1, Xg1, eg1, stg1⟩ := initO X0 hx hZ hown (hw _ (List.mem_of_getElem? (i := 7) rfl)) (hw _ (List.mem_of_getElem? (i := 8) rfl)) (hw _ (List.mem_of_getElem? (i := 9) rfl)) e0 (g := (mkF m 1 #[.val (.ref r0), .val (.long q1), .second] [(.ref r0)])) rfl (by rw [hml]; rfl) rfl (hb hby own_d1_1) (by decide) (W := 0) (by show 2 * 0 + _ ≤ _; exact Nat.le_of_eq rfl) (by decide)
  refine own_st stg1 ?_
  refine own_st (B := Tg1.setTop (mkF m 6 #[.val (.ref r0), .val (.long q1), .second] [(.long q1), (.ref r0)])) (fun target kt => ?_) ?_
  · show Steps p.tables e below (Tg1.setTop (mkF m 4 #[.val (.ref r0), .val (.long q1), .second] [])) target
    refine XS.aloadN Xg1.here hx rfl (hb hby own_d1_4) rfl rfl ?_
    show Steps p.tables e below (Tg1.setTop (mkF m 5 #[.val (.ref r0), .val (.long q1), .second] [(.ref r0)])) target
    refine XS.lloadN Xg1.here hx rfl (hb hby own_d1_5) rfl ?_
    exact kt
  obtain ⟨Tg6, hg6, Xg6, eg6, Wg6, stg6⟩ := putF Xg1 hx hZ hown (host := "") (Or.inl (hw _ (List.mem_of_getElem? (i := 10) rfl))) Via.refl eg1 F_r0_timeoutMillis E_r0 (Or.inr ⟨(hw _ (List.mem_of_getElem? (i := 11) rfl)), rfl, hnm⟩) (hw _ (List.mem_of_getElem? (i := 2) rfl)) (ty := .long) (by decide) rfl rfl (g := (mkF m 6 #[.val (.ref r0), .val (.long q1), .second] [(.long q1), (.ref r0)])) rfl rfl (hb hby own_d1_6)
  refine own_st stg6 ?_
  have Ng6 := Fr.snoc Xg6 N0 g_r0
  have F := E_r0.wr Wg6
  have F_1 := F_r0_timeoutMillis.same Wg6
  have F_2 := F_r0_intervalMillis.other Wg6 (Or.inr (slot_ne (Or.inr (hw _ (List.mem_of_getElem? (i := 18) rfl))) (Or.inr (hw _ (List.mem_of_getElem? (i := 11) rfl))) (by decide) (t := .long) (t' := .long) (by decide) (by decide)))
  have F_3 := F_r0_lateMillis.other Wg6 (Or.inr (slot_ne (Or.inr (hw _ (List.mem_of_getElem? (i := 21) rfl))) (Or.inr (hw _ (List.mem_of_getElem? (i := 11) rfl))) (by decide) (t := .long) (t' := .long) (by decide) (by decide)))
  have F_4 := F_r0_asking.other Wg6 (Or.inr (slot_ne (Or.inl (hw _ (List.mem_of_getElem? (i := 35) rfl))) (Or.inr (hw _ (List.mem_of_getElem? (i := 11) rfl))) (by decide) (t := .boolean) (t' := .long) (by decide) (by decide)))
  have F_5 := F_r0_deadline.other Wg6 (Or.inr (slot_ne (Or.inl (hw _ (List.mem_of_getElem? (i := 37) rfl))) (Or.inr (hw _ (List.mem_of_getElem? (i := 11) rfl))) (by decide) (t := .long) (t' := .long) (by decide) (by decide)))
  have Zz : n0 ≤ hg6.size := Nat.le_trans Z0 (Keep.of_wr Wg6).1
  have Kc := (Keep.refl h0 [r0]).wr Wg6 (Or.inl (List.mem_of_getElem? (i := 0) rfl))
  refine own_st (B := Tg6.setTop (mkF m 16 #[.val (.ref r0), .val (.long q1), .second] [(.long (q1 / (40 : Int64))), (.long (1 : Int64)), (.ref r0)])) (fun target kt => ?_) ?_
  · show Steps p.tables e below (Tg6.setTop (mkF m 9 #[.val (.ref r0), .val (.long q1), .second] [])) target
    refine XS.aloadN Xg6.here hx rfl (hb hby own_d1_9) rfl rfl ?_
    show Steps p.tables e below (Tg6.setTop (mkF m 10 #[.val (.ref r0), .val (.long q1), .second] [(.ref r0)])) target
    refine XS.lconst Xg6.here hx rfl (hb hby own_d1_10) ?_
    show Steps p.tables e below (Tg6.setTop (mkF m 11 #[.val (.ref r0), .val (.long q1), .second] [(.long (1 : Int64)), (.ref r0)])) target
    refine XS.lloadN Xg6.here hx rfl (hb hby own_d1_11) rfl ?_
    show Steps p.tables e below (Tg6.setTop (mkF m 12 #[.val (.ref r0), .val (.long q1), .second] [(.long q1), (.long (1 : Int64)), (.ref r0)])) target
    refine Xg6.ldc2Long hx hown (mvT hZ (hw _ (List.mem_of_getElem? (i := 12) rfl))) (g := (mkF m 12 #[.val (.ref r0), .val (.long q1), .second] [(.long q1), (.long (1 : Int64)), (.ref r0)])) rfl (hb hby own_d1_12) _ ?_
    show Steps p.tables e below (Tg6.setTop (mkF m 15 #[.val (.ref r0), .val (.long q1), .second] [(.long (40 : Int64)), (.long q1), (.long (1 : Int64)), (.ref r0)])) target
    refine XS.ldiv Xg6.here hx rfl (hb hby own_d1_15) rfl (by decide) ?_
    exact kt
  obtain ⟨_, _, ⟨Tg16, Lg16, kg16, ng16⟩, -, Xg16, ⟨Lcg16, hQg16, lg16, yg16, zg16⟩, stg16⟩ := Jvm.LawKit.callS Xg6 hx (y := (⟨"java/lang/Math", "max", "(JJ)J"⟩ : MethodName)) hown (mvT hZ (hw _ (List.mem_of_getElem? (i := 13) rfl))) (mvT hZ (hw _ (List.mem_of_getElem? (i := 14) rfl))) (mvT hZ (hw _ (List.mem_of_getElem? (i := 15) rfl))) (mvT hZ (hw _ (List.mem_of_getElem? (i := 16) rfl))) (by decide) (backOf (W := 1) (own_rm3 l Z a0 hw [] (1 : Int64) (q1 / (40 : Int64)) hg6 n0 Zz) hZ (hw _ (List.mem_of_getElem? (i := 16) rfl)) (hw _ (List.mem_of_getElem? (i := 15) rfl)) (by decide) (by decide)) (g := (mkF m 16 #[.val (.ref r0), .val (.long q1), .second] [(.long (q1 / (40 : Int64))), (.long (1 : Int64)), (.ref r0)])) rfl (by rw [hml]; rfl) (argsL := [(.long (1 : Int64)), (.long (q1 / (40 : Int64)))]) (rest := [(.ref r0)]) (lenOf own_pd0 rfl) rfl (by show 2 * 0 + _ ≤ _; exact Nat.le_of_eq rfl) (hb hby own_d1_16) (fun _ _ => ⟨rfl, eg6, (by decide : 0 + 0 ≤ _), (by decide : 0 + 0 ≤ _)⟩)
  dsimp only [Pt.U, Pt.locs, Pt.cells, Pt.slots] at Xg16 lg16 yg16 zg16 stg16 hQg16
  subst lg16 yg16 zg16
  obtain ⟨rfl, Ng16q, eg16⟩ := hQg16
  have Ng16 := Fr.app Ng6 Ng16q
  refine own_st (stg16) ?_
  obtain ⟨Tg19, hg19, Xg19, eg19, Wg19, stg19⟩ := putF Xg16 hx hZ hown (host := "") (Or.inl (hw _ (List.mem_of_getElem? (i := 17) rfl))) Via.refl eg16 F_2 F (Or.inr ⟨(hw _ (List.mem_of_getElem? (i := 18) rfl)), rfl, hnm⟩) (hw _ (List.mem_of_getElem? (i := 2) rfl)) (ty := .long) (by decide) rfl rfl (g := (mkF m 19 #[.val (.ref r0), .val (.long q1), .second] [(.long (if (1 : Int64) < (q1 / (40 : Int64)) then (q1 / (40 : Int64)) else (1 : Int64))), (.ref r0)])) rfl rfl (hb hby own_d1_19)
  refine own_st stg19 ?_
  have Ng19 := Fr.snoc Xg19 Ng16 g_r0
  have F_6 := F.wr Wg19
  have F_7 := F_1.other Wg19 (Or.inr (slot_ne (Or.inr (hw _ (List.mem_of_getElem? (i := 11) rfl))) (Or.inr (hw _ (List.mem_of_getElem? (i := 18) rfl))) (by decide) (t := .long) (t' := .long) (by decide) (by decide)))
  have F_8 := F_2.same Wg19
  have F_9 := F_3.other Wg19 (Or.inr (slot_ne (Or.inr (hw _ (List.mem_of_getElem? (i := 21) rfl))) (Or.inr (hw _ (List.mem_of_getElem? (i := 18) rfl))) (by decide) (t := .long) (t' := .long) (by decide) (by decide)))
  have F_10 := F_4.other Wg19 (Or.inr (slot_ne (Or.inl (hw _ (List.mem_of_getElem? (i := 35) rfl))) (Or.inr (hw _ (List.mem_of_getElem? (i := 18) rfl))) (by decide) (t := .boolean) (t' := .long) (by decide) (by decide)))
  have F_11 := F_5.other Wg19 (Or.inr (slot_ne (Or.inl (hw _ (List.mem_of_getElem? (i := 37) rfl))) (Or.inr (hw _ (List.mem_of_getElem? (i := 18) rfl))) (by decide) (t := .long) (t' := .long) (by decide) (by decide)))
  have Zz_1 : n0 ≤ hg19.size := Nat.le_trans Zz (Keep.of_wr Wg19).1
  have Kc_1 := Kc.wr Wg19 (Or.inl (List.mem_of_getElem? (i := 0) rfl))
  obtain ⟨v19, hv19⟩ : ∃ z : Int64, z = (if (1 : Int64) < (q1 / (40 : Int64)) then (q1 / (40 : Int64)) else (1 : Int64)) := ⟨_, rfl⟩
  have F_12 : Fld Z hg19 r0 "ringward/Silence" "intervalMillis" "J" (.long v19) := by subst hv19; exact F_8
  refine own_st (B := Tg19.setTop (mkF m 29 #[.val (.ref r0), .val (.long q1), .second] [(.long (q1 / (20 : Int64))), (.long (1 : Int64)), (.ref r0)])) (fun target kt => ?_) ?_
  · show Steps p.tables e below (Tg19.setTop (mkF m 22 #[.val (.ref r0), .val (.long q1), .second] [])) target
    refine XS.aloadN Xg19.here hx rfl (hb hby own_d1_22) rfl rfl ?_
    show Steps p.tables e below (Tg19.setTop (mkF m 23 #[.val (.ref r0), .val (.long q1), .second] [(.ref r0)])) target
    refine XS.lconst Xg19.here hx rfl (hb hby own_d1_23) ?_
    show Steps p.tables e below (Tg19.setTop (mkF m 24 #[.val (.ref r0), .val (.long q1), .second] [(.long (1 : Int64)), (.ref r0)])) target
    refine XS.lloadN Xg19.here hx rfl (hb hby own_d1_24) rfl ?_
    show Steps p.tables e below (Tg19.setTop (mkF m 25 #[.val (.ref r0), .val (.long q1), .second] [(.long q1), (.long (1 : Int64)), (.ref r0)])) target
    refine Xg19.ldc2Long hx hown (mvT hZ (hw _ (List.mem_of_getElem? (i := 19) rfl))) (g := (mkF m 25 #[.val (.ref r0), .val (.long q1), .second] [(.long q1), (.long (1 : Int64)), (.ref r0)])) rfl (hb hby own_d1_25) _ ?_
    show Steps p.tables e below (Tg19.setTop (mkF m 28 #[.val (.ref r0), .val (.long q1), .second] [(.long (20 : Int64)), (.long q1), (.long (1 : Int64)), (.ref r0)])) target
    refine XS.ldiv Xg19.here hx rfl (hb hby own_d1_28) rfl (by decide) ?_
    exact kt
  obtain ⟨_, _, ⟨Tg29, Lg29, kg29, ng29⟩, -, Xg29, ⟨Lcg29, hQg29, lg29, yg29, zg29⟩, stg29⟩ := Jvm.LawKit.callS Xg19 hx (y := (⟨"java/lang/Math", "max", "(JJ)J"⟩ : MethodName)) hown (mvT hZ (hw _ (List.mem_of_getElem? (i := 13) rfl))) (mvT hZ (hw _ (List.mem_of_getElem? (i := 14) rfl))) (mvT hZ (hw _ (List.mem_of_getElem? (i := 15) rfl))) (mvT hZ (hw _ (List.mem_of_getElem? (i := 16) rfl))) (by decide) (backOf (W := 1) (own_rm3 l Z a0 hw [] (1 : Int64) (q1 / (20 : Int64)) hg19 n0 Zz_1) hZ (hw _ (List.mem_of_getElem? (i := 16) rfl)) (hw _ (List.mem_of_getElem? (i := 15) rfl)) (by decide) (by decide)) (g := (mkF m 29 #[.val (.ref r0), .val (.long q1), .second] [(.long (q1 / (20 : Int64))), (.long (1 : Int64)), (.ref r0)])) rfl (by rw [hml]; rfl) (argsL := [(.long (1 : Int64)), (.long (q1 / (20 : Int64)))]) (rest := [(.ref r0)]) (lenOf own_pd0 rfl) rfl (by show 2 * 0 + _ ≤ _; exact Nat.le_of_eq rfl) (hb hby own_d1_29) (fun _ _ => ⟨rfl, eg19, (by decide : 0 + 0 ≤ _), (by decide : 0 + 0 ≤ _)⟩)
  dsimp only [Pt.U, Pt.locs, Pt.cells, Pt.slots] at Xg29 lg29 yg29 zg29 stg29 hQg29
  subst lg29 yg29 zg29
  obtain ⟨rfl, Ng29q, eg29⟩ := hQg29
  have Ng29 := Fr.app Ng19 Ng29q
  refine own_st (stg29) ?_
  obtain ⟨Tg32, hg32, Xg32, eg32, Wg32, stg32⟩ := putF Xg29 hx hZ hown (host := "") (Or.inl (hw _ (List.mem_of_getElem? (i := 20) rfl))) Via.refl eg29 F_9 F_6 (Or.inr ⟨(hw _ (List.mem_of_getElem? (i := 21) rfl)), rfl, hnm⟩) (hw _ (List.mem_of_getElem? (i := 2) rfl)) (ty := .long) (by decide) rfl rfl (g := (mkF m 32 #[.val (.ref r0), .val (.long q1), .second] [(.long (if (1 : Int64) < (q1 / (20 : Int64)) then (q1 / (20 : Int64)) else (1 : Int64))), (.ref r0)])) rfl rfl (hb hby own_d1_32)
  refine own_st stg32 ?_
  have Ng32 := Fr.snoc Xg32 Ng29 g_r0
  have F_13 := F_6.wr Wg32
  have F_14 := F_7.other Wg32 (Or.inr (slot_ne (Or.inr (hw _ (List.mem_of_getElem? (i := 11) rfl))) (Or.inr (hw _ (List.mem_of_getElem? (i := 21) rfl))) (by decide) (t := .long) (t' := .long) (by decide) (by decide)))
  have F_15 := F_12.other Wg32 (Or.inr (slot_ne (Or.inr (hw _ (List.mem_of_getElem? (i := 18) rfl))) (Or.inr (hw _ (List.mem_of_getElem? (i := 21) rfl))) (by decide) (t := .long) (t' := .long) (by decide) (by decide)))
  have F_16 := F_9.same Wg32
  have F_17 := F_10.other Wg32 (Or.inr (slot_ne (Or.inl (hw _ (List.mem_of_getElem? (i := 35) rfl))) (Or.inr (hw _ (List.mem_of_getElem? (i := 21) rfl))) (by decide) (t := .boolean) (t' := .long) (by decide) (by decide)))
  have F_18 := F_11.other Wg32 (Or.inr (slot_ne (Or.inl (hw _ (List.mem_of_getElem? (i := 37) rfl))) (Or.inr (hw _ (List.mem_of_getElem? (i := 21) rfl))) (by decide) (t := .long) (t' := .long) (by decide) (by decide)))
  have Zz_2 : n0 ≤ hg32.size := Nat.le_trans Zz_1 (Keep.of_wr Wg32).1
  have Kc_2 := Kc_1.wr Wg32 (Or.inl (List.mem_of_getElem? (i := 0) rfl))
  obtain ⟨v32, hv32⟩ : ∃ z : Int64, z = (if (1 : Int64) < (q1 / (20 : Int64)) then (q1 / (20 : Int64)) else (1 : Int64)) := ⟨_, rfl⟩
  have F_19 : Fld Z hg32 r0 "ringward/Silence" "lateMillis" "J" (.long v32) := by subst hv32; exact F_16
  obtain ⟨fs, hr, hrun, hended, hW, hsame⟩ := Xg32.leave (v := none) (fun _ => rfl)
  have hend : Steps p.tables e below (Tg32.setTop (mkF m 35 #[.val (.ref r0), .val (.long q1), .second] [])) (Tg32.setFrames fs) := by
    exact Xg32.returnOut hx Bd.returns (hb hby own_d1_35) hr
  refine own_fin hend ⟨_, hrun, hended, _, _, rfl, ?_, ⟨_, rfl⟩, hW, hsame.mono (by decide) (by decide)⟩
  show own_Q1 Z r0 q1 h0 n0 _ Tg32.heap _
  rw [eg32]
  subst hv19 hv32
  exact ⟨rfl, Ng32, Kc_2, F_13, F_14, F_15, F_19, F_17, F_18⟩
theorem own_d4_0 : decode prog_75_method_3_code 0 = .ok (.aload_n 0, 1) := by decide +kernel
theorem own_d4_1 : decode prog_75_method_3_code 1 = .ok (.getfield 26, 3) := by decide +kernel
theorem own_d4_4 : decode prog_75_method_3_code 4 = .ok (.lreturn, 1) := by decide +kernel
theorem own_ef4 (m : MethodId) (r0 : Addr) : entryFrame m #[(.ref r0)] 1 = mkF m 0 #[.val (.ref r0)] [] := by first | (simp [entryFrame, mkF, argsToLocals, Value.category]; done) | rfl
def own_Q4 (Z : State) (r0 : Addr) (w_l : Int64) (h0 : Heap) (n0 : Nat) (v : Option Value) (h : Heap) (L : List Loc) : Prop := (v = some (.long w_l)) ∧ (Fr n0 L) ∧ (h = h0)
set_option maxRecDepth 65536 in
set_option maxHeartbeats 40000000 in
theorem own_rm4 (l : Launch) (Z : State) (a0 : Array Value) (hw : ∀ d ∈ tables_1, d.before a0 Z = true) (ws : List Jvm.Cond) (r0 : Addr) (w_l : Int64) (h0 : Heap) (n0 : Nat) (Z0 : n0 ≤ h0.size) (F_r0_lateMillis : Fld Z h0 r0 "ringward/Silence" "lateMillis" "J" (.long w_l)) :
    MetFree l (⟨"ringward/Silence", "lateMillis", "()J"⟩ : MethodName) (head1 (Jvm.Cond.code (⟨"ringward/Silence", "lateMillis", "()J"⟩ : MethodName) prog_75_method_3_code 1 (some .long) :: ws) ({ frames := 0, cells := 0, slots := 0, locals := 0 } : Room)) (fun a U => a = #[(.ref r0)] ∧ Z.Warmed39 U.vm ∧ U.heap = h0) (fun _ _ _ _ _ => True) (fun _ U o U' => ∃ v L, o = .returned v ∧ own_Q4 Z r0 w_l h0 n0 v U'.heap L ∧ FrameEnd U o U' L ({ frames := 0, cells := 0, slots := 0, locals := 0 } : Room).cells ({ frames := 0, cells := 0, slots := 0, locals := 0 } : Room).slots) := by
  refine MetFree.of_bodySF (plainFor_of_name own_pn0) hisR ?_
  intro p e s m args below meth c s₁ Bd hml0 hP hK
  obtain ⟨rfl, hZ, hh⟩ := hP
  have hx := Bd.exec
  have hby := Bd.bytes
  have hml : c.maxLocals = 1 := hml0
  have hown : s.vm.findClass "ringward/Silence" = some m.cls := findClass_of_methodNamed Bd.named
  have hnm := (name_of_methodNamed Bd.named Bd.method).1
  have X0 : Stand p l e ({ frames := 0, cells := 0, slots := 0, locals := 0 } : Room) s m #[(.ref r0)] below meth c s₁ [] 0 0 := Stand.of_body Bd
  have e0 : s₁.heap = h0 := by rw [← hh, Bd.state]; rfl
  have N0 := Fr.nil n0
  have pre0 : ∀ t, Steps p.tables e below (s₁.setTop (mkF m 0 #[.val (.ref r0)] [])) t → Steps p.tables e below (s₁.setTop (entryFrame m #[(.ref r0)] 1)) t := fun t k => castTop (own_ef4 m r0) k
  refine own_run (own_st pre0 ?_)
  refine own_st (B := s₁.setTop (mkF m 1 #[.val (.ref r0)] [(.ref r0)])) (fun target kt => ?_) ?_
  · show Steps p.tables e below (s₁.setTop (mkF m 0 #[.val (.ref r0)] [])) target
    refine XS.aloadN X0.here hx rfl (hb hby own_d4_0) rfl rfl ?_
    exact kt
  obtain ⟨Tg1, Xg1, eg1, stg1⟩ := getF X0 hx hZ hown (host := "") (Or.inl (hw _ (List.mem_of_getElem? (i := 20) rfl))) Via.refl e0 F_r0_lateMillis (g := (mkF m 1 #[.val (.ref r0)] [(.ref r0)])) rfl rfl (hb hby own_d4_1)
  refine own_st stg1 ?_
  obtain ⟨fs, hr, hrun, hended, hW, hsame⟩ := Xg1.leave (v := some (.long w_l)) (fun h => by rw [Bd.returns] at h; cases h)
  have hend : Steps p.tables e below (Tg1.setTop (mkF m 4 #[.val (.ref r0)] [(.long w_l)])) (Tg1.setFrames fs) := by
    exact own_retJ Xg1 hx Bd.returns (hb hby own_d4_4) hr
  refine own_fin hend ⟨_, hrun, hended, _, _, rfl, ?_, ⟨_, rfl⟩, hW, hsame.mono (by decide) (by decide)⟩
  show own_Q4 Z r0 w_l h0 n0 _ Tg1.heap _
  rw [eg1]
  exact ⟨(congrArg (fun z => some (Value.long z)) rfl), N0, rfl⟩
theorem own_d5_0 : decode prog_75_method_7_code 0 = .ok (.aload_n 0, 1) := by decide +kernel
theorem own_d5_1 : decode prog_75_method_7_code 1 = .ok (.getfield 29, 3) := by decide +kernel
theorem own_d5_4 : decode prog_75_method_7_code 4 = .ok (.ifCond .ne 18, 3) := by decide +kernel
theorem own_d5_7 : decode prog_75_method_7_code 7 = .ok (.aload_n 0, 1) := by decide +kernel
theorem own_d5_8 : decode prog_75_method_7_code 8 = .ok (.iconst 1, 1) := by decide +kernel
theorem own_d5_9 : decode prog_75_method_7_code 9 = .ok (.putfield 29, 3) := by decide +kernel
theorem own_d5_12 : decode prog_75_method_7_code 12 = .ok (.aload_n 0, 1) := by decide +kernel
theorem own_d5_13 : decode prog_75_method_7_code 13 = .ok (.lload_n 1, 1) := by decide +kernel
theorem own_d5_14 : decode prog_75_method_7_code 14 = .ok (.aload_n 0, 1) := by decide +kernel
theorem own_d5_15 : decode prog_75_method_7_code 15 = .ok (.getfield 7, 3) := by decide +kernel
theorem own_d5_18 : decode prog_75_method_7_code 18 = .ok (.ladd, 1) := by decide +kernel
theorem own_d5_19 : decode prog_75_method_7_code 19 = .ok (.putfield 33, 3) := by decide +kernel
theorem own_d5_22 : decode prog_75_method_7_code 22 = .ok (.aload_n 0, 1) := by decide +kernel
theorem own_d5_23 : decode prog_75_method_7_code 23 = .ok (.getfield 33, 3) := by decide +kernel
theorem own_d5_26 : decode prog_75_method_7_code 26 = .ok (.lload_n 1, 1) := by decide +kernel
theorem own_d5_27 : decode prog_75_method_7_code 27 = .ok (.lsub, 1) := by decide +kernel
theorem own_d5_28 : decode prog_75_method_7_code 28 = .ok (.lreturn, 1) := by decide +kernel
theorem own_ef5 (m : MethodId) (r0 : Addr) (q1 : Int64) : entryFrame m #[(.ref r0), (.long q1)] 3 = mkF m 0 #[.val (.ref r0), .val (.long q1), .second] [] := by first | (simp [entryFrame, mkF, argsToLocals, Value.category]; done) | rfl
def own_Q5 (Z : State) (r0 : Addr) (q1 : Int64) (w_t : Int64) (w_i : Int64) (w_l : Int64) (W_a : Prop) [Decidable W_a] (w_d : Int64) (h0 : Heap) (n0 : Nat) (v : Option Value) (h : Heap) (L : List Loc) : Prop := (v = some (.long (((if W_a then w_d else ((q1 + w_t)))) - q1))) ∧ (Fr n0 L) ∧ (Keep h0 h [r0]) ∧ (Exa Z h r0 "ringward/Silence") ∧ (Fld Z h r0 "ringward/Silence" "timeoutMillis" "J" (.long w_t)) ∧ (Fld Z h r0 "ringward/Silence" "intervalMillis" "J" (.long w_i)) ∧ (Fld Z h r0 "ringward/Silence" "lateMillis" "J" (.long w_l)) ∧ (Fld Z h r0 "ringward/Silence" "asking" "Z" (.int (own_b (True)))) ∧ (Fld Z h r0 "ringward/Silence" "deadline" "J" (.long ((if W_a then w_d else ((q1 + w_t))))))
set_option maxRecDepth 65536 in
set_option maxHeartbeats 40000000 in
theorem own_rm5 (l : Launch) (Z : State) (a0 : Array Value) (hw : ∀ d ∈ tables_1, d.before a0 Z = true) (ws : List Jvm.Cond) (r0 : Addr) (q1 : Int64) (w_t : Int64) (w_i : Int64) (w_l : Int64) (W_a : Prop) [Decidable W_a] (w_d : Int64) (h0 : Heap) (n0 : Nat) (Z0 : n0 ≤ h0.size) (E_r0 : Exa Z h0 r0 "ringward/Silence") (F_r0_timeoutMillis : Fld Z h0 r0 "ringward/Silence" "timeoutMillis" "J" (.long w_t)) (F_r0_intervalMillis : Fld Z h0 r0 "ringward/Silence" "intervalMillis" "J" (.long w_i)) (F_r0_lateMillis : Fld Z h0 r0 "ringward/Silence" "lateMillis" "J" (.long w_l)) (F_r0_asking : Fld Z h0 r0 "ringward/Silence" "asking" "Z" (.int (own_b W_a))) (F_r0_deadline : Fld Z h0 r0 "ringward/Silence" "deadline" "J" (.long w_d)) (g_r0 : n0 ≤ r0) :
    MetFree l (⟨"ringward/Silence", "pinged", "(J)J"⟩ : MethodName) (head1 (Jvm.Cond.code (⟨"ringward/Silence", "pinged", "(J)J"⟩ : MethodName) prog_75_method_7_code 3 (some .long) :: ws) ({ frames := 0, cells := 0, slots := 0, locals := 0 } : Room)) (fun a U => a = #[(.ref r0), (.long q1)] ∧ Z.Warmed39 U.vm ∧ U.heap = h0) (fun _ _ _ _ _ => True) (fun _ U o U' => ∃ v L, o = .returned v ∧ own_Q5 Z r0 q1 w_t w_i w_l W_a w_d h0 n0 v U'.heap L ∧ FrameEnd U o U' L ({ frames := 0, cells := 0, slots := 0, locals := 0 } : Room).cells ({ frames := 0, cells := 0, slots := 0, locals := 0 } : Room).slots) := by
  refine MetFree.of_bodySF (plainFor_of_name own_pn0) hisR ?_
  intro p e s m args below meth c s₁ Bd hml0 hP hK
  obtain ⟨rfl, hZ, hh⟩ := hP
  have hx := Bd.exec
  have hby := Bd.bytes
  have hml : c.maxLocals = 3 := hml0
  have hown : s.vm.findClass "ringward/Silence" = some m.cls := findClass_of_methodNamed Bd.named
  have hnm := (name_of_methodNamed Bd.named Bd.method).1
  have X0 : Stand p l e ({ frames := 0, cells := 0, slots := 0, locals := 0 } : Room) s m #[(.ref r0), (.long q1)] below meth c s₁ [] 0 0 := Stand.of_body Bd
  have e0 : s₁.heap = h0 := by rw [← hh, Bd.state]; rfl
  have N0 := Fr.nil n0
  have pre0 : ∀ t, Steps p.tables e below (s₁.setTop (mkF m 0 #[.val (.ref r0), .val (.long q1), .second] [])) t → Steps p.tables e below (s₁.setTop (entryFrame m #[(.ref r0), (.long q1)] 3)) t := fun t k => castTop (own_ef5 m r0 q1) k
  refine own_run (own_st pre0 ?_)
  refine own_st (B := s₁.setTop (mkF m 1 #[.val (.ref r0), .val (.long q1), .second] [(.ref r0)])) (fun target kt => ?_) ?_
  · show Steps p.tables e below (s₁.setTop (mkF m 0 #[.val (.ref r0), .val (.long q1), .second] [])) target
    refine XS.aloadN X0.here hx rfl (hb hby own_d5_0) rfl rfl ?_
    exact kt
  obtain ⟨Tg1, Xg1, eg1, stg1⟩ := getF X0 hx hZ hown (host := "") (Or.inl (hw _ (List.mem_of_getElem? (i := 34) rfl))) Via.refl e0 F_r0_asking (g := (mkF m 1 #[.val (.ref r0), .val (.long q1), .second] [(.ref r0)])) rfl rfl (hb hby own_d5_1)
  refine own_st stg1 ?_
  obtain ⟨_, ⟨T_M22, h_M22, lc_M22, j22_f_r0_asking, j22_f_r0_deadline, rfl, X_M22, e_M22, N_M22, Z_M22, K_M22, F_13, F_14, F_15, F_16, F_17, F_18, rfl, hj22_f_r0_deadline⟩, st_M22⟩ : own_Lead p.tables e below (Tg1.setTop (mkF m 4 #[.val (.ref r0), .val (.long q1), .second] [(.int (own_b W_a))])) (fun B => ∃ (T_M22 : State) (h_M22 : Heap) (lc_M22 : List Loc) (j22_f_r0_asking : Int32) (j22_f_r0_deadline : Int64), B = T_M22.setTop (mkF m 22 #[.val (.ref r0), .val (.long q1), .second] []) ∧ Stand p l e ({ frames := 0, cells := 0, slots := 0, locals := 0 } : Room) s m #[(.ref r0), (.long q1)] below meth c T_M22 lc_M22 0 0 ∧ T_M22.heap = h_M22 ∧ Fr n0 lc_M22 ∧ n0 ≤ h_M22.size ∧ Keep h0 h_M22 [r0] ∧ Exa Z h_M22 r0 "ringward/Silence" ∧ Fld Z h_M22 r0 "ringward/Silence" "timeoutMillis" "J" (.long w_t) ∧ Fld Z h_M22 r0 "ringward/Silence" "intervalMillis" "J" (.long w_i) ∧ Fld Z h_M22 r0 "ringward/Silence" "lateMillis" "J" (.long w_l) ∧ Fld Z h_M22 r0 "ringward/Silence" "asking" "Z" (.int j22_f_r0_asking) ∧ Fld Z h_M22 r0 "ringward/Silence" "deadline" "J" (.long j22_f_r0_deadline) ∧ j22_f_r0_asking = own_b (True) ∧ j22_f_r0_deadline = (if W_a then w_d else ((q1 + w_t)))) := by
    by_cases c4 : W_a
    · refine own_st (B := Tg1.setTop (mkF m 22 #[.val (.ref r0), .val (.long q1), .second] [])) (fun target kt => ?_) ?_
      · show Steps p.tables e below (Tg1.setTop (mkF m 4 #[.val (.ref r0), .val (.long q1), .second] [(.int (own_b W_a))])) target
        refine XS.ifYes Xg1.here hx rfl (pc0 := 4) (pc' := 22) rfl (hb hby own_d5_4) rfl ((if0 _ _).trans (feq (own_bn0 rfl c4)).2) (by decide) (by decide) ?_
        exact kt
      exact ⟨_, ⟨Tg1, h0, _, (own_b W_a), w_d, rfl, Xg1, eg1, N0, Z0, (Keep.refl h0 [r0]), E_r0, F_r0_timeoutMillis, F_r0_intervalMillis, F_r0_lateMillis, F_r0_asking, F_r0_deadline, ((rfl).trans ((own_b1 c4).trans (own_b1 trivial).symm)), (if_pos c4).symm⟩, fun _ k => k⟩
    · refine own_st (B := Tg1.setTop (mkF m 9 #[.val (.ref r0), .val (.long q1), .second] [(.int (1 : Int32)), (.ref r0)])) (fun target kt => ?_) ?_
      · show Steps p.tables e below (Tg1.setTop (mkF m 4 #[.val (.ref r0), .val (.long q1), .second] [(.int (own_b W_a))])) target
        refine XS.ifNo Xg1.here hx rfl (hb hby own_d5_4) rfl ((if0 _ _).trans (teq (own_b00 rfl c4)).2) ?_
        show Steps p.tables e below (Tg1.setTop (mkF m 7 #[.val (.ref r0), .val (.long q1), .second] [])) target
        refine XS.aloadN Xg1.here hx rfl (hb hby own_d5_7) rfl rfl ?_
        show Steps p.tables e below (Tg1.setTop (mkF m 8 #[.val (.ref r0), .val (.long q1), .second] [(.ref r0)])) target
        refine XS.iconst Xg1.here hx rfl (hb hby own_d5_8) ?_
        exact kt
      obtain ⟨Tg9, hg9, Xg9, eg9, Wg9, stg9⟩ := putFN Xg1 hx hZ hown (hw _ (List.mem_of_getElem? (i := 34) rfl)) Via.refl eg1 F_r0_asking E_r0 (Or.inl (hw _ (List.mem_of_getElem? (i := 35) rfl))) (hw _ (List.mem_of_getElem? (i := 2) rfl)) (ty := .boolean) (v' := (.int (1 : Int32))) (by decide) rfl (own_bfits rfl) (g := (mkF m 9 #[.val (.ref r0), .val (.long q1), .second] [(.int (1 : Int32)), (.ref r0)])) rfl rfl (hb hby own_d5_9)
      refine own_st stg9 ?_
      have Ng9 := Fr.snoc Xg9 N0 g_r0
      have F := E_r0.wr Wg9
      have F_1 := F_r0_timeoutMillis.other Wg9 (Or.inr (slot_ne (Or.inr (hw _ (List.mem_of_getElem? (i := 11) rfl))) (Or.inl (hw _ (List.mem_of_getElem? (i := 35) rfl))) (by decide) (t := .long) (t' := .boolean) (by decide) (by decide)))
      have F_2 := F_r0_intervalMillis.other Wg9 (Or.inr (slot_ne (Or.inr (hw _ (List.mem_of_getElem? (i := 18) rfl))) (Or.inl (hw _ (List.mem_of_getElem? (i := 35) rfl))) (by decide) (t := .long) (t' := .boolean) (by decide) (by decide)))
      have F_3 := F_r0_lateMillis.other Wg9 (Or.inr (slot_ne (Or.inr (hw _ (List.mem_of_getElem? (i := 21) rfl))) (Or.inl (hw _ (List.mem_of_getElem? (i := 35) rfl))) (by decide) (t := .long) (t' := .boolean) (by decide) (by decide)))
      have F_4 := F_r0_asking.same Wg9
      have F_5 := F_r0_deadline.other Wg9 (Or.inr (slot_ne (Or.inl (hw _ (List.mem_of_getElem? (i := 37) rfl))) (Or.inl (hw _ (List.mem_of_getElem? (i := 35) rfl))) (by decide) (t := .long) (t' := .boolean) (by decide) (by decide)))
      have Zz : n0 ≤ hg9.size := Nat.le_trans Z0 (Keep.of_wr Wg9).1
      have Kc := (Keep.refl h0 [r0]).wr Wg9 (Or.inl (List.mem_of_getElem? (i := 0) rfl))
      refine own_st (B := Tg9.setTop (mkF m 15 #[.val (.ref r0), .val (.long q1), .second] [(.ref r0), (.long q1), (.ref r0)])) (fun target kt => ?_) ?_
      · show Steps p.tables e below (Tg9.setTop (mkF m 12 #[.val (.ref r0), .val (.long q1), .second] [])) target
        refine XS.aloadN Xg9.here hx rfl (hb hby own_d5_12) rfl rfl ?_
        show Steps p.tables e below (Tg9.setTop (mkF m 13 #[.val (.ref r0), .val (.long q1), .second] [(.ref r0)])) target
        refine XS.lloadN Xg9.here hx rfl (hb hby own_d5_13) rfl ?_
        show Steps p.tables e below (Tg9.setTop (mkF m 14 #[.val (.ref r0), .val (.long q1), .second] [(.long q1), (.ref r0)])) target
        refine XS.aloadN Xg9.here hx rfl (hb hby own_d5_14) rfl rfl ?_
        exact kt
      obtain ⟨Tg15, Xg15, eg15, stg15⟩ := getF Xg9 hx hZ hown (host := "") (Or.inl (hw _ (List.mem_of_getElem? (i := 10) rfl))) Via.refl eg9 F_1 (g := (mkF m 15 #[.val (.ref r0), .val (.long q1), .second] [(.ref r0), (.long q1), (.ref r0)])) rfl rfl (hb hby own_d5_15)
      refine own_st stg15 ?_
      refine own_st (B := Tg15.setTop (mkF m 19 #[.val (.ref r0), .val (.long q1), .second] [(.long (q1 + w_t)), (.ref r0)])) (fun target kt => ?_) ?_
      · show Steps p.tables e below (Tg15.setTop (mkF m 18 #[.val (.ref r0), .val (.long q1), .second] [(.long w_t), (.long q1), (.ref r0)])) target
        refine XS.ladd Xg15.here hx rfl (hb hby own_d5_18) rfl ?_
        exact kt
      obtain ⟨Tg19, hg19, Xg19, eg19, Wg19, stg19⟩ := putF Xg15 hx hZ hown (host := "") (Or.inl (hw _ (List.mem_of_getElem? (i := 36) rfl))) Via.refl eg15 F_5 F (Or.inl (hw _ (List.mem_of_getElem? (i := 37) rfl))) (hw _ (List.mem_of_getElem? (i := 2) rfl)) (ty := .long) (by decide) rfl rfl (g := (mkF m 19 #[.val (.ref r0), .val (.long q1), .second] [(.long (q1 + w_t)), (.ref r0)])) rfl rfl (hb hby own_d5_19)
      refine own_st stg19 ?_
      have Ng19 := Fr.snoc Xg19 Ng9 g_r0
      have F_6 := F.wr Wg19
      have F_7 := F_1.other Wg19 (Or.inr (slot_ne (Or.inr (hw _ (List.mem_of_getElem? (i := 11) rfl))) (Or.inl (hw _ (List.mem_of_getElem? (i := 37) rfl))) (by decide) (t := .long) (t' := .long) (by decide) (by decide)))
      have F_8 := F_2.other Wg19 (Or.inr (slot_ne (Or.inr (hw _ (List.mem_of_getElem? (i := 18) rfl))) (Or.inl (hw _ (List.mem_of_getElem? (i := 37) rfl))) (by decide) (t := .long) (t' := .long) (by decide) (by decide)))
      have F_9 := F_3.other Wg19 (Or.inr (slot_ne (Or.inr (hw _ (List.mem_of_getElem? (i := 21) rfl))) (Or.inl (hw _ (List.mem_of_getElem? (i := 37) rfl))) (by decide) (t := .long) (t' := .long) (by decide) (by decide)))
      have F_10 := F_4.other Wg19 (Or.inr (slot_ne (Or.inl (hw _ (List.mem_of_getElem? (i := 35) rfl))) (Or.inl (hw _ (List.mem_of_getElem? (i := 37) rfl))) (by decide) (t := .boolean) (t' := .long) (by decide) (by decide)))
      have F_11 := F_5.same Wg19
      have Zz_1 : n0 ≤ hg19.size := Nat.le_trans Zz (Keep.of_wr Wg19).1
      have Kc_1 := Kc.wr Wg19 (Or.inl (List.mem_of_getElem? (i := 0) rfl))
      obtain ⟨v19, hv19⟩ : ∃ z : Int64, z = (q1 + w_t) := ⟨_, rfl⟩
      have F_12 : Fld Z hg19 r0 "ringward/Silence" "deadline" "J" (.long v19) := by subst hv19; exact F_11
      subst hv19
      exact ⟨_, ⟨Tg19, hg19, _, (1 : Int32), ((q1 + w_t)), rfl, Xg19, eg19, Ng19, Zz_1, Kc_1, F_6, F_7, F_8, F_9, F_10, F_12, (own_b1 trivial).symm, (if_neg c4).symm⟩, fun _ k => k⟩
  refine own_st st_M22 ?_
  refine own_st (B := T_M22.setTop (mkF m 23 #[.val (.ref r0), .val (.long q1), .second] [(.ref r0)])) (fun target kt => ?_) ?_
  · show Steps p.tables e below (T_M22.setTop (mkF m 22 #[.val (.ref r0), .val (.long q1), .second] [])) target
    refine XS.aloadN X_M22.here hx rfl (hb hby own_d5_22) rfl rfl ?_
    exact kt
  obtain ⟨Tg23, Xg23, eg23, stg23⟩ := getF X_M22 hx hZ hown (host := "") (Or.inl (hw _ (List.mem_of_getElem? (i := 36) rfl))) Via.refl e_M22 F_18 (g := (mkF m 23 #[.val (.ref r0), .val (.long q1), .second] [(.ref r0)])) rfl rfl (hb hby own_d5_23)
  refine own_st stg23 ?_
  refine own_st (B := Tg23.setTop (mkF m 28 #[.val (.ref r0), .val (.long q1), .second] [(.long (j22_f_r0_deadline - q1))])) (fun target kt => ?_) ?_
  · show Steps p.tables e below (Tg23.setTop (mkF m 26 #[.val (.ref r0), .val (.long q1), .second] [(.long j22_f_r0_deadline)])) target
    refine XS.lloadN Xg23.here hx rfl (hb hby own_d5_26) rfl ?_
    show Steps p.tables e below (Tg23.setTop (mkF m 27 #[.val (.ref r0), .val (.long q1), .second] [(.long q1), (.long j22_f_r0_deadline)])) target
    refine XS.lsub Xg23.here hx rfl (hb hby own_d5_27) rfl ?_
    exact kt
  obtain ⟨fs, hr, hrun, hended, hW, hsame⟩ := Xg23.leave (v := some (.long (j22_f_r0_deadline - q1))) (fun h => by rw [Bd.returns] at h; cases h)
  have hend : Steps p.tables e below (Tg23.setTop (mkF m 28 #[.val (.ref r0), .val (.long q1), .second] [(.long (j22_f_r0_deadline - q1))])) (Tg23.setFrames fs) := by
    exact own_retJ Xg23 hx Bd.returns (hb hby own_d5_28) hr
  refine own_fin hend ⟨_, hrun, hended, _, _, rfl, ?_, ⟨_, rfl⟩, hW, hsame.mono (by decide) (by decide)⟩
  show own_Q5 Z r0 q1 w_t w_i w_l W_a w_d h0 n0 _ Tg23.heap _
  rw [eg23]
  subst hj22_f_r0_deadline
  exact ⟨(congrArg (fun z => some (Value.long z)) rfl), N_M22, K_M22, F_13, F_14, F_15, F_16, F_17, F_18⟩
theorem own_d6_0 : decode prog_75_method_5_code 0 = .ok (.lload_n 3, 1) := by decide +kernel
theorem own_d6_1 : decode prog_75_method_5_code 1 = .ok (.lload_n 1, 1) := by decide +kernel
theorem own_d6_2 : decode prog_75_method_5_code 2 = .ok (.lsub, 1) := by decide +kernel
theorem own_d6_3 : decode prog_75_method_5_code 3 = .ok (.lstore 5, 2) := by decide +kernel
theorem own_d6_5 : decode prog_75_method_5_code 5 = .ok (.lload 5, 2) := by decide +kernel
theorem own_d6_7 : decode prog_75_method_5_code 7 = .ok (.aload_n 0, 1) := by decide +kernel
theorem own_d6_8 : decode prog_75_method_5_code 8 = .ok (.getfield 26, 3) := by decide +kernel
theorem own_d6_11 : decode prog_75_method_5_code 11 = .ok (.lcmp, 1) := by decide +kernel
theorem own_d6_12 : decode prog_75_method_5_code 12 = .ok (.ifCond .lt 21, 3) := by decide +kernel
theorem own_d6_15 : decode prog_75_method_5_code 15 = .ok (.aload_n 0, 1) := by decide +kernel
theorem own_d6_16 : decode prog_75_method_5_code 16 = .ok (.getfield 29, 3) := by decide +kernel
theorem own_d6_19 : decode prog_75_method_5_code 19 = .ok (.ifCond .eq 14, 3) := by decide +kernel
theorem own_d6_22 : decode prog_75_method_5_code 22 = .ok (.aload_n 0, 1) := by decide +kernel
theorem own_d6_23 : decode prog_75_method_5_code 23 = .ok (.dup, 1) := by decide +kernel
theorem own_d6_24 : decode prog_75_method_5_code 24 = .ok (.getfield 33, 3) := by decide +kernel
theorem own_d6_27 : decode prog_75_method_5_code 27 = .ok (.lload 5, 2) := by decide +kernel
theorem own_d6_29 : decode prog_75_method_5_code 29 = .ok (.ladd, 1) := by decide +kernel
theorem own_d6_30 : decode prog_75_method_5_code 30 = .ok (.putfield 33, 3) := by decide +kernel
theorem own_d6_33 : decode prog_75_method_5_code 33 = .ok (.return_, 1) := by decide +kernel
theorem own_ef6 (m : MethodId) (r0 : Addr) (q1 : Int64) (q2 : Int64) : entryFrame m #[(.ref r0), (.long q1), (.long q2)] 7 = mkF m 0 #[.val (.ref r0), .val (.long q1), .second, .val (.long q2), .second, .unset, .unset] [] := by first | (simp [entryFrame, mkF, argsToLocals, Value.category]; done) | rfl
def own_Q6 (Z : State) (r0 : Addr) (q1 : Int64) (q2 : Int64) (w_t : Int64) (w_i : Int64) (w_l : Int64) (W_a : Prop) [Decidable W_a] (w_d : Int64) (h0 : Heap) (n0 : Nat) (v : Option Value) (h : Heap) (L : List Loc) : Prop := (v = none) ∧ (Fr n0 L) ∧ (Keep h0 h [r0]) ∧ (Exa Z h r0 "ringward/Silence") ∧ (Fld Z h r0 "ringward/Silence" "timeoutMillis" "J" (.long w_t)) ∧ (Fld Z h r0 "ringward/Silence" "intervalMillis" "J" (.long w_i)) ∧ (Fld Z h r0 "ringward/Silence" "lateMillis" "J" (.long w_l)) ∧ (Fld Z h r0 "ringward/Silence" "asking" "Z" (.int (own_b W_a))) ∧ (Fld Z h r0 "ringward/Silence" "deadline" "J" (.long ((if ((q2 - q1)) < w_l then w_d else (if W_a then ((w_d + ((q2 - q1)))) else w_d)))))
set_option maxRecDepth 65536 in
set_option maxHeartbeats 40000000 in
theorem own_rm6 (l : Launch) (Z : State) (a0 : Array Value) (hw : ∀ d ∈ tables_1, d.before a0 Z = true) (ws : List Jvm.Cond) (r0 : Addr) (q1 : Int64) (q2 : Int64) (w_t : Int64) (w_i : Int64) (w_l : Int64) (W_a : Prop) [Decidable W_a] (w_d : Int64) (h0 : Heap) (n0 : Nat) (Z0 : n0 ≤ h0.size) (E_r0 : Exa Z h0 r0 "ringward/Silence") (F_r0_timeoutMillis : Fld Z h0 r0 "ringward/Silence" "timeoutMillis" "J" (.long w_t)) (F_r0_intervalMillis : Fld Z h0 r0 "ringward/Silence" "intervalMillis" "J" (.long w_i)) (F_r0_lateMillis : Fld Z h0 r0 "ringward/Silence" "lateMillis" "J" (.long w_l)) (F_r0_asking : Fld Z h0 r0 "ringward/Silence" "asking" "Z" (.int (own_b W_a))) (F_r0_deadline : Fld Z h0 r0 "ringward/Silence" "deadline" "J" (.long w_d)) (g_r0 : n0 ≤ r0) :
    MetFree l (⟨"ringward/Silence", "ticked", "(JJ)V"⟩ : MethodName) (head1 (Jvm.Cond.code (⟨"ringward/Silence", "ticked", "(JJ)V"⟩ : MethodName) prog_75_method_5_code 7 none :: ws) ({ frames := 0, cells := 0, slots := 0, locals := 0 } : Room)) (fun a U => a = #[(.ref r0), (.long q1), (.long q2)] ∧ Z.Warmed39 U.vm ∧ U.heap = h0) (fun _ _ _ _ _ => True) (fun _ U o U' => ∃ v L, o = .returned v ∧ own_Q6 Z r0 q1 q2 w_t w_i w_l W_a w_d h0 n0 v U'.heap L ∧ FrameEnd U o U' L ({ frames := 0, cells := 0, slots := 0, locals := 0 } : Room).cells ({ frames := 0, cells := 0, slots := 0, locals := 0 } : Room).slots) := by
  refine MetFree.of_bodySF (plainFor_of_name own_pn0) hisR ?_
  intro p e s m args below meth c s₁ Bd hml0 hP hK
  obtain ⟨rfl, hZ, hh⟩ := hP
  have hx := Bd.exec
  have hby := Bd.bytes
  have hml : c.maxLocals = 7 := hml0
  have hown : s.vm.findClass "ringward/Silence" = some m.cls := findClass_of_methodNamed Bd.named
  have hnm := (name_of_methodNamed Bd.named Bd.method).1
  have X0 : Stand p l e ({ frames := 0, cells := 0, slots := 0, locals := 0 } : Room) s m #[(.ref r0), (.long q1), (.long q2)] below meth c s₁ [] 0 0 := Stand.of_body Bd
  have e0 : s₁.heap = h0 := by rw [← hh, Bd.state]; rfl
  have N0 := Fr.nil n0
  have pre0 : ∀ t, Steps p.tables e below (s₁.setTop (mkF m 0 #[.val (.ref r0), .val (.long q1), .second, .val (.long q2), .second, .unset, .unset] [])) t → Steps p.tables e below (s₁.setTop (entryFrame m #[(.ref r0), (.long q1), (.long q2)] 7)) t := fun t k => castTop (own_ef6 m r0 q1 q2) k
  refine own_run (own_st pre0 ?_)
  obtain ⟨v3, hv3⟩ : ∃ z : Int64, z = (q2 - q1) := ⟨_, rfl⟩
  refine own_st (B := s₁.setTop (mkF m 8 #[.val (.ref r0), .val (.long q1), .second, .val (.long q2), .second, .val (.long v3), .second] [(.ref r0), (.long v3)])) (fun target kt => ?_) ?_
  · show Steps p.tables e below (s₁.setTop (mkF m 0 #[.val (.ref r0), .val (.long q1), .second, .val (.long q2), .second, .unset, .unset] [])) target
    refine XS.lloadN X0.here hx rfl (hb hby own_d6_0) rfl ?_
    show Steps p.tables e below (s₁.setTop (mkF m 1 #[.val (.ref r0), .val (.long q1), .second, .val (.long q2), .second, .unset, .unset] [(.long q2)])) target
    refine XS.lloadN X0.here hx rfl (hb hby own_d6_1) rfl ?_
    show Steps p.tables e below (s₁.setTop (mkF m 2 #[.val (.ref r0), .val (.long q1), .second, .val (.long q2), .second, .unset, .unset] [(.long q1), (.long q2)])) target
    refine XS.lsub X0.here hx rfl (hb hby own_d6_2) rfl ?_
    show Steps p.tables e below (s₁.setTop (mkF m 3 #[.val (.ref r0), .val (.long q1), .second, .val (.long q2), .second, .unset, .unset] [(.long (q2 - q1))])) target
    refine XS.lstore X0.here hx rfl (hb hby own_d6_3) rfl (l' := #[.val (.ref r0), .val (.long q1), .second, .val (.long q2), .second, .val (.long v3), .second]) (by subst hv3; rfl) ?_
    show Steps p.tables e below (s₁.setTop (mkF m 5 #[.val (.ref r0), .val (.long q1), .second, .val (.long q2), .second, .val (.long v3), .second] [])) target
    refine XS.lload X0.here hx rfl (hb hby own_d6_5) rfl ?_
    show Steps p.tables e below (s₁.setTop (mkF m 7 #[.val (.ref r0), .val (.long q1), .second, .val (.long q2), .second, .val (.long v3), .second] [(.long v3)])) target
    refine XS.aloadN X0.here hx rfl (hb hby own_d6_7) rfl rfl ?_
    exact kt
  obtain ⟨Tg8, Xg8, eg8, stg8⟩ := getF X0 hx hZ hown (host := "") (Or.inl (hw _ (List.mem_of_getElem? (i := 20) rfl))) Via.refl e0 F_r0_lateMillis (g := (mkF m 8 #[.val (.ref r0), .val (.long q1), .second, .val (.long q2), .second, .val (.long v3), .second] [(.ref r0), (.long v3)])) rfl rfl (hb hby own_d6_8)
  refine own_st stg8 ?_
  refine own_st (B := Tg8.setTop (mkF m 12 #[.val (.ref r0), .val (.long q1), .second, .val (.long q2), .second, .val (.long v3), .second] [(.int (lcmpW v3 w_l))])) (fun target kt => ?_) ?_
  · show Steps p.tables e below (Tg8.setTop (mkF m 11 #[.val (.ref r0), .val (.long q1), .second, .val (.long q2), .second, .val (.long v3), .second] [(.long w_l), (.long v3)])) target
    refine XS.lcmp Xg8.here hx rfl (hb hby own_d6_11) rfl ?_
    exact kt
  obtain ⟨_, ⟨T_M33, h_M33, lc_M33, j33_f_r0_deadline, rfl, X_M33, e_M33, N_M33, Z_M33, K_M33, F_7, F_8, F_9, F_10, F_11, F_12, hj33_f_r0_deadline⟩, st_M33⟩ : own_Lead p.tables e below (Tg8.setTop (mkF m 12 #[.val (.ref r0), .val (.long q1), .second, .val (.long q2), .second, .val (.long v3), .second] [(.int (lcmpW v3 w_l))])) (fun B => ∃ (T_M33 : State) (h_M33 : Heap) (lc_M33 : List Loc) (j33_f_r0_deadline : Int64), B = T_M33.setTop (mkF m 33 #[.val (.ref r0), .val (.long q1), .second, .val (.long q2), .second, .val (.long v3), .second] []) ∧ Stand p l e ({ frames := 0, cells := 0, slots := 0, locals := 0 } : Room) s m #[(.ref r0), (.long q1), (.long q2)] below meth c T_M33 lc_M33 0 0 ∧ T_M33.heap = h_M33 ∧ Fr n0 lc_M33 ∧ n0 ≤ h_M33.size ∧ Keep h0 h_M33 [r0] ∧ Exa Z h_M33 r0 "ringward/Silence" ∧ Fld Z h_M33 r0 "ringward/Silence" "timeoutMillis" "J" (.long w_t) ∧ Fld Z h_M33 r0 "ringward/Silence" "intervalMillis" "J" (.long w_i) ∧ Fld Z h_M33 r0 "ringward/Silence" "lateMillis" "J" (.long w_l) ∧ Fld Z h_M33 r0 "ringward/Silence" "asking" "Z" (.int (own_b W_a)) ∧ Fld Z h_M33 r0 "ringward/Silence" "deadline" "J" (.long j33_f_r0_deadline) ∧ j33_f_r0_deadline = (if v3 < w_l then w_d else (if W_a then ((w_d + v3)) else w_d))) := by
    by_cases c12 : v3 < w_l
    · refine own_st (B := Tg8.setTop (mkF m 33 #[.val (.ref r0), .val (.long q1), .second, .val (.long q2), .second, .val (.long v3), .second] [])) (fun target kt => ?_) ?_
      · show Steps p.tables e below (Tg8.setTop (mkF m 12 #[.val (.ref r0), .val (.long q1), .second, .val (.long q2), .second, .val (.long v3), .second] [(.int (lcmpW v3 w_l))])) target
        refine XS.ifYes Xg8.here hx rfl (pc0 := 12) (pc' := 33) rfl (hb hby own_d6_12) rfl ((if0 _ _).trans (tlt ((lw_lt v3 w_l).mpr c12)).1) (by decide) (by decide) ?_
        exact kt
      exact ⟨_, ⟨Tg8, h0, _, w_d, rfl, Xg8, eg8, N0, Z0, (Keep.refl h0 [r0]), E_r0, F_r0_timeoutMillis, F_r0_intervalMillis, F_r0_lateMillis, F_r0_asking, F_r0_deadline, (if_pos c12).symm⟩, fun _ k => k⟩
    · refine own_st (B := Tg8.setTop (mkF m 16 #[.val (.ref r0), .val (.long q1), .second, .val (.long q2), .second, .val (.long v3), .second] [(.ref r0)])) (fun target kt => ?_) ?_
      · show Steps p.tables e below (Tg8.setTop (mkF m 12 #[.val (.ref r0), .val (.long q1), .second, .val (.long q2), .second, .val (.long v3), .second] [(.int (lcmpW v3 w_l))])) target
        refine XS.ifNo Xg8.here hx rfl (hb hby own_d6_12) rfl ((if0 _ _).trans (flt (fun q => c12 ((lw_lt v3 w_l).mp q))).1) ?_
        show Steps p.tables e below (Tg8.setTop (mkF m 15 #[.val (.ref r0), .val (.long q1), .second, .val (.long q2), .second, .val (.long v3), .second] [])) target
        refine XS.aloadN Xg8.here hx rfl (hb hby own_d6_15) rfl rfl ?_
        exact kt
      obtain ⟨Tg16, Xg16, eg16, stg16⟩ := getF Xg8 hx hZ hown (host := "") (Or.inl (hw _ (List.mem_of_getElem? (i := 34) rfl))) Via.refl eg8 F_r0_asking (g := (mkF m 16 #[.val (.ref r0), .val (.long q1), .second, .val (.long q2), .second, .val (.long v3), .second] [(.ref r0)])) rfl rfl (hb hby own_d6_16)
      refine own_st stg16 ?_
      by_cases c19 : W_a
      · refine own_st (B := Tg16.setTop (mkF m 24 #[.val (.ref r0), .val (.long q1), .second, .val (.long q2), .second, .val (.long v3), .second] [(.ref r0), (.ref r0)])) (fun target kt => ?_) ?_
        · show Steps p.tables e below (Tg16.setTop (mkF m 19 #[.val (.ref r0), .val (.long q1), .second, .val (.long q2), .second, .val (.long v3), .second] [(.int (own_b W_a))])) target
          refine XS.ifNo Xg16.here hx rfl (hb hby own_d6_19) rfl ((if0 _ _).trans (feq (own_bn0 rfl c19)).1) ?_
          show Steps p.tables e below (Tg16.setTop (mkF m 22 #[.val (.ref r0), .val (.long q1), .second, .val (.long q2), .second, .val (.long v3), .second] [])) target
          refine XS.aloadN Xg16.here hx rfl (hb hby own_d6_22) rfl rfl ?_
          show Steps p.tables e below (Tg16.setTop (mkF m 23 #[.val (.ref r0), .val (.long q1), .second, .val (.long q2), .second, .val (.long v3), .second] [(.ref r0)])) target
          refine XS.dup Xg16.here hx rfl (hb hby own_d6_23) rfl rfl ?_
          exact kt
        obtain ⟨Tg24, Xg24, eg24, stg24⟩ := getF Xg16 hx hZ hown (host := "") (Or.inl (hw _ (List.mem_of_getElem? (i := 36) rfl))) Via.refl eg16 F_r0_deadline (g := (mkF m 24 #[.val (.ref r0), .val (.long q1), .second, .val (.long q2), .second, .val (.long v3), .second] [(.ref r0), (.ref r0)])) rfl rfl (hb hby own_d6_24)
        refine own_st stg24 ?_
        refine own_st (B := Tg24.setTop (mkF m 30 #[.val (.ref r0), .val (.long q1), .second, .val (.long q2), .second, .val (.long v3), .second] [(.long (w_d + v3)), (.ref r0)])) (fun target kt => ?_) ?_
        · show Steps p.tables e below (Tg24.setTop (mkF m 27 #[.val (.ref r0), .val (.long q1), .second, .val (.long q2), .second, .val (.long v3), .second] [(.long w_d), (.ref r0)])) target
          refine XS.lload Xg24.here hx rfl (hb hby own_d6_27) rfl ?_
          show Steps p.tables e below (Tg24.setTop (mkF m 29 #[.val (.ref r0), .val (.long q1), .second, .val (.long q2), .second, .val (.long v3), .second] [(.long v3), (.long w_d), (.ref r0)])) target
          refine XS.ladd Xg24.here hx rfl (hb hby own_d6_29) rfl ?_
          exact kt
        obtain ⟨Tg30, hg30, Xg30, eg30, Wg30, stg30⟩ := putF Xg24 hx hZ hown (host := "") (Or.inl (hw _ (List.mem_of_getElem? (i := 36) rfl))) Via.refl eg24 F_r0_deadline E_r0 (Or.inl (hw _ (List.mem_of_getElem? (i := 37) rfl))) (hw _ (List.mem_of_getElem? (i := 2) rfl)) (ty := .long) (by decide) rfl rfl (g := (mkF m 30 #[.val (.ref r0), .val (.long q1), .second, .val (.long q2), .second, .val (.long v3), .second] [(.long (w_d + v3)), (.ref r0)])) rfl rfl (hb hby own_d6_30)
        refine own_st stg30 ?_
        have Ng30 := Fr.snoc Xg30 N0 g_r0
        have F := E_r0.wr Wg30
        have F_1 := F_r0_timeoutMillis.other Wg30 (Or.inr (slot_ne (Or.inr (hw _ (List.mem_of_getElem? (i := 11) rfl))) (Or.inl (hw _ (List.mem_of_getElem? (i := 37) rfl))) (by decide) (t := .long) (t' := .long) (by decide) (by decide)))
        have F_2 := F_r0_intervalMillis.other Wg30 (Or.inr (slot_ne (Or.inr (hw _ (List.mem_of_getElem? (i := 18) rfl))) (Or.inl (hw _ (List.mem_of_getElem? (i := 37) rfl))) (by decide) (t := .long) (t' := .long) (by decide) (by decide)))
        have F_3 := F_r0_lateMillis.other Wg30 (Or.inr (slot_ne (Or.inr (hw _ (List.mem_of_getElem? (i := 21) rfl))) (Or.inl (hw _ (List.mem_of_getElem? (i := 37) rfl))) (by decide) (t := .long) (t' := .long) (by decide) (by decide)))
        have F_4 := F_r0_asking.other Wg30 (Or.inr (slot_ne (Or.inl (hw _ (List.mem_of_getElem? (i := 35) rfl))) (Or.inl (hw _ (List.mem_of_getElem? (i := 37) rfl))) (by decide) (t := .boolean) (t' := .long) (by decide) (by decide)))
        have F_5 := F_r0_deadline.same Wg30
        have Zz : n0 ≤ hg30.size := Nat.le_trans Z0 (Keep.of_wr Wg30).1
        have Kc := (Keep.refl h0 [r0]).wr Wg30 (Or.inl (List.mem_of_getElem? (i := 0) rfl))
        obtain ⟨v30, hv30⟩ : ∃ z : Int64, z = (w_d + v3) := ⟨_, rfl⟩
        have F_6 : Fld Z hg30 r0 "ringward/Silence" "deadline" "J" (.long v30) := by subst hv30; exact F_5
        subst hv30
        exact ⟨_, ⟨Tg30, hg30, _, ((w_d + v3)), rfl, Xg30, eg30, Ng30, Zz, Kc, F, F_1, F_2, F_3, F_4, F_6, (Eq.trans (if_pos c19).symm (if_neg c12).symm)⟩, fun _ k => k⟩
      · refine own_st (B := Tg16.setTop (mkF m 33 #[.val (.ref r0), .val (.long q1), .second, .val (.long q2), .second, .val (.long v3), .second] [])) (fun target kt => ?_) ?_
        · show Steps p.tables e below (Tg16.setTop (mkF m 19 #[.val (.ref r0), .val (.long q1), .second, .val (.long q2), .second, .val (.long v3), .second] [(.int (own_b W_a))])) target
          refine XS.ifYes Xg16.here hx rfl (pc0 := 19) (pc' := 33) rfl (hb hby own_d6_19) rfl ((if0 _ _).trans (teq (own_b00 rfl c19)).1) (by decide) (by decide) ?_
          exact kt
        exact ⟨_, ⟨Tg16, h0, _, w_d, rfl, Xg16, eg16, N0, Z0, (Keep.refl h0 [r0]), E_r0, F_r0_timeoutMillis, F_r0_intervalMillis, F_r0_lateMillis, F_r0_asking, F_r0_deadline, (Eq.trans (if_neg c19).symm (if_neg c12).symm)⟩, fun _ k => k⟩
  refine own_st st_M33 ?_
  obtain ⟨fs, hr, hrun, hended, hW, hsame⟩ := X_M33.leave (v := none) (fun _ => rfl)
  have hend : Steps p.tables e below (T_M33.setTop (mkF m 33 #[.val (.ref r0), .val (.long q1), .second, .val (.long q2), .second, .val (.long v3), .second] [])) (T_M33.setFrames fs) := by
    exact X_M33.returnOut hx Bd.returns (hb hby own_d6_33) hr
  refine own_fin hend ⟨_, hrun, hended, _, _, rfl, ?_, ⟨_, rfl⟩, hW, hsame.mono (by decide) (by decide)⟩
  show own_Q6 Z r0 q1 q2 w_t w_i w_l W_a w_d h0 n0 _ T_M33.heap _
  rw [e_M33]
  subst hv3 hj33_f_r0_deadline
  exact ⟨rfl, N_M33, K_M33, F_7, F_8, F_9, F_10, F_11, F_12⟩
theorem own_d8_0 : decode prog_75_method_4_code 0 = .ok (.aload_n 0, 1) := by decide +kernel
theorem own_d8_1 : decode prog_75_method_4_code 1 = .ok (.iconst 0, 1) := by decide +kernel
theorem own_d8_2 : decode prog_75_method_4_code 2 = .ok (.putfield 29, 3) := by decide +kernel
theorem own_d8_5 : decode prog_75_method_4_code 5 = .ok (.return_, 1) := by decide +kernel
theorem own_ef8 (m : MethodId) (r0 : Addr) : entryFrame m #[(.ref r0)] 1 = mkF m 0 #[.val (.ref r0)] [] := by first | (simp [entryFrame, mkF, argsToLocals, Value.category]; done) | rfl
def own_Q8 (Z : State) (r0 : Addr) (w_t : Int64) (w_i : Int64) (w_l : Int64) (W_a : Prop) [Decidable W_a] (w_d : Int64) (h0 : Heap) (n0 : Nat) (v : Option Value) (h : Heap) (L : List Loc) : Prop := (v = none) ∧ (Fr n0 L) ∧ (Keep h0 h [r0]) ∧ (Exa Z h r0 "ringward/Silence") ∧ (Fld Z h r0 "ringward/Silence" "timeoutMillis" "J" (.long w_t)) ∧ (Fld Z h r0 "ringward/Silence" "intervalMillis" "J" (.long w_i)) ∧ (Fld Z h r0 "ringward/Silence" "lateMillis" "J" (.long w_l)) ∧ (Fld Z h r0 "ringward/Silence" "asking" "Z" (.int (0 : Int32))) ∧ (Fld Z h r0 "ringward/Silence" "deadline" "J" (.long w_d))
set_option maxRecDepth 65536 in
set_option maxHeartbeats 40000000 in
theorem own_rm8 (l : Launch) (Z : State) (a0 : Array Value) (hw : ∀ d ∈ tables_1, d.before a0 Z = true) (ws : List Jvm.Cond) (r0 : Addr) (w_t : Int64) (w_i : Int64) (w_l : Int64) (W_a : Prop) [Decidable W_a] (w_d : Int64) (h0 : Heap) (n0 : Nat) (Z0 : n0 ≤ h0.size) (E_r0 : Exa Z h0 r0 "ringward/Silence") (F_r0_timeoutMillis : Fld Z h0 r0 "ringward/Silence" "timeoutMillis" "J" (.long w_t)) (F_r0_intervalMillis : Fld Z h0 r0 "ringward/Silence" "intervalMillis" "J" (.long w_i)) (F_r0_lateMillis : Fld Z h0 r0 "ringward/Silence" "lateMillis" "J" (.long w_l)) (F_r0_asking : Fld Z h0 r0 "ringward/Silence" "asking" "Z" (.int (own_b W_a))) (F_r0_deadline : Fld Z h0 r0 "ringward/Silence" "deadline" "J" (.long w_d)) (g_r0 : n0 ≤ r0) :
    MetFree l (⟨"ringward/Silence", "answered", "()V"⟩ : MethodName) (head1 (Jvm.Cond.code (⟨"ringward/Silence", "answered", "()V"⟩ : MethodName) prog_75_method_4_code 1 none :: ws) ({ frames := 0, cells := 0, slots := 0, locals := 0 } : Room)) (fun a U => a = #[(.ref r0)] ∧ Z.Warmed39 U.vm ∧ U.heap = h0) (fun _ _ _ _ _ => True) (fun _ U o U' => ∃ v L, o = .returned v ∧ own_Q8 Z r0 w_t w_i w_l W_a w_d h0 n0 v U'.heap L ∧ FrameEnd U o U' L ({ frames := 0, cells := 0, slots := 0, locals := 0 } : Room).cells ({ frames := 0, cells := 0, slots := 0, locals := 0 } : Room).slots) := by
  refine MetFree.of_bodySF (plainFor_of_name own_pn0) hisR ?_
  intro p e s m args below meth c s₁ Bd hml0 hP hK
  obtain ⟨rfl, hZ, hh⟩ := hP
  have hx := Bd.exec
  have hby := Bd.bytes
  have hml : c.maxLocals = 1 := hml0
  have hown : s.vm.findClass "ringward/Silence" = some m.cls := findClass_of_methodNamed Bd.named
  have hnm := (name_of_methodNamed Bd.named Bd.method).1
  have X0 : Stand p l e ({ frames := 0, cells := 0, slots := 0, locals := 0 } : Room) s m #[(.ref r0)] below meth c s₁ [] 0 0 := Stand.of_body Bd
  have e0 : s₁.heap = h0 := by rw [← hh, Bd.state]; rfl
  have N0 := Fr.nil n0
  have pre0 : ∀ t, Steps p.tables e below (s₁.setTop (mkF m 0 #[.val (.ref r0)] [])) t → Steps p.tables e below (s₁.setTop (entryFrame m #[(.ref r0)] 1)) t := fun t k => castTop (own_ef8 m r0) k
  refine own_run (own_st pre0 ?_)
  refine own_st (B := s₁.setTop (mkF m 2 #[.val (.ref r0)] [(.int (0 : Int32)), (.ref r0)])) (fun target kt => ?_) ?_
  · show Steps p.tables e below (s₁.setTop (mkF m 0 #[.val (.ref r0)] [])) target
    refine XS.aloadN X0.here hx rfl (hb hby own_d8_0) rfl rfl ?_
    show Steps p.tables e below (s₁.setTop (mkF m 1 #[.val (.ref r0)] [(.ref r0)])) target
    refine XS.iconst X0.here hx rfl (hb hby own_d8_1) ?_
    exact kt
  obtain ⟨Tg2, hg2, Xg2, eg2, Wg2, stg2⟩ := putFN X0 hx hZ hown (hw _ (List.mem_of_getElem? (i := 34) rfl)) Via.refl e0 F_r0_asking E_r0 (Or.inl (hw _ (List.mem_of_getElem? (i := 35) rfl))) (hw _ (List.mem_of_getElem? (i := 2) rfl)) (ty := .boolean) (v' := (.int (0 : Int32))) (by decide) rfl (own_bfits rfl) (g := (mkF m 2 #[.val (.ref r0)] [(.int (0 : Int32)), (.ref r0)])) rfl rfl (hb hby own_d8_2)
  refine own_st stg2 ?_
  have Ng2 := Fr.snoc Xg2 N0 g_r0
  have F := E_r0.wr Wg2
  have F_1 := F_r0_timeoutMillis.other Wg2 (Or.inr (slot_ne (Or.inr (hw _ (List.mem_of_getElem? (i := 11) rfl))) (Or.inl (hw _ (List.mem_of_getElem? (i := 35) rfl))) (by decide) (t := .long) (t' := .boolean) (by decide) (by decide)))
  have F_2 := F_r0_intervalMillis.other Wg2 (Or.inr (slot_ne (Or.inr (hw _ (List.mem_of_getElem? (i := 18) rfl))) (Or.inl (hw _ (List.mem_of_getElem? (i := 35) rfl))) (by decide) (t := .long) (t' := .boolean) (by decide) (by decide)))
  have F_3 := F_r0_lateMillis.other Wg2 (Or.inr (slot_ne (Or.inr (hw _ (List.mem_of_getElem? (i := 21) rfl))) (Or.inl (hw _ (List.mem_of_getElem? (i := 35) rfl))) (by decide) (t := .long) (t' := .boolean) (by decide) (by decide)))
  have F_4 := F_r0_asking.same Wg2
  have F_5 := F_r0_deadline.other Wg2 (Or.inr (slot_ne (Or.inl (hw _ (List.mem_of_getElem? (i := 37) rfl))) (Or.inl (hw _ (List.mem_of_getElem? (i := 35) rfl))) (by decide) (t := .long) (t' := .boolean) (by decide) (by decide)))
  have Zz : n0 ≤ hg2.size := Nat.le_trans Z0 (Keep.of_wr Wg2).1
  have Kc := (Keep.refl h0 [r0]).wr Wg2 (Or.inl (List.mem_of_getElem? (i := 0) rfl))
  obtain ⟨fs, hr, hrun, hended, hW, hsame⟩ := Xg2.leave (v := none) (fun _ => rfl)
  have hend : Steps p.tables e below (Tg2.setTop (mkF m 5 #[.val (.ref r0)] [])) (Tg2.setFrames fs) := by
    exact Xg2.returnOut hx Bd.returns (hb hby own_d8_5) hr
  refine own_fin hend ⟨_, hrun, hended, _, _, rfl, ?_, ⟨_, rfl⟩, hW, hsame.mono (by decide) (by decide)⟩
  show own_Q8 Z r0 w_t w_i w_l W_a w_d h0 n0 _ Tg2.heap _
  rw [eg2]
  exact ⟨rfl, Ng2, Kc, F, F_1, F_2, F_3, F_4, F_5⟩
theorem own_d7_0 : decode prog_75_method_6_code 0 = .ok (.aload_n 0, 1) := by decide +kernel
theorem own_d7_1 : decode prog_75_method_6_code 1 = .ok (.getfield 29, 3) := by decide +kernel
theorem own_d7_4 : decode prog_75_method_6_code 4 = .ok (.ifCond .eq 18, 3) := by decide +kernel
theorem own_d7_7 : decode prog_75_method_6_code 7 = .ok (.lload_n 1, 1) := by decide +kernel
theorem own_d7_8 : decode prog_75_method_6_code 8 = .ok (.aload_n 0, 1) := by decide +kernel
theorem own_d7_9 : decode prog_75_method_6_code 9 = .ok (.getfield 33, 3) := by decide +kernel
theorem own_d7_12 : decode prog_75_method_6_code 12 = .ok (.lsub, 1) := by decide +kernel
theorem own_d7_13 : decode prog_75_method_6_code 13 = .ok (.lconst 0, 1) := by decide +kernel
theorem own_d7_14 : decode prog_75_method_6_code 14 = .ok (.lcmp, 1) := by decide +kernel
theorem own_d7_15 : decode prog_75_method_6_code 15 = .ok (.ifCond .lt 7, 3) := by decide +kernel
theorem own_d7_18 : decode prog_75_method_6_code 18 = .ok (.iconst 1, 1) := by decide +kernel
theorem own_d7_19 : decode prog_75_method_6_code 19 = .ok (.goto 4, 3) := by decide +kernel
theorem own_d7_22 : decode prog_75_method_6_code 22 = .ok (.iconst 0, 1) := by decide +kernel
theorem own_d7_23 : decode prog_75_method_6_code 23 = .ok (.ireturn, 1) := by decide +kernel
theorem own_ef7 (m : MethodId) (r0 : Addr) (q1 : Int64) : entryFrame m #[(.ref r0), (.long q1)] 3 = mkF m 0 #[.val (.ref r0), .val (.long q1), .second] [] := by first | (simp [entryFrame, mkF, argsToLocals, Value.category]; done) | rfl
def own_Q7 (Z : State) (r0 : Addr) (q1 : Int64) (W_a : Prop) [Decidable W_a] (w_d : Int64) (h0 : Heap) (n0 : Nat) (v : Option Value) (h : Heap) (L : List Loc) : Prop := (v = some (.int (own_b ((W_a) ∧ (¬ ((q1 - w_d) < (0 : Int64))))))) ∧ (Fr n0 L) ∧ (h = h0)
set_option maxRecDepth 65536 in
set_option maxHeartbeats 40000000 in
theorem own_rm7 (l : Launch) (Z : State) (a0 : Array Value) (hw : ∀ d ∈ tables_1, d.before a0 Z = true) (ws : List Jvm.Cond) (r0 : Addr) (q1 : Int64) (W_a : Prop) [Decidable W_a] (w_d : Int64) (h0 : Heap) (n0 : Nat) (Z0 : n0 ≤ h0.size) (F_r0_asking : Fld Z h0 r0 "ringward/Silence" "asking" "Z" (.int (own_b W_a))) (F_r0_deadline : Fld Z h0 r0 "ringward/Silence" "deadline" "J" (.long w_d)) :
    MetFree l (⟨"ringward/Silence", "isOver", "(J)Z"⟩ : MethodName) (head1 (Jvm.Cond.code (⟨"ringward/Silence", "isOver", "(J)Z"⟩ : MethodName) prog_75_method_6_code 3 (some .boolean) :: ws) ({ frames := 0, cells := 0, slots := 0, locals := 0 } : Room)) (fun a U => a = #[(.ref r0), (.long q1)] ∧ Z.Warmed39 U.vm ∧ U.heap = h0) (fun _ _ _ _ _ => True) (fun _ U o U' => ∃ v L, o = .returned v ∧ own_Q7 Z r0 q1 W_a w_d h0 n0 v U'.heap L ∧ FrameEnd U o U' L ({ frames := 0, cells := 0, slots := 0, locals := 0 } : Room).cells ({ frames := 0, cells := 0, slots := 0, locals := 0 } : Room).slots) := by
  refine MetFree.of_bodySF (plainFor_of_name own_pn0) hisR ?_
  intro p e s m args below meth c s₁ Bd hml0 hP hK
  obtain ⟨rfl, hZ, hh⟩ := hP
  have hx := Bd.exec
  have hby := Bd.bytes
  have hml : c.maxLocals = 3 := hml0
  have hown : s.vm.findClass "ringward/Silence" = some m.cls := findClass_of_methodNamed Bd.named
  have hnm := (name_of_methodNamed Bd.named Bd.method).1
  have X0 : Stand p l e ({ frames := 0, cells := 0, slots := 0, locals := 0 } : Room) s m #[(.ref r0), (.long q1)] below meth c s₁ [] 0 0 := Stand.of_body Bd
  have e0 : s₁.heap = h0 := by rw [← hh, Bd.state]; rfl
  have N0 := Fr.nil n0
  have pre0 : ∀ t, Steps p.tables e below (s₁.setTop (mkF m 0 #[.val (.ref r0), .val (.long q1), .second] [])) t → Steps p.tables e below (s₁.setTop (entryFrame m #[(.ref r0), (.long q1)] 3)) t := fun t k => castTop (own_ef7 m r0 q1) k
  refine own_run (own_st pre0 ?_)
  refine own_st (B := s₁.setTop (mkF m 1 #[.val (.ref r0), .val (.long q1), .second] [(.ref r0)])) (fun target kt => ?_) ?_
  · show Steps p.tables e below (s₁.setTop (mkF m 0 #[.val (.ref r0), .val (.long q1), .second] [])) target
    refine XS.aloadN X0.here hx rfl (hb hby own_d7_0) rfl rfl ?_
    exact kt
  obtain ⟨Tg1, Xg1, eg1, stg1⟩ := getF X0 hx hZ hown (host := "") (Or.inl (hw _ (List.mem_of_getElem? (i := 34) rfl))) Via.refl e0 F_r0_asking (g := (mkF m 1 #[.val (.ref r0), .val (.long q1), .second] [(.ref r0)])) rfl rfl (hb hby own_d7_1)
  refine own_st stg1 ?_
  obtain ⟨_, ⟨T_M23, lc_M23, j23_s0, rfl, X_M23, e_M23, N_M23, Z_M23, F, F_1, rfl⟩, st_M23⟩ : own_Lead p.tables e below (Tg1.setTop (mkF m 4 #[.val (.ref r0), .val (.long q1), .second] [(.int (own_b W_a))])) (fun B => ∃ (T_M23 : State) (lc_M23 : List Loc) (j23_s0 : Int32), B = T_M23.setTop (mkF m 23 #[.val (.ref r0), .val (.long q1), .second] [(.int j23_s0)]) ∧ Stand p l e ({ frames := 0, cells := 0, slots := 0, locals := 0 } : Room) s m #[(.ref r0), (.long q1)] below meth c T_M23 lc_M23 0 0 ∧ T_M23.heap = h0 ∧ Fr n0 lc_M23 ∧ n0 ≤ h0.size ∧ Fld Z h0 r0 "ringward/Silence" "asking" "Z" (.int (own_b W_a)) ∧ Fld Z h0 r0 "ringward/Silence" "deadline" "J" (.long w_d) ∧ j23_s0 = own_b (((W_a) ∧ (¬ ((q1 - w_d) < (0 : Int64)))))) := by
    by_cases c4 : W_a
    · refine own_st (B := Tg1.setTop (mkF m 9 #[.val (.ref r0), .val (.long q1), .second] [(.ref r0), (.long q1)])) (fun target kt => ?_) ?_
      · show Steps p.tables e below (Tg1.setTop (mkF m 4 #[.val (.ref r0), .val (.long q1), .second] [(.int (own_b W_a))])) target
        refine XS.ifNo Xg1.here hx rfl (hb hby own_d7_4) rfl ((if0 _ _).trans (feq (own_bn0 rfl c4)).1) ?_
        show Steps p.tables e below (Tg1.setTop (mkF m 7 #[.val (.ref r0), .val (.long q1), .second] [])) target
        refine XS.lloadN Xg1.here hx rfl (hb hby own_d7_7) rfl ?_
        show Steps p.tables e below (Tg1.setTop (mkF m 8 #[.val (.ref r0), .val (.long q1), .second] [(.long q1)])) target
        refine XS.aloadN Xg1.here hx rfl (hb hby own_d7_8) rfl rfl ?_
        exact kt
      obtain ⟨Tg9, Xg9, eg9, stg9⟩ := getF Xg1 hx hZ hown (host := "") (Or.inl (hw _ (List.mem_of_getElem? (i := 36) rfl))) Via.refl eg1 F_r0_deadline (g := (mkF m 9 #[.val (.ref r0), .val (.long q1), .second] [(.ref r0), (.long q1)])) rfl rfl (hb hby own_d7_9)
      refine own_st stg9 ?_
      refine own_st (B := Tg9.setTop (mkF m 15 #[.val (.ref r0), .val (.long q1), .second] [(.int (lcmpW (q1 - w_d) (0 : Int64)))])) (fun target kt => ?_) ?_
      · show Steps p.tables e below (Tg9.setTop (mkF m 12 #[.val (.ref r0), .val (.long q1), .second] [(.long w_d), (.long q1)])) target
        refine XS.lsub Xg9.here hx rfl (hb hby own_d7_12) rfl ?_
        show Steps p.tables e below (Tg9.setTop (mkF m 13 #[.val (.ref r0), .val (.long q1), .second] [(.long (q1 - w_d))])) target
        refine XS.lconst Xg9.here hx rfl (hb hby own_d7_13) ?_
        show Steps p.tables e below (Tg9.setTop (mkF m 14 #[.val (.ref r0), .val (.long q1), .second] [(.long (0 : Int64)), (.long (q1 - w_d))])) target
        refine XS.lcmp Xg9.here hx rfl (hb hby own_d7_14) rfl ?_
        exact kt
      by_cases c15 : (q1 - w_d) < (0 : Int64)
      · refine own_st (B := Tg9.setTop (mkF m 23 #[.val (.ref r0), .val (.long q1), .second] [(.int (0 : Int32))])) (fun target kt => ?_) ?_
        · show Steps p.tables e below (Tg9.setTop (mkF m 15 #[.val (.ref r0), .val (.long q1), .second] [(.int (lcmpW (q1 - w_d) (0 : Int64)))])) target
          refine XS.ifYes Xg9.here hx rfl (pc0 := 15) (pc' := 22) rfl (hb hby own_d7_15) rfl ((if0 _ _).trans (tlt ((lw_lt (q1 - w_d) (0 : Int64)).mpr c15)).1) (by decide) (by decide) ?_
          show Steps p.tables e below (Tg9.setTop (mkF m 22 #[.val (.ref r0), .val (.long q1), .second] [])) target
          refine XS.iconst Xg9.here hx rfl (hb hby own_d7_22) ?_
          exact kt
        exact ⟨_, ⟨Tg9, _, (0 : Int32), rfl, Xg9, eg9, N0, Z0, F_r0_asking, F_r0_deadline, (own_b0 (fun w => (fun w => w c15) w.2)).symm⟩, fun _ k => k⟩
      · refine own_st (B := Tg9.setTop (mkF m 23 #[.val (.ref r0), .val (.long q1), .second] [(.int (1 : Int32))])) (fun target kt => ?_) ?_
        · show Steps p.tables e below (Tg9.setTop (mkF m 15 #[.val (.ref r0), .val (.long q1), .second] [(.int (lcmpW (q1 - w_d) (0 : Int64)))])) target
          refine XS.ifNo Xg9.here hx rfl (hb hby own_d7_15) rfl ((if0 _ _).trans (flt (fun q => c15 ((lw_lt (q1 - w_d) (0 : Int64)).mp q))).1) ?_
          show Steps p.tables e below (Tg9.setTop (mkF m 18 #[.val (.ref r0), .val (.long q1), .second] [])) target
          refine XS.iconst Xg9.here hx rfl (hb hby own_d7_18) ?_
          show Steps p.tables e below (Tg9.setTop (mkF m 19 #[.val (.ref r0), .val (.long q1), .second] [(.int (1 : Int32))])) target
          refine XS.goto Xg9.here hx rfl (pc0 := 19) (pc' := 23) rfl (hb hby own_d7_19) (by decide) (by decide) ?_
          exact kt
        exact ⟨_, ⟨Tg9, _, (1 : Int32), rfl, Xg9, eg9, N0, Z0, F_r0_asking, F_r0_deadline, (own_b1 ⟨c4, c15⟩).symm⟩, fun _ k => k⟩
    · refine own_st (B := Tg1.setTop (mkF m 23 #[.val (.ref r0), .val (.long q1), .second] [(.int (0 : Int32))])) (fun target kt => ?_) ?_
      · show Steps p.tables e below (Tg1.setTop (mkF m 4 #[.val (.ref r0), .val (.long q1), .second] [(.int (own_b W_a))])) target
        refine XS.ifYes Xg1.here hx rfl (pc0 := 4) (pc' := 22) rfl (hb hby own_d7_4) rfl ((if0 _ _).trans (teq (own_b00 rfl c4)).1) (by decide) (by decide) ?_
        show Steps p.tables e below (Tg1.setTop (mkF m 22 #[.val (.ref r0), .val (.long q1), .second] [])) target
        refine XS.iconst Xg1.here hx rfl (hb hby own_d7_22) ?_
        exact kt
      exact ⟨_, ⟨Tg1, _, (0 : Int32), rfl, Xg1, eg1, N0, Z0, F_r0_asking, F_r0_deadline, (own_b0 (fun w => c4 w.1)).symm⟩, fun _ k => k⟩
  refine own_st st_M23 ?_
  obtain ⟨fs, hr, hrun, hended, hW, hsame⟩ := X_M23.leave (v := some (.int (nar .boolean (own_b ((W_a) ∧ (¬ ((q1 - w_d) < (0 : Int64)))))))) (fun h => by rw [Bd.returns] at h; cases h)
  have hend : Steps p.tables e below (T_M23.setTop (mkF m 23 #[.val (.ref r0), .val (.long q1), .second] [(.int (own_b ((W_a) ∧ (¬ ((q1 - w_d) < (0 : Int64))))))])) (T_M23.setFrames fs) := by
    exact retN X_M23 hx (t := .boolean) Bd.returns (by simp) (hb hby own_d7_23) hr
  refine own_fin hend ⟨_, hrun, hended, _, _, rfl, ?_, ⟨_, rfl⟩, hW, hsame.mono (by decide) (by decide)⟩
  show own_Q7 Z r0 q1 W_a w_d h0 n0 _ T_M23.heap _
  rw [e_M23]
  exact ⟨(congrArg (fun z => some (Value.int z)) ((own_nar rfl).trans (own_bi ⟨fun w => w, fun w => w⟩))), N_M23, rfl⟩
theorem own_three (a v : Int32) (h : v = ((a &&& (2147483647 : Int32)) % (3 : Int32))) : v = (0 : Int32) ∨ v = (1 : Int32) ∨ v = (2 : Int32) := by
  have h1 := c_mask a 2147483647 31 (by decide) (by decide)
  have h2 := (c_irem (a &&& 2147483647) 3 3 (by decide)).1
  rw [h1] at h2
  have h3 := h2 (by omega)
  rw [← h] at h3
  have e0 : (0 : Int32).toInt = 0 := by decide
  have e1 : (1 : Int32).toInt = 1 := by decide
  have e2 : (2 : Int32).toInt = 2 := by decide
  simp only [← Int32.toInt_inj, e0, e1, e2]
  omega
theorem own_pd1 : parseMethodDescriptor "(J)V" = some ⟨[.long], none⟩ := by decide +kernel
theorem own_pd2 : parseMethodDescriptor "()J" = some ⟨[], some .long⟩ := by decide +kernel
theorem own_pd3 : parseMethodDescriptor "(J)J" = some ⟨[.long], some .long⟩ := by decide +kernel
theorem own_pd4 : parseMethodDescriptor "()V" = some ⟨[], none⟩ := by decide +kernel
theorem own_pd5 : parseMethodDescriptor "(JJ)V" = some ⟨[.long, .long], none⟩ := by decide +kernel
theorem own_pd6 : parseMethodDescriptor "(J)Z" = some ⟨[.long], some .boolean⟩ := by decide +kernel
theorem own_pn1 : plainName "ringward/SilenceTickedPinLaw" = true := by first | (simp [plainName, overriddenIn]; done) | decide +kernel
theorem own_ef0 (m : MethodId) (q0 : Int64) (q1 : Int64) (q2 : Int64) (q3 : Int64) (q4 : Int64) (p5 : Int32) : entryFrame m #[(.long q0), (.long q1), (.long q2), (.long q3), (.long q4), (.int p5)] maxLocals = mkF m 0 #[.val (.long q0), .second, .val (.long q1), .second, .val (.long q2), .second, .val (.long q3), .second, .val (.long q4), .second, .val (.int p5), .unset, .unset, .unset, .unset, .unset, .unset, .unset, .unset, .unset, .unset, .unset, .unset] [] := by first | (simp [entryFrame, mkF, argsToLocals, Value.category, maxLocals]; done) | rfl
def own_Q0 (Z : State) (q0 : Int64) (q1 : Int64) (q2 : Int64) (q3 : Int64) (q4 : Int64) (p5 : Int32) (h0 : Heap) (n0 : Nat) (v : Option Value) (h : Heap) (L : List Loc) : Prop := (v = some (.int (1 : Int32))) ∧ (Fr n0 L)
set_option maxRecDepth 65536 in
set_option maxHeartbeats 40000000 in
theorem own_rm0 (l : Launch) (Z : State) (a0 : Array Value) (hw : ∀ d ∈ tables_1, d.before a0 Z = true) (ws : List Jvm.Cond) (q0 : Int64) (q1 : Int64) (q2 : Int64) (q3 : Int64) (q4 : Int64) (p5 : Int32) (h0 : Heap) (n0 : Nat) (Z0 : n0 ≤ h0.size) :
    MetFree l x (head1 (Jvm.Cond.code x code maxLocals ret :: ws) room_1) (fun a U => a = #[(.long q0), (.long q1), (.long q2), (.long q3), (.long q4), (.int p5)] ∧ Z.Warmed39 U.vm ∧ U.heap = h0) (fun _ _ _ _ _ => True) (fun _ U o U' => ∃ v L, o = .returned v ∧ own_Q0 Z q0 q1 q2 q3 q4 p5 h0 n0 v U'.heap L ∧ FrameEnd U o U' L room_1.cells room_1.slots) := by
  refine MetFree.of_bodySF (plainFor_of_name own_pn1) hisR ?_
  intro p e s m args below meth c s₁ Bd hml0 hP hK
  obtain ⟨rfl, hZ, hh⟩ := hP
  have hx := Bd.exec
  have hby := Bd.bytes
  have hml : c.maxLocals = 23 := hml0
  have hown : s.vm.findClass "ringward/SilenceTickedPinLaw" = some m.cls := findClass_of_methodNamed Bd.named
  have hnm := (name_of_methodNamed Bd.named Bd.method).1
  have X0 : Stand p l e room_1 s m #[(.long q0), (.long q1), (.long q2), (.long q3), (.long q4), (.int p5)] below meth c s₁ [] 0 0 := Stand.of_body Bd
  have e0 : s₁.heap = h0 := by rw [← hh, Bd.state]; rfl
  have N0 := Fr.nil n0
  have pre0 : ∀ t, Steps p.tables e below (s₁.setTop (mkF m 0 #[.val (.long q0), .second, .val (.long q1), .second, .val (.long q2), .second, .val (.long q3), .second, .val (.long q4), .second, .val (.int p5), .unset, .unset, .unset, .unset, .unset, .unset, .unset, .unset, .unset, .unset, .unset, .unset] [])) t → Steps p.tables e below (s₁.setTop (entryFrame m #[(.long q0), (.long q1), (.long q2), (.long q3), (.long q4), (.int p5)] maxLocals)) t := fun t k => castTop (own_ef0 m q0 q1 q2 q3 q4 p5) k
  refine own_run (own_st pre0 ?_)
  obtain ⟨v7, hv7⟩ : ∃ z : Int32, z = ((p5 &&& (2147483647 : Int32)) % (3 : Int32)) := ⟨_, rfl⟩
  refine own_st (B := s₁.setTop (mkF m 9 #[.val (.long q0), .second, .val (.long q1), .second, .val (.long q2), .second, .val (.long q3), .second, .val (.long q4), .second, .val (.int p5), .val (.int v7), .unset, .unset, .unset, .unset, .unset, .unset, .unset, .unset, .unset, .unset, .unset] [])) (fun target kt => ?_) ?_
  · show Steps p.tables e below (s₁.setTop (mkF m 0 #[.val (.long q0), .second, .val (.long q1), .second, .val (.long q2), .second, .val (.long q3), .second, .val (.long q4), .second, .val (.int p5), .unset, .unset, .unset, .unset, .unset, .unset, .unset, .unset, .unset, .unset, .unset, .unset] [])) target
    refine XS.iload X0.here hx rfl (hb hby at_0) rfl ?_
    show Steps p.tables e below (s₁.setTop (mkF m 2 #[.val (.long q0), .second, .val (.long q1), .second, .val (.long q2), .second, .val (.long q3), .second, .val (.long q4), .second, .val (.int p5), .unset, .unset, .unset, .unset, .unset, .unset, .unset, .unset, .unset, .unset, .unset, .unset] [(.int p5)])) target
    refine X0.ldcInt hx hown (mvT hZ (hw _ (List.mem_of_getElem? (i := 0) rfl))) (g := (mkF m 2 #[.val (.long q0), .second, .val (.long q1), .second, .val (.long q2), .second, .val (.long q3), .second, .val (.long q4), .second, .val (.int p5), .unset, .unset, .unset, .unset, .unset, .unset, .unset, .unset, .unset, .unset, .unset, .unset] [(.int p5)])) rfl (hb hby at_2) _ ?_
    show Steps p.tables e below (s₁.setTop (mkF m 4 #[.val (.long q0), .second, .val (.long q1), .second, .val (.long q2), .second, .val (.long q3), .second, .val (.long q4), .second, .val (.int p5), .unset, .unset, .unset, .unset, .unset, .unset, .unset, .unset, .unset, .unset, .unset, .unset] [(.int (2147483647 : Int32)), (.int p5)])) target
    refine XS.iand X0.here hx rfl (hb hby at_4) rfl ?_
    show Steps p.tables e below (s₁.setTop (mkF m 5 #[.val (.long q0), .second, .val (.long q1), .second, .val (.long q2), .second, .val (.long q3), .second, .val (.long q4), .second, .val (.int p5), .unset, .unset, .unset, .unset, .unset, .unset, .unset, .unset, .unset, .unset, .unset, .unset] [(.int (p5 &&& (2147483647 : Int32)))])) target
    refine XS.iconst X0.here hx rfl (hb hby at_5) ?_
    show Steps p.tables e below (s₁.setTop (mkF m 6 #[.val (.long q0), .second, .val (.long q1), .second, .val (.long q2), .second, .val (.long q3), .second, .val (.long q4), .second, .val (.int p5), .unset, .unset, .unset, .unset, .unset, .unset, .unset, .unset, .unset, .unset, .unset, .unset] [(.int (3 : Int32)), (.int (p5 &&& (2147483647 : Int32)))])) target
    refine iremM X0 hx rfl (hb hby at_6) rfl (by decide) ?_
    show Steps p.tables e below (s₁.setTop (mkF m 7 #[.val (.long q0), .second, .val (.long q1), .second, .val (.long q2), .second, .val (.long q3), .second, .val (.long q4), .second, .val (.int p5), .unset, .unset, .unset, .unset, .unset, .unset, .unset, .unset, .unset, .unset, .unset, .unset] [(.int ((p5 &&& (2147483647 : Int32)) % (3 : Int32)))])) target
    refine XS.istore X0.here hx rfl (hb hby at_7) rfl (l' := #[.val (.long q0), .second, .val (.long q1), .second, .val (.long q2), .second, .val (.long q3), .second, .val (.long q4), .second, .val (.int p5), .val (.int v7), .unset, .unset, .unset, .unset, .unset, .unset, .unset, .unset, .unset, .unset, .unset]) (by subst hv7; rfl) ?_
    exact kt
  obtain ⟨Tg9, hg9, Xg9, eg9, Eg9, Ag9, Dg9, -, stg9⟩ := newO X0 hx hZ hown (hw _ (List.mem_of_getElem? (i := 1) rfl)) (hw _ (List.mem_of_getElem? (i := 2) rfl)) (hw _ (List.mem_of_getElem? (i := 3) rfl)) e0 (g := (mkF m 9 #[.val (.long q0), .second, .val (.long q1), .second, .val (.long q2), .second, .val (.long q3), .second, .val (.long q4), .second, .val (.int p5), .val (.int v7), .unset, .unset, .unset, .unset, .unset, .unset, .unset, .unset, .unset, .unset, .unset] [])) rfl (hb hby at_9) (by decide) (by decide)
  obtain ⟨b9, gg9⟩ : ∃ z, z = h0.size := ⟨_, rfl⟩
  rw [← gg9] at Ag9 Dg9 stg9
  refine own_st stg9 ?_
  have g_b9 : n0 ≤ b9 := Nat.le_trans Z0 (Nat.le_of_eq gg9.symm)
  have Zz : n0 ≤ hg9.size := Nat.le_trans Z0 Eg9.1
  have F : Fld Z hg9 b9 "ringward/Silence" "timeoutMillis" "J" (.long (0 : Int64)) := Dg9 (Or.inr (hw _ (List.mem_of_getElem? (i := 11) rfl))) (ty := .long) (by decide)
  have F_1 : Fld Z hg9 b9 "ringward/Silence" "intervalMillis" "J" (.long (0 : Int64)) := Dg9 (Or.inr (hw _ (List.mem_of_getElem? (i := 18) rfl))) (ty := .long) (by decide)
  have F_2 : Fld Z hg9 b9 "ringward/Silence" "lateMillis" "J" (.long (0 : Int64)) := Dg9 (Or.inr (hw _ (List.mem_of_getElem? (i := 21) rfl))) (ty := .long) (by decide)
  have F_3 : Fld Z hg9 b9 "ringward/Silence" "asking" "Z" (.int (0 : Int32)) := Dg9 (Or.inl (hw _ (List.mem_of_getElem? (i := 35) rfl))) (ty := .boolean) (by decide)
  have F_4 : Fld Z hg9 b9 "ringward/Silence" "deadline" "J" (.long (0 : Int64)) := Dg9 (Or.inl (hw _ (List.mem_of_getElem? (i := 37) rfl))) (ty := .long) (by decide)
  refine own_st (B := Tg9.setTop (mkF m 14 #[.val (.long q0), .second, .val (.long q1), .second, .val (.long q2), .second, .val (.long q3), .second, .val (.long q4), .second, .val (.int p5), .val (.int v7), .unset, .unset, .unset, .unset, .unset, .unset, .unset, .unset, .unset, .unset, .unset] [(.long q0), (.ref b9), (.ref b9)])) (fun target kt => ?_) ?_
  · show Steps p.tables e below (Tg9.setTop (mkF m 12 #[.val (.long q0), .second, .val (.long q1), .second, .val (.long q2), .second, .val (.long q3), .second, .val (.long q4), .second, .val (.int p5), .val (.int v7), .unset, .unset, .unset, .unset, .unset, .unset, .unset, .unset, .unset, .unset, .unset] [(.ref b9)])) target
    refine XS.dup Xg9.here hx rfl (hb hby at_12) rfl rfl ?_
    show Steps p.tables e below (Tg9.setTop (mkF m 13 #[.val (.long q0), .second, .val (.long q1), .second, .val (.long q2), .second, .val (.long q3), .second, .val (.long q4), .second, .val (.int p5), .val (.int v7), .unset, .unset, .unset, .unset, .unset, .unset, .unset, .unset, .unset, .unset, .unset] [(.ref b9), (.ref b9)])) target
    refine XS.lloadN Xg9.here hx rfl (hb hby at_13) rfl ?_
    exact kt
  obtain ⟨_, _, ⟨Tg14, Lg14, kg14, ng14⟩, -, Xg14, ⟨Lcg14, hQg14, lg14, yg14, zg14⟩, stg14⟩ := Xg9.specialBack hx (y := (⟨"ringward/Silence", "<init>", "(J)V"⟩ : MethodName)) rfl hown (mvT hZ (hw _ (List.mem_of_getElem? (i := 4) rfl))) (mvT hZ (hw _ (List.mem_of_getElem? (i := 5) rfl))) (mvT hZ (hw _ (List.mem_of_getElem? (i := 6) rfl))) (by decide) (backOf (W := 1) (own_rm1 l Z a0 hw [] b9 q0 hg9 n0 Zz Ag9 F F_1 F_2 F_3 F_4 g_b9) hZ (hw _ (List.mem_of_getElem? (i := 6) rfl)) (hw _ (List.mem_of_getElem? (i := 3) rfl)) (by decide) (by decide)) (g := (mkF m 14 #[.val (.long q0), .second, .val (.long q1), .second, .val (.long q2), .second, .val (.long q3), .second, .val (.long q4), .second, .val (.int p5), .val (.int v7), .unset, .unset, .unset, .unset, .unset, .unset, .unset, .unset, .unset, .unset, .unset] [(.long q0), (.ref b9), (.ref b9)])) rfl (by rw [hml]; rfl) (Steps.refl _) (a := b9) (argsL := [(.long q0)]) (rest := [(.ref b9)]) (lenOf own_pd1 rfl) rfl (by show 2 * 0 + _ ≤ _; exact Nat.le_of_eq rfl) (hb hby at_14) (fun _ _ => ⟨rfl, eg9, (by decide : 1 + 0 ≤ _), (by decide : 5 + 0 ≤ _)⟩)
  dsimp only [Pt.U, Pt.locs, Pt.cells, Pt.slots] at Xg14 lg14 yg14 zg14 stg14 hQg14
  subst lg14 yg14 zg14
  obtain ⟨rfl, Ng14q, Kg14, F_5, F_6, F_7, F_8, F_9, F_10⟩ := hQg14
  have Zz_1 : n0 ≤ Tg14.heap.size := Nat.le_trans Zz Kg14.1
  obtain ⟨w14_intervalMillis, hw14_intervalMillis⟩ : ∃ z : Int64, z = (if (1 : Int64) < (q0 / (40 : Int64)) then (q0 / (40 : Int64)) else (1 : Int64)) := ⟨_, rfl⟩
  have F_11 : Fld Z Tg14.heap b9 "ringward/Silence" "intervalMillis" "J" (.long w14_intervalMillis) := by subst hw14_intervalMillis; exact F_7
  obtain ⟨w14_lateMillis, hw14_lateMillis⟩ : ∃ z : Int64, z = (if (1 : Int64) < (q0 / (20 : Int64)) then (q0 / (20 : Int64)) else (1 : Int64)) := ⟨_, rfl⟩
  have F_12 : Fld Z Tg14.heap b9 "ringward/Silence" "lateMillis" "J" (.long w14_lateMillis) := by subst hw14_lateMillis; exact F_8
  have Ng14 := Fr.app N0 Ng14q
  refine own_st (fun _ k => stg14.trans k) ?_
  refine own_st (B := Tg14.setTop (mkF m 21 #[.val (.long q0), .second, .val (.long q1), .second, .val (.long q2), .second, .val (.long q3), .second, .val (.long q4), .second, .val (.int p5), .val (.int v7), .val (.ref b9), .unset, .unset, .unset, .unset, .unset, .unset, .unset, .unset, .unset, .unset] [(.ref b9)])) (fun target kt => ?_) ?_
  · show Steps p.tables e below (Tg14.setTop (mkF m 17 #[.val (.long q0), .second, .val (.long q1), .second, .val (.long q2), .second, .val (.long q3), .second, .val (.long q4), .second, .val (.int p5), .val (.int v7), .unset, .unset, .unset, .unset, .unset, .unset, .unset, .unset, .unset, .unset, .unset] [(.ref b9)])) target
    refine XS.astore Xg14.here hx rfl (hb hby at_17) rfl rfl (l' := #[.val (.long q0), .second, .val (.long q1), .second, .val (.long q2), .second, .val (.long q3), .second, .val (.long q4), .second, .val (.int p5), .val (.int v7), .val (.ref b9), .unset, .unset, .unset, .unset, .unset, .unset, .unset, .unset, .unset, .unset]) rfl ?_
    show Steps p.tables e below (Tg14.setTop (mkF m 19 #[.val (.long q0), .second, .val (.long q1), .second, .val (.long q2), .second, .val (.long q3), .second, .val (.long q4), .second, .val (.int p5), .val (.int v7), .val (.ref b9), .unset, .unset, .unset, .unset, .unset, .unset, .unset, .unset, .unset, .unset] [])) target
    refine XS.aload Xg14.here hx rfl (hb hby at_19) rfl rfl ?_
    exact kt
  obtain ⟨cqg21, kqg21, qg21a, qg21b, qg21c⟩ := isOf hZ rfl F_5
  obtain ⟨_, _, ⟨Tg21, Lg21, kg21, ng21⟩, -, Xg21, ⟨Lcg21, hQg21, lg21, yg21, zg21⟩, stg21⟩ := Xg14.virtualBack hx (y := (⟨"ringward/Silence", "lateMillis", "()J"⟩ : MethodName)) (z := (⟨"ringward/Silence", "lateMillis", "()J"⟩ : MethodName)) hown (mvT hZ (hw _ (List.mem_of_getElem? (i := 22) rfl))) (mvT hZ (hw _ (List.mem_of_getElem? (i := 23) rfl))) (notFace_of_selects (args := #[]) (mvT hZ (hw _ (List.mem_of_getElem? (i := 25) rfl)))) (mvT hZ (hw _ (List.mem_of_getElem? (i := 25) rfl))) (mvT hZ (hw _ (List.mem_of_getElem? (i := 24) rfl))) (by decide) (backOf (W := 0) (own_rm4 l Z a0 hw [] b9 w14_lateMillis Tg14.heap n0 Zz_1 F_12) hZ (hw _ (List.mem_of_getElem? (i := 26) rfl)) (hw _ (List.mem_of_getElem? (i := 3) rfl)) (by decide) (by decide)) qg21a qg21c (g := (mkF m 21 #[.val (.long q0), .second, .val (.long q1), .second, .val (.long q2), .second, .val (.long q3), .second, .val (.long q4), .second, .val (.int p5), .val (.int v7), .val (.ref b9), .unset, .unset, .unset, .unset, .unset, .unset, .unset, .unset, .unset, .unset] [(.ref b9)])) rfl (by rw [hml]; rfl) (Steps.refl _) (argsL := []) (rest := []) (lenOf own_pd2 rfl) rfl (by show 2 * 0 + _ ≤ _; exact Nat.le_of_eq rfl) (hb hby at_21) (fun _ _ => ⟨rfl, rfl, (by decide : 1 + 0 ≤ _), (by decide : 5 + 0 ≤ _)⟩)
  dsimp only [Pt.U, Pt.locs, Pt.cells, Pt.slots] at Xg21 lg21 yg21 zg21 stg21 hQg21
  subst lg21 yg21 zg21
  obtain ⟨rfl, Ng21q, eg21⟩ := hQg21
  have Ng21 := Fr.app Ng14 Ng21q
  refine own_st (fun _ k => stg21.trans k) ?_
  refine own_st (B := Tg21.setTop (mkF m 34 #[.val (.long q0), .second, .val (.long q1), .second, .val (.long q2), .second, .val (.long q3), .second, .val (.long q4), .second, .val (.int p5), .val (.int v7), .val (.ref b9), .val (.long w14_lateMillis), .second, .unset, .unset, .unset, .unset, .unset, .unset, .unset, .unset] [(.long (q0 / (20 : Int64))), (.long (1 : Int64)), (.long w14_lateMillis)])) (fun target kt => ?_) ?_
  · show Steps p.tables e below (Tg21.setTop (mkF m 24 #[.val (.long q0), .second, .val (.long q1), .second, .val (.long q2), .second, .val (.long q3), .second, .val (.long q4), .second, .val (.int p5), .val (.int v7), .val (.ref b9), .unset, .unset, .unset, .unset, .unset, .unset, .unset, .unset, .unset, .unset] [(.long w14_lateMillis)])) target
    refine XS.lstore Xg21.here hx rfl (hb hby at_24) rfl (l' := #[.val (.long q0), .second, .val (.long q1), .second, .val (.long q2), .second, .val (.long q3), .second, .val (.long q4), .second, .val (.int p5), .val (.int v7), .val (.ref b9), .val (.long w14_lateMillis), .second, .unset, .unset, .unset, .unset, .unset, .unset, .unset, .unset]) rfl ?_
    show Steps p.tables e below (Tg21.setTop (mkF m 26 #[.val (.long q0), .second, .val (.long q1), .second, .val (.long q2), .second, .val (.long q3), .second, .val (.long q4), .second, .val (.int p5), .val (.int v7), .val (.ref b9), .val (.long w14_lateMillis), .second, .unset, .unset, .unset, .unset, .unset, .unset, .unset, .unset] [])) target
    refine XS.lload Xg21.here hx rfl (hb hby at_26) rfl ?_
    show Steps p.tables e below (Tg21.setTop (mkF m 28 #[.val (.long q0), .second, .val (.long q1), .second, .val (.long q2), .second, .val (.long q3), .second, .val (.long q4), .second, .val (.int p5), .val (.int v7), .val (.ref b9), .val (.long w14_lateMillis), .second, .unset, .unset, .unset, .unset, .unset, .unset, .unset, .unset] [(.long w14_lateMillis)])) target
    refine XS.lconst Xg21.here hx rfl (hb hby at_28) ?_
    show Steps p.tables e below (Tg21.setTop (mkF m 29 #[.val (.long q0), .second, .val (.long q1), .second, .val (.long q2), .second, .val (.long q3), .second, .val (.long q4), .second, .val (.int p5), .val (.int v7), .val (.ref b9), .val (.long w14_lateMillis), .second, .unset, .unset, .unset, .unset, .unset, .unset, .unset, .unset] [(.long (1 : Int64)), (.long w14_lateMillis)])) target
    refine XS.lloadN Xg21.here hx rfl (hb hby at_29) rfl ?_
    show Steps p.tables e below (Tg21.setTop (mkF m 30 #[.val (.long q0), .second, .val (.long q1), .second, .val (.long q2), .second, .val (.long q3), .second, .val (.long q4), .second, .val (.int p5), .val (.int v7), .val (.ref b9), .val (.long w14_lateMillis), .second, .unset, .unset, .unset, .unset, .unset, .unset, .unset, .unset] [(.long q0), (.long (1 : Int64)), (.long w14_lateMillis)])) target
    refine Xg21.ldc2Long hx hown (mvT hZ (hw _ (List.mem_of_getElem? (i := 27) rfl))) (g := (mkF m 30 #[.val (.long q0), .second, .val (.long q1), .second, .val (.long q2), .second, .val (.long q3), .second, .val (.long q4), .second, .val (.int p5), .val (.int v7), .val (.ref b9), .val (.long w14_lateMillis), .second, .unset, .unset, .unset, .unset, .unset, .unset, .unset, .unset] [(.long q0), (.long (1 : Int64)), (.long w14_lateMillis)])) rfl (hb hby at_30) _ ?_
    show Steps p.tables e below (Tg21.setTop (mkF m 33 #[.val (.long q0), .second, .val (.long q1), .second, .val (.long q2), .second, .val (.long q3), .second, .val (.long q4), .second, .val (.int p5), .val (.int v7), .val (.ref b9), .val (.long w14_lateMillis), .second, .unset, .unset, .unset, .unset, .unset, .unset, .unset, .unset] [(.long (20 : Int64)), (.long q0), (.long (1 : Int64)), (.long w14_lateMillis)])) target
    refine XS.ldiv Xg21.here hx rfl (hb hby at_33) rfl (by decide) ?_
    exact kt
  obtain ⟨_, _, ⟨Tg34, Lg34, kg34, ng34⟩, -, Xg34, ⟨Lcg34, hQg34, lg34, yg34, zg34⟩, stg34⟩ := Jvm.LawKit.callS Xg21 hx (y := (⟨"java/lang/Math", "max", "(JJ)J"⟩ : MethodName)) hown (mvT hZ (hw _ (List.mem_of_getElem? (i := 28) rfl))) (mvT hZ (hw _ (List.mem_of_getElem? (i := 14) rfl))) (mvT hZ (hw _ (List.mem_of_getElem? (i := 15) rfl))) (mvT hZ (hw _ (List.mem_of_getElem? (i := 16) rfl))) (by decide) (backOf (W := 2) (own_rm3 l Z a0 hw [] (1 : Int64) (q0 / (20 : Int64)) Tg14.heap n0 Zz_1) hZ (hw _ (List.mem_of_getElem? (i := 16) rfl)) (hw _ (List.mem_of_getElem? (i := 15) rfl)) (by decide) (by decide)) (g := (mkF m 34 #[.val (.long q0), .second, .val (.long q1), .second, .val (.long q2), .second, .val (.long q3), .second, .val (.long q4), .second, .val (.int p5), .val (.int v7), .val (.ref b9), .val (.long w14_lateMillis), .second, .unset, .unset, .unset, .unset, .unset, .unset, .unset, .unset] [(.long (q0 / (20 : Int64))), (.long (1 : Int64)), (.long w14_lateMillis)])) rfl (by rw [hml]; rfl) (argsL := [(.long (1 : Int64)), (.long (q0 / (20 : Int64)))]) (rest := [(.long w14_lateMillis)]) (lenOf own_pd0 rfl) rfl (by show 2 * 0 + _ ≤ _; exact Nat.le_of_eq rfl) (hb hby at_34) (fun _ _ => ⟨rfl, eg21, (by decide : 1 + 0 ≤ _), (by decide : 5 + 0 ≤ _)⟩)
  dsimp only [Pt.U, Pt.locs, Pt.cells, Pt.slots] at Xg34 lg34 yg34 zg34 stg34 hQg34
  subst lg34 yg34 zg34
  obtain ⟨rfl, Ng34q, eg34⟩ := hQg34
  have Ng34 := Fr.app Ng21 Ng34q
  refine own_st (stg34) ?_
  refine own_st (B := Tg34.setTop (mkF m 38 #[.val (.long q0), .second, .val (.long q1), .second, .val (.long q2), .second, .val (.long q3), .second, .val (.long q4), .second, .val (.int p5), .val (.int v7), .val (.ref b9), .val (.long w14_lateMillis), .second, .unset, .unset, .unset, .unset, .unset, .unset, .unset, .unset] [(.int (lcmpW w14_lateMillis (if (1 : Int64) < (q0 / (20 : Int64)) then (q0 / (20 : Int64)) else (1 : Int64))))])) (fun target kt => ?_) ?_
  · show Steps p.tables e below (Tg34.setTop (mkF m 37 #[.val (.long q0), .second, .val (.long q1), .second, .val (.long q2), .second, .val (.long q3), .second, .val (.long q4), .second, .val (.int p5), .val (.int v7), .val (.ref b9), .val (.long w14_lateMillis), .second, .unset, .unset, .unset, .unset, .unset, .unset, .unset, .unset] [(.long (if (1 : Int64) < (q0 / (20 : Int64)) then (q0 / (20 : Int64)) else (1 : Int64))), (.long w14_lateMillis)])) target
    refine XS.lcmp Xg34.here hx rfl (hb hby at_37) rfl ?_
    exact kt
  have c38 : w14_lateMillis = (if (1 : Int64) < (q0 / (20 : Int64)) then (q0 / (20 : Int64)) else (1 : Int64)) := by
    exact hw14_lateMillis
  refine own_st (B := Tg34.setTop (mkF m 46 #[.val (.long q0), .second, .val (.long q1), .second, .val (.long q2), .second, .val (.long q3), .second, .val (.long q4), .second, .val (.int p5), .val (.int v7), .val (.ref b9), .val (.long w14_lateMillis), .second, .unset, .unset, .unset, .unset, .unset, .unset, .unset, .unset] [(.int (1 : Int32)), (.int v7)])) (fun target kt => ?_) ?_
  · show Steps p.tables e below (Tg34.setTop (mkF m 38 #[.val (.long q0), .second, .val (.long q1), .second, .val (.long q2), .second, .val (.long q3), .second, .val (.long q4), .second, .val (.int p5), .val (.int v7), .val (.ref b9), .val (.long w14_lateMillis), .second, .unset, .unset, .unset, .unset, .unset, .unset, .unset, .unset] [(.int (lcmpW w14_lateMillis (if (1 : Int64) < (q0 / (20 : Int64)) then (q0 / (20 : Int64)) else (1 : Int64))))])) target
    refine XS.ifYes Xg34.here hx rfl (pc0 := 38) (pc' := 43) rfl (hb hby at_38) rfl ((if0 _ _).trans (teq ((lw_eq w14_lateMillis (if (1 : Int64) < (q0 / (20 : Int64)) then (q0 / (20 : Int64)) else (1 : Int64))).mpr c38)).1) (by decide) (by decide) ?_
    show Steps p.tables e below (Tg34.setTop (mkF m 43 #[.val (.long q0), .second, .val (.long q1), .second, .val (.long q2), .second, .val (.long q3), .second, .val (.long q4), .second, .val (.int p5), .val (.int v7), .val (.ref b9), .val (.long w14_lateMillis), .second, .unset, .unset, .unset, .unset, .unset, .unset, .unset, .unset] [])) target
    refine XS.iload Xg34.here hx rfl (hb hby at_43) rfl ?_
    show Steps p.tables e below (Tg34.setTop (mkF m 45 #[.val (.long q0), .second, .val (.long q1), .second, .val (.long q2), .second, .val (.long q3), .second, .val (.long q4), .second, .val (.int p5), .val (.int v7), .val (.ref b9), .val (.long w14_lateMillis), .second, .unset, .unset, .unset, .unset, .unset, .unset, .unset, .unset] [(.int v7)])) target
    refine XS.iconst Xg34.here hx rfl (hb hby at_45) ?_
    exact kt
  obtain ⟨_, ⟨T_M56, h_M56, lc_M56, j56_f_b9_asking, j56_f_b9_deadline, rfl, X_M56, e_M56, N_M56, Z_M56, F_20, F_21, F_22, F_23, F_24, F_25, rfl, hj56_f_b9_deadline⟩, st_M56⟩ : own_Lead p.tables e below (Tg34.setTop (mkF m 46 #[.val (.long q0), .second, .val (.long q1), .second, .val (.long q2), .second, .val (.long q3), .second, .val (.long q4), .second, .val (.int p5), .val (.int v7), .val (.ref b9), .val (.long w14_lateMillis), .second, .unset, .unset, .unset, .unset, .unset, .unset, .unset, .unset] [(.int (1 : Int32)), (.int v7)])) (fun B => ∃ (T_M56 : State) (h_M56 : Heap) (lc_M56 : List Loc) (j56_f_b9_asking : Int32) (j56_f_b9_deadline : Int64), B = T_M56.setTop (mkF m 56 #[.val (.long q0), .second, .val (.long q1), .second, .val (.long q2), .second, .val (.long q3), .second, .val (.long q4), .second, .val (.int p5), .val (.int v7), .val (.ref b9), .val (.long w14_lateMillis), .second, .unset, .unset, .unset, .unset, .unset, .unset, .unset, .unset] []) ∧ Stand p l e room_1 s m #[(.long q0), (.long q1), (.long q2), (.long q3), (.long q4), (.int p5)] below meth c T_M56 lc_M56 1 5 ∧ T_M56.heap = h_M56 ∧ Fr n0 lc_M56 ∧ n0 ≤ h_M56.size ∧ Exa Z h_M56 b9 "ringward/Silence" ∧ Fld Z h_M56 b9 "ringward/Silence" "timeoutMillis" "J" (.long q0) ∧ Fld Z h_M56 b9 "ringward/Silence" "intervalMillis" "J" (.long w14_intervalMillis) ∧ Fld Z h_M56 b9 "ringward/Silence" "lateMillis" "J" (.long w14_lateMillis) ∧ Fld Z h_M56 b9 "ringward/Silence" "asking" "Z" (.int j56_f_b9_asking) ∧ Fld Z h_M56 b9 "ringward/Silence" "deadline" "J" (.long j56_f_b9_deadline) ∧ j56_f_b9_asking = own_b (¬ (v7 < (1 : Int32))) ∧ j56_f_b9_deadline = (if v7 < (1 : Int32) then (0 : Int64) else ((if (False) then (0 : Int64) else (q1 + q0))))) := by
    by_cases c46 : v7 < (1 : Int32)
    · refine own_st (B := Tg34.setTop (mkF m 56 #[.val (.long q0), .second, .val (.long q1), .second, .val (.long q2), .second, .val (.long q3), .second, .val (.long q4), .second, .val (.int p5), .val (.int v7), .val (.ref b9), .val (.long w14_lateMillis), .second, .unset, .unset, .unset, .unset, .unset, .unset, .unset, .unset] [])) (fun target kt => ?_) ?_
      · show Steps p.tables e below (Tg34.setTop (mkF m 46 #[.val (.long q0), .second, .val (.long q1), .second, .val (.long q2), .second, .val (.long q3), .second, .val (.long q4), .second, .val (.int p5), .val (.int v7), .val (.ref b9), .val (.long w14_lateMillis), .second, .unset, .unset, .unset, .unset, .unset, .unset, .unset, .unset] [(.int (1 : Int32)), (.int v7)])) target
        refine XS.icmpYes Xg34.here hx rfl (pc0 := 46) (pc' := 56) rfl (hb hby at_46) rfl (tlt c46).1 (by decide) (by decide) ?_
        exact kt
      exact ⟨_, ⟨Tg34, Tg14.heap, _, (0 : Int32), (0 : Int64), rfl, Xg34, eg34, Ng34, Zz_1, F_5, F_6, F_11, F_12, F_9, F_10, (own_b0 (fun w => w c46)).symm, (if_pos c46).symm⟩, fun _ k => k⟩
    · refine own_st (B := Tg34.setTop (mkF m 52 #[.val (.long q0), .second, .val (.long q1), .second, .val (.long q2), .second, .val (.long q3), .second, .val (.long q4), .second, .val (.int p5), .val (.int v7), .val (.ref b9), .val (.long w14_lateMillis), .second, .unset, .unset, .unset, .unset, .unset, .unset, .unset, .unset] [(.long q1), (.ref b9)])) (fun target kt => ?_) ?_
      · show Steps p.tables e below (Tg34.setTop (mkF m 46 #[.val (.long q0), .second, .val (.long q1), .second, .val (.long q2), .second, .val (.long q3), .second, .val (.long q4), .second, .val (.int p5), .val (.int v7), .val (.ref b9), .val (.long w14_lateMillis), .second, .unset, .unset, .unset, .unset, .unset, .unset, .unset, .unset] [(.int (1 : Int32)), (.int v7)])) target
        refine XS.icmpNo Xg34.here hx rfl (hb hby at_46) rfl (flt c46).1 ?_
        show Steps p.tables e below (Tg34.setTop (mkF m 49 #[.val (.long q0), .second, .val (.long q1), .second, .val (.long q2), .second, .val (.long q3), .second, .val (.long q4), .second, .val (.int p5), .val (.int v7), .val (.ref b9), .val (.long w14_lateMillis), .second, .unset, .unset, .unset, .unset, .unset, .unset, .unset, .unset] [])) target
        refine XS.aload Xg34.here hx rfl (hb hby at_49) rfl rfl ?_
        show Steps p.tables e below (Tg34.setTop (mkF m 51 #[.val (.long q0), .second, .val (.long q1), .second, .val (.long q2), .second, .val (.long q3), .second, .val (.long q4), .second, .val (.int p5), .val (.int v7), .val (.ref b9), .val (.long w14_lateMillis), .second, .unset, .unset, .unset, .unset, .unset, .unset, .unset, .unset] [(.ref b9)])) target
        refine XS.lloadN Xg34.here hx rfl (hb hby at_51) rfl ?_
        exact kt
      obtain ⟨cqg52, kqg52, qg52a, qg52b, qg52c⟩ := isOf hZ eg34 F_5
      obtain ⟨_, _, ⟨Tg52, Lg52, kg52, ng52⟩, -, Xg52, ⟨Lcg52, hQg52, lg52, yg52, zg52⟩, stg52⟩ := Xg34.virtualBack hx (y := (⟨"ringward/Silence", "pinged", "(J)J"⟩ : MethodName)) (z := (⟨"ringward/Silence", "pinged", "(J)J"⟩ : MethodName)) hown (mvT hZ (hw _ (List.mem_of_getElem? (i := 29) rfl))) (mvT hZ (hw _ (List.mem_of_getElem? (i := 30) rfl))) (notFace_of_selects (args := #[]) (mvT hZ (hw _ (List.mem_of_getElem? (i := 32) rfl)))) (mvT hZ (hw _ (List.mem_of_getElem? (i := 32) rfl))) (mvT hZ (hw _ (List.mem_of_getElem? (i := 31) rfl))) (by decide) (backOf (W := 0) (own_rm5 l Z a0 hw [] b9 q1 q0 w14_intervalMillis w14_lateMillis (False) (0 : Int64) Tg14.heap n0 Zz_1 F_5 F_6 F_11 F_12 (own_cast (congrArg Value.int (own_b0 (fun h => h)).symm) F_9) F_10 g_b9) hZ (hw _ (List.mem_of_getElem? (i := 33) rfl)) (hw _ (List.mem_of_getElem? (i := 3) rfl)) (by decide) (by decide)) qg52a qg52c (g := (mkF m 52 #[.val (.long q0), .second, .val (.long q1), .second, .val (.long q2), .second, .val (.long q3), .second, .val (.long q4), .second, .val (.int p5), .val (.int v7), .val (.ref b9), .val (.long w14_lateMillis), .second, .unset, .unset, .unset, .unset, .unset, .unset, .unset, .unset] [(.long q1), (.ref b9)])) rfl (by rw [hml]; rfl) (Steps.refl _) (argsL := [(.long q1)]) (rest := []) (lenOf own_pd3 rfl) rfl (by show 2 * 0 + _ ≤ _; exact Nat.le_of_eq rfl) (hb hby at_52) (fun _ _ => ⟨rfl, eg34, (by decide : 1 + 0 ≤ _), (by decide : 5 + 0 ≤ _)⟩)
      dsimp only [Pt.U, Pt.locs, Pt.cells, Pt.slots] at Xg52 lg52 yg52 zg52 stg52 hQg52
      subst lg52 yg52 zg52
      obtain ⟨rfl, Ng52q, Kg52, F_13, F_14, F_15, F_16, F_17, F_18⟩ := hQg52
      have Zz_2 : n0 ≤ Tg52.heap.size := Nat.le_trans Zz_1 Kg52.1
      obtain ⟨w52_deadline, hw52_deadline⟩ : ∃ z : Int64, z = (if (False) then (0 : Int64) else (q1 + q0)) := ⟨_, rfl⟩
      have F_19 : Fld Z Tg52.heap b9 "ringward/Silence" "deadline" "J" (.long w52_deadline) := by subst hw52_deadline; exact F_18
      have Ng52 := Fr.app Ng34 Ng52q
      refine own_st (fun _ k => stg52.trans k) ?_
      refine own_st (B := Tg52.setTop (mkF m 56 #[.val (.long q0), .second, .val (.long q1), .second, .val (.long q2), .second, .val (.long q3), .second, .val (.long q4), .second, .val (.int p5), .val (.int v7), .val (.ref b9), .val (.long w14_lateMillis), .second, .unset, .unset, .unset, .unset, .unset, .unset, .unset, .unset] [])) (fun target kt => ?_) ?_
      · show Steps p.tables e below (Tg52.setTop (mkF m 55 #[.val (.long q0), .second, .val (.long q1), .second, .val (.long q2), .second, .val (.long q3), .second, .val (.long q4), .second, .val (.int p5), .val (.int v7), .val (.ref b9), .val (.long w14_lateMillis), .second, .unset, .unset, .unset, .unset, .unset, .unset, .unset, .unset] [(.long (((if (False) then (0 : Int64) else (q1 + q0))) - q1))])) target
        jvm_step Xg52.here [Xg52.here.top, hx, (hb hby at_55), Value.category]
        exact kt
      subst hw52_deadline
      exact ⟨_, ⟨Tg52, Tg52.heap, _, (own_b (True)), ((if (False) then (0 : Int64) else (q1 + q0))), rfl, Xg52, rfl, Ng52, Zz_2, F_13, F_14, F_15, F_16, F_17, F_19, (own_bj rfl (fun q => c46) (fun q => absurd trivial q)), (if_neg c46).symm⟩, fun _ k => k⟩
  refine own_st st_M56 ?_
  refine own_st (B := T_M56.setTop (mkF m 59 #[.val (.long q0), .second, .val (.long q1), .second, .val (.long q2), .second, .val (.long q3), .second, .val (.long q4), .second, .val (.int p5), .val (.int v7), .val (.ref b9), .val (.long w14_lateMillis), .second, .unset, .unset, .unset, .unset, .unset, .unset, .unset, .unset] [(.int (1 : Int32)), (.int v7)])) (fun target kt => ?_) ?_
  · show Steps p.tables e below (T_M56.setTop (mkF m 56 #[.val (.long q0), .second, .val (.long q1), .second, .val (.long q2), .second, .val (.long q3), .second, .val (.long q4), .second, .val (.int p5), .val (.int v7), .val (.ref b9), .val (.long w14_lateMillis), .second, .unset, .unset, .unset, .unset, .unset, .unset, .unset, .unset] [])) target
    refine XS.iload X_M56.here hx rfl (hb hby at_56) rfl ?_
    show Steps p.tables e below (T_M56.setTop (mkF m 58 #[.val (.long q0), .second, .val (.long q1), .second, .val (.long q2), .second, .val (.long q3), .second, .val (.long q4), .second, .val (.int p5), .val (.int v7), .val (.ref b9), .val (.long w14_lateMillis), .second, .unset, .unset, .unset, .unset, .unset, .unset, .unset, .unset] [(.int v7)])) target
    refine XS.iconst X_M56.here hx rfl (hb hby at_58) ?_
    exact kt
  obtain ⟨_, ⟨T_M67, h_M67, lc_M67, j67_f_b9_asking, rfl, X_M67, e_M67, N_M67, Z_M67, F_32, F_33, F_34, F_35, F_36, F_37, rfl⟩, st_M67⟩ : own_Lead p.tables e below (T_M56.setTop (mkF m 59 #[.val (.long q0), .second, .val (.long q1), .second, .val (.long q2), .second, .val (.long q3), .second, .val (.long q4), .second, .val (.int p5), .val (.int v7), .val (.ref b9), .val (.long w14_lateMillis), .second, .unset, .unset, .unset, .unset, .unset, .unset, .unset, .unset] [(.int (1 : Int32)), (.int v7)])) (fun B => ∃ (T_M67 : State) (h_M67 : Heap) (lc_M67 : List Loc) (j67_f_b9_asking : Int32), B = T_M67.setTop (mkF m 67 #[.val (.long q0), .second, .val (.long q1), .second, .val (.long q2), .second, .val (.long q3), .second, .val (.long q4), .second, .val (.int p5), .val (.int v7), .val (.ref b9), .val (.long w14_lateMillis), .second, .unset, .unset, .unset, .unset, .unset, .unset, .unset, .unset] []) ∧ Stand p l e room_1 s m #[(.long q0), (.long q1), (.long q2), (.long q3), (.long q4), (.int p5)] below meth c T_M67 lc_M67 1 5 ∧ T_M67.heap = h_M67 ∧ Fr n0 lc_M67 ∧ n0 ≤ h_M67.size ∧ Exa Z h_M67 b9 "ringward/Silence" ∧ Fld Z h_M67 b9 "ringward/Silence" "timeoutMillis" "J" (.long q0) ∧ Fld Z h_M67 b9 "ringward/Silence" "intervalMillis" "J" (.long w14_intervalMillis) ∧ Fld Z h_M67 b9 "ringward/Silence" "lateMillis" "J" (.long w14_lateMillis) ∧ Fld Z h_M67 b9 "ringward/Silence" "asking" "Z" (.int j67_f_b9_asking) ∧ Fld Z h_M67 b9 "ringward/Silence" "deadline" "J" (.long j56_f_b9_deadline) ∧ j67_f_b9_asking = own_b ((¬ (v7 = (1 : Int32)) ∧ (¬ (v7 < (1 : Int32)))))) := by
    by_cases c59 : v7 = (1 : Int32)
    · refine own_st (B := T_M56.setTop (mkF m 64 #[.val (.long q0), .second, .val (.long q1), .second, .val (.long q2), .second, .val (.long q3), .second, .val (.long q4), .second, .val (.int p5), .val (.int v7), .val (.ref b9), .val (.long w14_lateMillis), .second, .unset, .unset, .unset, .unset, .unset, .unset, .unset, .unset] [(.ref b9)])) (fun target kt => ?_) ?_
      · show Steps p.tables e below (T_M56.setTop (mkF m 59 #[.val (.long q0), .second, .val (.long q1), .second, .val (.long q2), .second, .val (.long q3), .second, .val (.long q4), .second, .val (.int p5), .val (.int v7), .val (.ref b9), .val (.long w14_lateMillis), .second, .unset, .unset, .unset, .unset, .unset, .unset, .unset, .unset] [(.int (1 : Int32)), (.int v7)])) target
        refine XS.icmpNo X_M56.here hx rfl (hb hby at_59) rfl (teq c59).2 ?_
        show Steps p.tables e below (T_M56.setTop (mkF m 62 #[.val (.long q0), .second, .val (.long q1), .second, .val (.long q2), .second, .val (.long q3), .second, .val (.long q4), .second, .val (.int p5), .val (.int v7), .val (.ref b9), .val (.long w14_lateMillis), .second, .unset, .unset, .unset, .unset, .unset, .unset, .unset, .unset] [])) target
        refine XS.aload X_M56.here hx rfl (hb hby at_62) rfl rfl ?_
        exact kt
      obtain ⟨cqg64, kqg64, qg64a, qg64b, qg64c⟩ := isOf hZ e_M56 F_20
      obtain ⟨_, _, ⟨Tg64, Lg64, kg64, ng64⟩, -, Xg64, ⟨Lcg64, hQg64, lg64, yg64, zg64⟩, stg64⟩ := X_M56.virtualBack hx (y := (⟨"ringward/Silence", "answered", "()V"⟩ : MethodName)) (z := (⟨"ringward/Silence", "answered", "()V"⟩ : MethodName)) hown (mvT hZ (hw _ (List.mem_of_getElem? (i := 48) rfl))) (mvT hZ (hw _ (List.mem_of_getElem? (i := 49) rfl))) (notFace_of_selects (args := #[]) (mvT hZ (hw _ (List.mem_of_getElem? (i := 51) rfl)))) (mvT hZ (hw _ (List.mem_of_getElem? (i := 51) rfl))) (mvT hZ (hw _ (List.mem_of_getElem? (i := 50) rfl))) (by decide) (backOf (W := 0) (own_rm8 l Z a0 hw [] b9 q0 w14_intervalMillis w14_lateMillis (¬ (v7 < (1 : Int32))) j56_f_b9_deadline h_M56 n0 Z_M56 F_20 F_21 F_22 F_23 F_24 F_25 g_b9) hZ (hw _ (List.mem_of_getElem? (i := 52) rfl)) (hw _ (List.mem_of_getElem? (i := 3) rfl)) (by decide) (by decide)) qg64a qg64c (g := (mkF m 64 #[.val (.long q0), .second, .val (.long q1), .second, .val (.long q2), .second, .val (.long q3), .second, .val (.long q4), .second, .val (.int p5), .val (.int v7), .val (.ref b9), .val (.long w14_lateMillis), .second, .unset, .unset, .unset, .unset, .unset, .unset, .unset, .unset] [(.ref b9)])) rfl (by rw [hml]; rfl) (Steps.refl _) (argsL := []) (rest := []) (lenOf own_pd4 rfl) rfl (by show 2 * 0 + _ ≤ _; exact Nat.le_of_eq rfl) (hb hby at_64) (fun _ _ => ⟨rfl, e_M56, (by decide : 1 + 0 ≤ _), (by decide : 5 + 0 ≤ _)⟩)
      dsimp only [Pt.U, Pt.locs, Pt.cells, Pt.slots] at Xg64 lg64 yg64 zg64 stg64 hQg64
      subst lg64 yg64 zg64
      obtain ⟨rfl, Ng64q, Kg64, F_26, F_27, F_28, F_29, F_30, F_31⟩ := hQg64
      have Zz_3 : n0 ≤ Tg64.heap.size := Nat.le_trans Z_M56 Kg64.1
      have Ng64 := Fr.app N_M56 Ng64q
      refine own_st (fun _ k => stg64.trans k) ?_
      exact ⟨_, ⟨Tg64, Tg64.heap, _, (0 : Int32), rfl, Xg64, rfl, Ng64, Zz_3, F_26, F_27, F_28, F_29, F_30, F_31, (own_b0 (fun w => w.1 c59)).symm⟩, fun _ k => k⟩
    · refine own_st (B := T_M56.setTop (mkF m 67 #[.val (.long q0), .second, .val (.long q1), .second, .val (.long q2), .second, .val (.long q3), .second, .val (.long q4), .second, .val (.int p5), .val (.int v7), .val (.ref b9), .val (.long w14_lateMillis), .second, .unset, .unset, .unset, .unset, .unset, .unset, .unset, .unset] [])) (fun target kt => ?_) ?_
      · show Steps p.tables e below (T_M56.setTop (mkF m 59 #[.val (.long q0), .second, .val (.long q1), .second, .val (.long q2), .second, .val (.long q3), .second, .val (.long q4), .second, .val (.int p5), .val (.int v7), .val (.ref b9), .val (.long w14_lateMillis), .second, .unset, .unset, .unset, .unset, .unset, .unset, .unset, .unset] [(.int (1 : Int32)), (.int v7)])) target
        refine XS.icmpYes X_M56.here hx rfl (pc0 := 59) (pc' := 67) rfl (hb hby at_59) rfl (feq c59).2 (by decide) (by decide) ?_
        exact kt
      exact ⟨_, ⟨T_M56, h_M56, _, (own_b (¬ (v7 < (1 : Int32)))), rfl, X_M56, e_M56, N_M56, Z_M56, F_20, F_21, F_22, F_23, F_24, F_25, (own_bj rfl (fun q => ⟨c59, q⟩) (fun q => (fun w => q w.2)))⟩, fun _ k => k⟩
  refine own_st st_M67 ?_
  refine own_st (B := T_M67.setTop (mkF m 70 #[.val (.long q0), .second, .val (.long q1), .second, .val (.long q2), .second, .val (.long q3), .second, .val (.long q4), .second, .val (.int p5), .val (.int v7), .val (.ref b9), .val (.long w14_lateMillis), .second, .unset, .unset, .unset, .unset, .unset, .unset, .unset, .unset] [(.int (2 : Int32)), (.int v7)])) (fun target kt => ?_) ?_
  · show Steps p.tables e below (T_M67.setTop (mkF m 67 #[.val (.long q0), .second, .val (.long q1), .second, .val (.long q2), .second, .val (.long q3), .second, .val (.long q4), .second, .val (.int p5), .val (.int v7), .val (.ref b9), .val (.long w14_lateMillis), .second, .unset, .unset, .unset, .unset, .unset, .unset, .unset, .unset] [])) target
    refine XS.iload X_M67.here hx rfl (hb hby at_67) rfl ?_
    show Steps p.tables e below (T_M67.setTop (mkF m 69 #[.val (.long q0), .second, .val (.long q1), .second, .val (.long q2), .second, .val (.long q3), .second, .val (.long q4), .second, .val (.int p5), .val (.int v7), .val (.ref b9), .val (.long w14_lateMillis), .second, .unset, .unset, .unset, .unset, .unset, .unset, .unset, .unset] [(.int v7)])) target
    refine XS.iconst X_M67.here hx rfl (hb hby at_69) ?_
    exact kt
  obtain ⟨_, ⟨j78_s0, rfl, rfl⟩, st_M78⟩ : own_Lead p.tables e below (T_M67.setTop (mkF m 70 #[.val (.long q0), .second, .val (.long q1), .second, .val (.long q2), .second, .val (.long q3), .second, .val (.long q4), .second, .val (.int p5), .val (.int v7), .val (.ref b9), .val (.long w14_lateMillis), .second, .unset, .unset, .unset, .unset, .unset, .unset, .unset, .unset] [(.int (2 : Int32)), (.int v7)])) (fun B => ∃ (j78_s0 : Int32), B = T_M67.setTop (mkF m 78 #[.val (.long q0), .second, .val (.long q1), .second, .val (.long q2), .second, .val (.long q3), .second, .val (.long q4), .second, .val (.int p5), .val (.int v7), .val (.ref b9), .val (.long w14_lateMillis), .second, .unset, .unset, .unset, .unset, .unset, .unset, .unset, .unset] [(.int j78_s0)]) ∧ j78_s0 = own_b (v7 = (2 : Int32))) := by
    by_cases c70 : v7 = (2 : Int32)
    · refine own_st (B := T_M67.setTop (mkF m 78 #[.val (.long q0), .second, .val (.long q1), .second, .val (.long q2), .second, .val (.long q3), .second, .val (.long q4), .second, .val (.int p5), .val (.int v7), .val (.ref b9), .val (.long w14_lateMillis), .second, .unset, .unset, .unset, .unset, .unset, .unset, .unset, .unset] [(.int (1 : Int32))])) (fun target kt => ?_) ?_
      · show Steps p.tables e below (T_M67.setTop (mkF m 70 #[.val (.long q0), .second, .val (.long q1), .second, .val (.long q2), .second, .val (.long q3), .second, .val (.long q4), .second, .val (.int p5), .val (.int v7), .val (.ref b9), .val (.long w14_lateMillis), .second, .unset, .unset, .unset, .unset, .unset, .unset, .unset, .unset] [(.int (2 : Int32)), (.int v7)])) target
        refine XS.icmpNo X_M67.here hx rfl (hb hby at_70) rfl (teq c70).2 ?_
        show Steps p.tables e below (T_M67.setTop (mkF m 73 #[.val (.long q0), .second, .val (.long q1), .second, .val (.long q2), .second, .val (.long q3), .second, .val (.long q4), .second, .val (.int p5), .val (.int v7), .val (.ref b9), .val (.long w14_lateMillis), .second, .unset, .unset, .unset, .unset, .unset, .unset, .unset, .unset] [])) target
        refine XS.iconst X_M67.here hx rfl (hb hby at_73) ?_
        show Steps p.tables e below (T_M67.setTop (mkF m 74 #[.val (.long q0), .second, .val (.long q1), .second, .val (.long q2), .second, .val (.long q3), .second, .val (.long q4), .second, .val (.int p5), .val (.int v7), .val (.ref b9), .val (.long w14_lateMillis), .second, .unset, .unset, .unset, .unset, .unset, .unset, .unset, .unset] [(.int (1 : Int32))])) target
        refine XS.goto X_M67.here hx rfl (pc0 := 74) (pc' := 78) rfl (hb hby at_74) (by decide) (by decide) ?_
        exact kt
      exact ⟨_, ⟨(1 : Int32), rfl, (own_b1 c70).symm⟩, fun _ k => k⟩
    · refine own_st (B := T_M67.setTop (mkF m 78 #[.val (.long q0), .second, .val (.long q1), .second, .val (.long q2), .second, .val (.long q3), .second, .val (.long q4), .second, .val (.int p5), .val (.int v7), .val (.ref b9), .val (.long w14_lateMillis), .second, .unset, .unset, .unset, .unset, .unset, .unset, .unset, .unset] [(.int (0 : Int32))])) (fun target kt => ?_) ?_
      · show Steps p.tables e below (T_M67.setTop (mkF m 70 #[.val (.long q0), .second, .val (.long q1), .second, .val (.long q2), .second, .val (.long q3), .second, .val (.long q4), .second, .val (.int p5), .val (.int v7), .val (.ref b9), .val (.long w14_lateMillis), .second, .unset, .unset, .unset, .unset, .unset, .unset, .unset, .unset] [(.int (2 : Int32)), (.int v7)])) target
        refine XS.icmpYes X_M67.here hx rfl (pc0 := 70) (pc' := 77) rfl (hb hby at_70) rfl (feq c70).2 (by decide) (by decide) ?_
        show Steps p.tables e below (T_M67.setTop (mkF m 77 #[.val (.long q0), .second, .val (.long q1), .second, .val (.long q2), .second, .val (.long q3), .second, .val (.long q4), .second, .val (.int p5), .val (.int v7), .val (.ref b9), .val (.long w14_lateMillis), .second, .unset, .unset, .unset, .unset, .unset, .unset, .unset, .unset] [])) target
        refine XS.iconst X_M67.here hx rfl (hb hby at_77) ?_
        exact kt
      exact ⟨_, ⟨(0 : Int32), rfl, (own_b0 c70).symm⟩, fun _ k => k⟩
  refine own_st st_M78 ?_
  refine own_st (B := T_M67.setTop (mkF m 86 #[.val (.long q0), .second, .val (.long q1), .second, .val (.long q2), .second, .val (.long q3), .second, .val (.long q4), .second, .val (.int p5), .val (.int v7), .val (.ref b9), .val (.long w14_lateMillis), .second, .val (.int (own_b (v7 = (2 : Int32)))), .unset, .unset, .unset, .unset, .unset, .unset, .unset] [(.long q3), (.long q2), (.ref b9)])) (fun target kt => ?_) ?_
  · show Steps p.tables e below (T_M67.setTop (mkF m 78 #[.val (.long q0), .second, .val (.long q1), .second, .val (.long q2), .second, .val (.long q3), .second, .val (.long q4), .second, .val (.int p5), .val (.int v7), .val (.ref b9), .val (.long w14_lateMillis), .second, .unset, .unset, .unset, .unset, .unset, .unset, .unset, .unset] [(.int (own_b (v7 = (2 : Int32))))])) target
    refine XS.istore X_M67.here hx rfl (hb hby at_78) rfl (l' := #[.val (.long q0), .second, .val (.long q1), .second, .val (.long q2), .second, .val (.long q3), .second, .val (.long q4), .second, .val (.int p5), .val (.int v7), .val (.ref b9), .val (.long w14_lateMillis), .second, .val (.int (own_b (v7 = (2 : Int32)))), .unset, .unset, .unset, .unset, .unset, .unset, .unset]) rfl ?_
    show Steps p.tables e below (T_M67.setTop (mkF m 80 #[.val (.long q0), .second, .val (.long q1), .second, .val (.long q2), .second, .val (.long q3), .second, .val (.long q4), .second, .val (.int p5), .val (.int v7), .val (.ref b9), .val (.long w14_lateMillis), .second, .val (.int (own_b (v7 = (2 : Int32)))), .unset, .unset, .unset, .unset, .unset, .unset, .unset] [])) target
    refine XS.aload X_M67.here hx rfl (hb hby at_80) rfl rfl ?_
    show Steps p.tables e below (T_M67.setTop (mkF m 82 #[.val (.long q0), .second, .val (.long q1), .second, .val (.long q2), .second, .val (.long q3), .second, .val (.long q4), .second, .val (.int p5), .val (.int v7), .val (.ref b9), .val (.long w14_lateMillis), .second, .val (.int (own_b (v7 = (2 : Int32)))), .unset, .unset, .unset, .unset, .unset, .unset, .unset] [(.ref b9)])) target
    refine XS.lload X_M67.here hx rfl (hb hby at_82) rfl ?_
    show Steps p.tables e below (T_M67.setTop (mkF m 84 #[.val (.long q0), .second, .val (.long q1), .second, .val (.long q2), .second, .val (.long q3), .second, .val (.long q4), .second, .val (.int p5), .val (.int v7), .val (.ref b9), .val (.long w14_lateMillis), .second, .val (.int (own_b (v7 = (2 : Int32)))), .unset, .unset, .unset, .unset, .unset, .unset, .unset] [(.long q2), (.ref b9)])) target
    refine XS.lload X_M67.here hx rfl (hb hby at_84) rfl ?_
    exact kt
  obtain ⟨cqg86, kqg86, qg86a, qg86b, qg86c⟩ := isOf hZ e_M67 F_32
  obtain ⟨_, _, ⟨Tg86, Lg86, kg86, ng86⟩, -, Xg86, ⟨Lcg86, hQg86, lg86, yg86, zg86⟩, stg86⟩ := X_M67.virtualBack hx (y := (⟨"ringward/Silence", "ticked", "(JJ)V"⟩ : MethodName)) (z := (⟨"ringward/Silence", "ticked", "(JJ)V"⟩ : MethodName)) hown (mvT hZ (hw _ (List.mem_of_getElem? (i := 38) rfl))) (mvT hZ (hw _ (List.mem_of_getElem? (i := 39) rfl))) (notFace_of_selects (args := #[]) (mvT hZ (hw _ (List.mem_of_getElem? (i := 41) rfl)))) (mvT hZ (hw _ (List.mem_of_getElem? (i := 41) rfl))) (mvT hZ (hw _ (List.mem_of_getElem? (i := 40) rfl))) (by decide) (backOf (W := 0) (own_rm6 l Z a0 hw [] b9 q2 q3 q0 w14_intervalMillis w14_lateMillis (¬ (v7 = (1 : Int32)) ∧ (¬ (v7 < (1 : Int32)))) j56_f_b9_deadline h_M67 n0 Z_M67 F_32 F_33 F_34 F_35 F_36 F_37 g_b9) hZ (hw _ (List.mem_of_getElem? (i := 42) rfl)) (hw _ (List.mem_of_getElem? (i := 3) rfl)) (by decide) (by decide)) qg86a qg86c (g := (mkF m 86 #[.val (.long q0), .second, .val (.long q1), .second, .val (.long q2), .second, .val (.long q3), .second, .val (.long q4), .second, .val (.int p5), .val (.int v7), .val (.ref b9), .val (.long w14_lateMillis), .second, .val (.int (own_b (v7 = (2 : Int32)))), .unset, .unset, .unset, .unset, .unset, .unset, .unset] [(.long q3), (.long q2), (.ref b9)])) rfl (by rw [hml]; rfl) (Steps.refl _) (argsL := [(.long q2), (.long q3)]) (rest := []) (lenOf own_pd5 rfl) rfl (by show 2 * 0 + _ ≤ _; exact Nat.le_of_eq rfl) (hb hby at_86) (fun _ _ => ⟨rfl, e_M67, (by decide : 1 + 0 ≤ _), (by decide : 5 + 0 ≤ _)⟩)
  dsimp only [Pt.U, Pt.locs, Pt.cells, Pt.slots] at Xg86 lg86 yg86 zg86 stg86 hQg86
  subst lg86 yg86 zg86
  obtain ⟨rfl, Ng86q, Kg86, F_38, F_39, F_40, F_41, F_42, F_43⟩ := hQg86
  have Zz_4 : n0 ≤ Tg86.heap.size := Nat.le_trans Z_M67 Kg86.1
  obtain ⟨w86_deadline, hw86_deadline⟩ : ∃ z : Int64, z = (if (q3 - q2) < w14_lateMillis then j56_f_b9_deadline else (if (¬ (v7 = (1 : Int32)) ∧ (¬ (v7 < (1 : Int32)))) then (j56_f_b9_deadline + (q3 - q2)) else j56_f_b9_deadline)) := ⟨_, rfl⟩
  have F_44 : Fld Z Tg86.heap b9 "ringward/Silence" "deadline" "J" (.long w86_deadline) := by subst hw86_deadline; exact F_43
  have Ng86 := Fr.app N_M67 Ng86q
  refine own_st (fun _ k => stg86.trans k) ?_
  obtain ⟨v94, hv94⟩ : ∃ z : Int64, z = (q3 - q2) := ⟨_, rfl⟩
  refine own_st (B := Tg86.setTop (mkF m 98 #[.val (.long q0), .second, .val (.long q1), .second, .val (.long q2), .second, .val (.long q3), .second, .val (.long q4), .second, .val (.int p5), .val (.int v7), .val (.ref b9), .val (.long w14_lateMillis), .second, .val (.int (own_b (v7 = (2 : Int32)))), .val (.long v94), .second, .unset, .unset, .unset, .unset, .unset] [(.int (own_b (v7 = (2 : Int32))))])) (fun target kt => ?_) ?_
  · show Steps p.tables e below (Tg86.setTop (mkF m 89 #[.val (.long q0), .second, .val (.long q1), .second, .val (.long q2), .second, .val (.long q3), .second, .val (.long q4), .second, .val (.int p5), .val (.int v7), .val (.ref b9), .val (.long w14_lateMillis), .second, .val (.int (own_b (v7 = (2 : Int32)))), .unset, .unset, .unset, .unset, .unset, .unset, .unset] [])) target
    refine XS.lload Xg86.here hx rfl (hb hby at_89) rfl ?_
    show Steps p.tables e below (Tg86.setTop (mkF m 91 #[.val (.long q0), .second, .val (.long q1), .second, .val (.long q2), .second, .val (.long q3), .second, .val (.long q4), .second, .val (.int p5), .val (.int v7), .val (.ref b9), .val (.long w14_lateMillis), .second, .val (.int (own_b (v7 = (2 : Int32)))), .unset, .unset, .unset, .unset, .unset, .unset, .unset] [(.long q3)])) target
    refine XS.lload Xg86.here hx rfl (hb hby at_91) rfl ?_
    show Steps p.tables e below (Tg86.setTop (mkF m 93 #[.val (.long q0), .second, .val (.long q1), .second, .val (.long q2), .second, .val (.long q3), .second, .val (.long q4), .second, .val (.int p5), .val (.int v7), .val (.ref b9), .val (.long w14_lateMillis), .second, .val (.int (own_b (v7 = (2 : Int32)))), .unset, .unset, .unset, .unset, .unset, .unset, .unset] [(.long q2), (.long q3)])) target
    refine XS.lsub Xg86.here hx rfl (hb hby at_93) rfl ?_
    show Steps p.tables e below (Tg86.setTop (mkF m 94 #[.val (.long q0), .second, .val (.long q1), .second, .val (.long q2), .second, .val (.long q3), .second, .val (.long q4), .second, .val (.int p5), .val (.int v7), .val (.ref b9), .val (.long w14_lateMillis), .second, .val (.int (own_b (v7 = (2 : Int32)))), .unset, .unset, .unset, .unset, .unset, .unset, .unset] [(.long (q3 - q2))])) target
    refine XS.lstore Xg86.here hx rfl (hb hby at_94) rfl (l' := #[.val (.long q0), .second, .val (.long q1), .second, .val (.long q2), .second, .val (.long q3), .second, .val (.long q4), .second, .val (.int p5), .val (.int v7), .val (.ref b9), .val (.long w14_lateMillis), .second, .val (.int (own_b (v7 = (2 : Int32)))), .val (.long v94), .second, .unset, .unset, .unset, .unset, .unset]) (by subst hv94; rfl) ?_
    show Steps p.tables e below (Tg86.setTop (mkF m 96 #[.val (.long q0), .second, .val (.long q1), .second, .val (.long q2), .second, .val (.long q3), .second, .val (.long q4), .second, .val (.int p5), .val (.int v7), .val (.ref b9), .val (.long w14_lateMillis), .second, .val (.int (own_b (v7 = (2 : Int32)))), .val (.long v94), .second, .unset, .unset, .unset, .unset, .unset] [])) target
    refine XS.iload Xg86.here hx rfl (hb hby at_96) rfl ?_
    exact kt
  by_cases c98 : v7 = (2 : Int32)
  · obtain ⟨v140, hv140⟩ : ∃ z : Int64, z = (q1 + q0) := ⟨_, rfl⟩
    refine own_st (B := Tg86.setTop (mkF m 147 #[.val (.long q0), .second, .val (.long q1), .second, .val (.long q2), .second, .val (.long q3), .second, .val (.long q4), .second, .val (.int p5), .val (.int v7), .val (.ref b9), .val (.long w14_lateMillis), .second, .val (.int (own_b (v7 = (2 : Int32)))), .val (.long v94), .second, .val (.long v140), .second, .unset, .unset, .unset] [(.int (lcmpW v94 w14_lateMillis))])) (fun target kt => ?_) ?_
    · show Steps p.tables e below (Tg86.setTop (mkF m 98 #[.val (.long q0), .second, .val (.long q1), .second, .val (.long q2), .second, .val (.long q3), .second, .val (.long q4), .second, .val (.int p5), .val (.int v7), .val (.ref b9), .val (.long w14_lateMillis), .second, .val (.int (own_b (v7 = (2 : Int32)))), .val (.long v94), .second, .unset, .unset, .unset, .unset, .unset] [(.int (own_b (v7 = (2 : Int32))))])) target
      refine XS.ifYes Xg86.here hx rfl (pc0 := 98) (pc' := 137) rfl (hb hby at_98) rfl ((if0 _ _).trans (feq (own_bn0 rfl c98)).2) (by decide) (by decide) ?_
      show Steps p.tables e below (Tg86.setTop (mkF m 137 #[.val (.long q0), .second, .val (.long q1), .second, .val (.long q2), .second, .val (.long q3), .second, .val (.long q4), .second, .val (.int p5), .val (.int v7), .val (.ref b9), .val (.long w14_lateMillis), .second, .val (.int (own_b (v7 = (2 : Int32)))), .val (.long v94), .second, .unset, .unset, .unset, .unset, .unset] [])) target
      refine XS.lloadN Xg86.here hx rfl (hb hby at_137) rfl ?_
      show Steps p.tables e below (Tg86.setTop (mkF m 138 #[.val (.long q0), .second, .val (.long q1), .second, .val (.long q2), .second, .val (.long q3), .second, .val (.long q4), .second, .val (.int p5), .val (.int v7), .val (.ref b9), .val (.long w14_lateMillis), .second, .val (.int (own_b (v7 = (2 : Int32)))), .val (.long v94), .second, .unset, .unset, .unset, .unset, .unset] [(.long q1)])) target
      refine XS.lloadN Xg86.here hx rfl (hb hby at_138) rfl ?_
      show Steps p.tables e below (Tg86.setTop (mkF m 139 #[.val (.long q0), .second, .val (.long q1), .second, .val (.long q2), .second, .val (.long q3), .second, .val (.long q4), .second, .val (.int p5), .val (.int v7), .val (.ref b9), .val (.long w14_lateMillis), .second, .val (.int (own_b (v7 = (2 : Int32)))), .val (.long v94), .second, .unset, .unset, .unset, .unset, .unset] [(.long q0), (.long q1)])) target
      refine XS.ladd Xg86.here hx rfl (hb hby at_139) rfl ?_
      show Steps p.tables e below (Tg86.setTop (mkF m 140 #[.val (.long q0), .second, .val (.long q1), .second, .val (.long q2), .second, .val (.long q3), .second, .val (.long q4), .second, .val (.int p5), .val (.int v7), .val (.ref b9), .val (.long w14_lateMillis), .second, .val (.int (own_b (v7 = (2 : Int32)))), .val (.long v94), .second, .unset, .unset, .unset, .unset, .unset] [(.long (q1 + q0))])) target
      refine XS.lstore Xg86.here hx rfl (hb hby at_140) rfl (l' := #[.val (.long q0), .second, .val (.long q1), .second, .val (.long q2), .second, .val (.long q3), .second, .val (.long q4), .second, .val (.int p5), .val (.int v7), .val (.ref b9), .val (.long w14_lateMillis), .second, .val (.int (own_b (v7 = (2 : Int32)))), .val (.long v94), .second, .val (.long v140), .second, .unset, .unset, .unset]) (by subst hv140; rfl) ?_
      show Steps p.tables e below (Tg86.setTop (mkF m 142 #[.val (.long q0), .second, .val (.long q1), .second, .val (.long q2), .second, .val (.long q3), .second, .val (.long q4), .second, .val (.int p5), .val (.int v7), .val (.ref b9), .val (.long w14_lateMillis), .second, .val (.int (own_b (v7 = (2 : Int32)))), .val (.long v94), .second, .val (.long v140), .second, .unset, .unset, .unset] [])) target
      refine XS.lload Xg86.here hx rfl (hb hby at_142) rfl ?_
      show Steps p.tables e below (Tg86.setTop (mkF m 144 #[.val (.long q0), .second, .val (.long q1), .second, .val (.long q2), .second, .val (.long q3), .second, .val (.long q4), .second, .val (.int p5), .val (.int v7), .val (.ref b9), .val (.long w14_lateMillis), .second, .val (.int (own_b (v7 = (2 : Int32)))), .val (.long v94), .second, .val (.long v140), .second, .unset, .unset, .unset] [(.long v94)])) target
      refine XS.lload Xg86.here hx rfl (hb hby at_144) rfl ?_
      show Steps p.tables e below (Tg86.setTop (mkF m 146 #[.val (.long q0), .second, .val (.long q1), .second, .val (.long q2), .second, .val (.long q3), .second, .val (.long q4), .second, .val (.int p5), .val (.int v7), .val (.ref b9), .val (.long w14_lateMillis), .second, .val (.int (own_b (v7 = (2 : Int32)))), .val (.long v94), .second, .val (.long v140), .second, .unset, .unset, .unset] [(.long w14_lateMillis), (.long v94)])) target
      refine XS.lcmp Xg86.here hx rfl (hb hby at_146) rfl ?_
      exact kt
    obtain ⟨_, ⟨j157_l18, rfl, hj157_l18⟩, st_M157⟩ : own_Lead p.tables e below (Tg86.setTop (mkF m 147 #[.val (.long q0), .second, .val (.long q1), .second, .val (.long q2), .second, .val (.long q3), .second, .val (.long q4), .second, .val (.int p5), .val (.int v7), .val (.ref b9), .val (.long w14_lateMillis), .second, .val (.int (own_b (v7 = (2 : Int32)))), .val (.long v94), .second, .val (.long v140), .second, .unset, .unset, .unset] [(.int (lcmpW v94 w14_lateMillis))])) (fun B => ∃ (j157_l18 : Int64), B = Tg86.setTop (mkF m 157 #[.val (.long q0), .second, .val (.long q1), .second, .val (.long q2), .second, .val (.long q3), .second, .val (.long q4), .second, .val (.int p5), .val (.int v7), .val (.ref b9), .val (.long w14_lateMillis), .second, .val (.int (own_b (v7 = (2 : Int32)))), .val (.long v94), .second, .val (.long j157_l18), .second, .unset, .unset, .unset] []) ∧ j157_l18 = (if v94 < w14_lateMillis then v140 else ((v140 + v94)))) := by
      by_cases c147 : v94 < w14_lateMillis
      · refine own_st (B := Tg86.setTop (mkF m 157 #[.val (.long q0), .second, .val (.long q1), .second, .val (.long q2), .second, .val (.long q3), .second, .val (.long q4), .second, .val (.int p5), .val (.int v7), .val (.ref b9), .val (.long w14_lateMillis), .second, .val (.int (own_b (v7 = (2 : Int32)))), .val (.long v94), .second, .val (.long v140), .second, .unset, .unset, .unset] [])) (fun target kt => ?_) ?_
        · show Steps p.tables e below (Tg86.setTop (mkF m 147 #[.val (.long q0), .second, .val (.long q1), .second, .val (.long q2), .second, .val (.long q3), .second, .val (.long q4), .second, .val (.int p5), .val (.int v7), .val (.ref b9), .val (.long w14_lateMillis), .second, .val (.int (own_b (v7 = (2 : Int32)))), .val (.long v94), .second, .val (.long v140), .second, .unset, .unset, .unset] [(.int (lcmpW v94 w14_lateMillis))])) target
          refine XS.ifYes Xg86.here hx rfl (pc0 := 147) (pc' := 157) rfl (hb hby at_147) rfl ((if0 _ _).trans (tlt ((lw_lt v94 w14_lateMillis).mpr c147)).1) (by decide) (by decide) ?_
          exact kt
        exact ⟨_, ⟨v140, rfl, (if_pos c147).symm⟩, fun _ k => k⟩
      · obtain ⟨v155, hv155⟩ : ∃ z : Int64, z = (v140 + v94) := ⟨_, rfl⟩
        refine own_st (B := Tg86.setTop (mkF m 157 #[.val (.long q0), .second, .val (.long q1), .second, .val (.long q2), .second, .val (.long q3), .second, .val (.long q4), .second, .val (.int p5), .val (.int v7), .val (.ref b9), .val (.long w14_lateMillis), .second, .val (.int (own_b (v7 = (2 : Int32)))), .val (.long v94), .second, .val (.long v155), .second, .unset, .unset, .unset] [])) (fun target kt => ?_) ?_
        · show Steps p.tables e below (Tg86.setTop (mkF m 147 #[.val (.long q0), .second, .val (.long q1), .second, .val (.long q2), .second, .val (.long q3), .second, .val (.long q4), .second, .val (.int p5), .val (.int v7), .val (.ref b9), .val (.long w14_lateMillis), .second, .val (.int (own_b (v7 = (2 : Int32)))), .val (.long v94), .second, .val (.long v140), .second, .unset, .unset, .unset] [(.int (lcmpW v94 w14_lateMillis))])) target
          refine XS.ifNo Xg86.here hx rfl (hb hby at_147) rfl ((if0 _ _).trans (flt (fun q => c147 ((lw_lt v94 w14_lateMillis).mp q))).1) ?_
          show Steps p.tables e below (Tg86.setTop (mkF m 150 #[.val (.long q0), .second, .val (.long q1), .second, .val (.long q2), .second, .val (.long q3), .second, .val (.long q4), .second, .val (.int p5), .val (.int v7), .val (.ref b9), .val (.long w14_lateMillis), .second, .val (.int (own_b (v7 = (2 : Int32)))), .val (.long v94), .second, .val (.long v140), .second, .unset, .unset, .unset] [])) target
          refine XS.lload Xg86.here hx rfl (hb hby at_150) rfl ?_
          show Steps p.tables e below (Tg86.setTop (mkF m 152 #[.val (.long q0), .second, .val (.long q1), .second, .val (.long q2), .second, .val (.long q3), .second, .val (.long q4), .second, .val (.int p5), .val (.int v7), .val (.ref b9), .val (.long w14_lateMillis), .second, .val (.int (own_b (v7 = (2 : Int32)))), .val (.long v94), .second, .val (.long v140), .second, .unset, .unset, .unset] [(.long v140)])) target
          refine XS.lload Xg86.here hx rfl (hb hby at_152) rfl ?_
          show Steps p.tables e below (Tg86.setTop (mkF m 154 #[.val (.long q0), .second, .val (.long q1), .second, .val (.long q2), .second, .val (.long q3), .second, .val (.long q4), .second, .val (.int p5), .val (.int v7), .val (.ref b9), .val (.long w14_lateMillis), .second, .val (.int (own_b (v7 = (2 : Int32)))), .val (.long v94), .second, .val (.long v140), .second, .unset, .unset, .unset] [(.long v94), (.long v140)])) target
          refine XS.ladd Xg86.here hx rfl (hb hby at_154) rfl ?_
          show Steps p.tables e below (Tg86.setTop (mkF m 155 #[.val (.long q0), .second, .val (.long q1), .second, .val (.long q2), .second, .val (.long q3), .second, .val (.long q4), .second, .val (.int p5), .val (.int v7), .val (.ref b9), .val (.long w14_lateMillis), .second, .val (.int (own_b (v7 = (2 : Int32)))), .val (.long v94), .second, .val (.long v140), .second, .unset, .unset, .unset] [(.long (v140 + v94))])) target
          refine XS.lstore Xg86.here hx rfl (hb hby at_155) rfl (l' := #[.val (.long q0), .second, .val (.long q1), .second, .val (.long q2), .second, .val (.long q3), .second, .val (.long q4), .second, .val (.int p5), .val (.int v7), .val (.ref b9), .val (.long w14_lateMillis), .second, .val (.int (own_b (v7 = (2 : Int32)))), .val (.long v94), .second, .val (.long v155), .second, .unset, .unset, .unset]) (by subst hv155; rfl) ?_
          exact kt
        subst hv155
        exact ⟨_, ⟨((v140 + v94)), rfl, (if_neg c147).symm⟩, fun _ k => k⟩
    refine own_st st_M157 ?_
    refine own_st (B := Tg86.setTop (mkF m 161 #[.val (.long q0), .second, .val (.long q1), .second, .val (.long q2), .second, .val (.long q3), .second, .val (.long q4), .second, .val (.int p5), .val (.int v7), .val (.ref b9), .val (.long w14_lateMillis), .second, .val (.int (own_b (v7 = (2 : Int32)))), .val (.long v94), .second, .val (.long j157_l18), .second, .unset, .unset, .unset] [(.long q4), (.ref b9)])) (fun target kt => ?_) ?_
    · show Steps p.tables e below (Tg86.setTop (mkF m 157 #[.val (.long q0), .second, .val (.long q1), .second, .val (.long q2), .second, .val (.long q3), .second, .val (.long q4), .second, .val (.int p5), .val (.int v7), .val (.ref b9), .val (.long w14_lateMillis), .second, .val (.int (own_b (v7 = (2 : Int32)))), .val (.long v94), .second, .val (.long j157_l18), .second, .unset, .unset, .unset] [])) target
      refine XS.aload Xg86.here hx rfl (hb hby at_157) rfl rfl ?_
      show Steps p.tables e below (Tg86.setTop (mkF m 159 #[.val (.long q0), .second, .val (.long q1), .second, .val (.long q2), .second, .val (.long q3), .second, .val (.long q4), .second, .val (.int p5), .val (.int v7), .val (.ref b9), .val (.long w14_lateMillis), .second, .val (.int (own_b (v7 = (2 : Int32)))), .val (.long v94), .second, .val (.long j157_l18), .second, .unset, .unset, .unset] [(.ref b9)])) target
      refine XS.lload Xg86.here hx rfl (hb hby at_159) rfl ?_
      exact kt
    obtain ⟨cqg161, kqg161, qg161a, qg161b, qg161c⟩ := isOf hZ rfl F_38
    obtain ⟨_, _, ⟨Tg161, Lg161, kg161, ng161⟩, -, Xg161, ⟨Lcg161, hQg161, lg161, yg161, zg161⟩, stg161⟩ := Xg86.virtualBack hx (y := (⟨"ringward/Silence", "isOver", "(J)Z"⟩ : MethodName)) (z := (⟨"ringward/Silence", "isOver", "(J)Z"⟩ : MethodName)) hown (mvT hZ (hw _ (List.mem_of_getElem? (i := 43) rfl))) (mvT hZ (hw _ (List.mem_of_getElem? (i := 44) rfl))) (notFace_of_selects (args := #[]) (mvT hZ (hw _ (List.mem_of_getElem? (i := 46) rfl)))) (mvT hZ (hw _ (List.mem_of_getElem? (i := 46) rfl))) (mvT hZ (hw _ (List.mem_of_getElem? (i := 45) rfl))) (by decide) (backOf (W := 0) (own_rm7 l Z a0 hw [] b9 q4 (¬ (v7 = (1 : Int32)) ∧ (¬ (v7 < (1 : Int32)))) w86_deadline Tg86.heap n0 Zz_4 F_42 F_44) hZ (hw _ (List.mem_of_getElem? (i := 47) rfl)) (hw _ (List.mem_of_getElem? (i := 3) rfl)) (by decide) (by decide)) qg161a qg161c (g := (mkF m 161 #[.val (.long q0), .second, .val (.long q1), .second, .val (.long q2), .second, .val (.long q3), .second, .val (.long q4), .second, .val (.int p5), .val (.int v7), .val (.ref b9), .val (.long w14_lateMillis), .second, .val (.int (own_b (v7 = (2 : Int32)))), .val (.long v94), .second, .val (.long j157_l18), .second, .unset, .unset, .unset] [(.long q4), (.ref b9)])) rfl (by rw [hml]; rfl) (Steps.refl _) (argsL := [(.long q4)]) (rest := []) (lenOf own_pd6 rfl) rfl (by show 2 * 0 + _ ≤ _; exact Nat.le_of_eq rfl) (hb hby at_161) (fun _ _ => ⟨rfl, rfl, (by decide : 1 + 0 ≤ _), (by decide : 5 + 0 ≤ _)⟩)
    dsimp only [Pt.U, Pt.locs, Pt.cells, Pt.slots] at Xg161 lg161 yg161 zg161 stg161 hQg161
    subst lg161 yg161 zg161
    obtain ⟨rfl, Ng161q, eg161⟩ := hQg161
    have Ng161 := Fr.app Ng86 Ng161q
    refine own_st (fun _ k => stg161.trans k) ?_
    refine own_st (B := Tg161.setTop (mkF m 170 #[.val (.long q0), .second, .val (.long q1), .second, .val (.long q2), .second, .val (.long q3), .second, .val (.long q4), .second, .val (.int p5), .val (.int v7), .val (.ref b9), .val (.long w14_lateMillis), .second, .val (.int (own_b (v7 = (2 : Int32)))), .val (.long v94), .second, .val (.long j157_l18), .second, .val (.int (own_b ((¬ (v7 = (1 : Int32)) ∧ (¬ (v7 < (1 : Int32)))) ∧ (¬ ((q4 - w86_deadline) < (0 : Int64)))))), .unset, .unset] [(.long q4), (.ref b9)])) (fun target kt => ?_) ?_
    · show Steps p.tables e below (Tg161.setTop (mkF m 164 #[.val (.long q0), .second, .val (.long q1), .second, .val (.long q2), .second, .val (.long q3), .second, .val (.long q4), .second, .val (.int p5), .val (.int v7), .val (.ref b9), .val (.long w14_lateMillis), .second, .val (.int (own_b (v7 = (2 : Int32)))), .val (.long v94), .second, .val (.long j157_l18), .second, .unset, .unset, .unset] [(.int (own_b ((¬ (v7 = (1 : Int32)) ∧ (¬ (v7 < (1 : Int32)))) ∧ (¬ ((q4 - w86_deadline) < (0 : Int64))))))])) target
      refine XS.istore Xg161.here hx rfl (hb hby at_164) rfl (l' := #[.val (.long q0), .second, .val (.long q1), .second, .val (.long q2), .second, .val (.long q3), .second, .val (.long q4), .second, .val (.int p5), .val (.int v7), .val (.ref b9), .val (.long w14_lateMillis), .second, .val (.int (own_b (v7 = (2 : Int32)))), .val (.long v94), .second, .val (.long j157_l18), .second, .val (.int (own_b ((¬ (v7 = (1 : Int32)) ∧ (¬ (v7 < (1 : Int32)))) ∧ (¬ ((q4 - w86_deadline) < (0 : Int64)))))), .unset, .unset]) rfl ?_
      show Steps p.tables e below (Tg161.setTop (mkF m 166 #[.val (.long q0), .second, .val (.long q1), .second, .val (.long q2), .second, .val (.long q3), .second, .val (.long q4), .second, .val (.int p5), .val (.int v7), .val (.ref b9), .val (.long w14_lateMillis), .second, .val (.int (own_b (v7 = (2 : Int32)))), .val (.long v94), .second, .val (.long j157_l18), .second, .val (.int (own_b ((¬ (v7 = (1 : Int32)) ∧ (¬ (v7 < (1 : Int32)))) ∧ (¬ ((q4 - w86_deadline) < (0 : Int64)))))), .unset, .unset] [])) target
      refine XS.aload Xg161.here hx rfl (hb hby at_166) rfl rfl ?_
      show Steps p.tables e below (Tg161.setTop (mkF m 168 #[.val (.long q0), .second, .val (.long q1), .second, .val (.long q2), .second, .val (.long q3), .second, .val (.long q4), .second, .val (.int p5), .val (.int v7), .val (.ref b9), .val (.long w14_lateMillis), .second, .val (.int (own_b (v7 = (2 : Int32)))), .val (.long v94), .second, .val (.long j157_l18), .second, .val (.int (own_b ((¬ (v7 = (1 : Int32)) ∧ (¬ (v7 < (1 : Int32)))) ∧ (¬ ((q4 - w86_deadline) < (0 : Int64)))))), .unset, .unset] [(.ref b9)])) target
      refine XS.lload Xg161.here hx rfl (hb hby at_168) rfl ?_
      exact kt
    obtain ⟨cqg170, kqg170, qg170a, qg170b, qg170c⟩ := isOf hZ eg161 F_38
    obtain ⟨_, _, ⟨Tg170, Lg170, kg170, ng170⟩, -, Xg170, ⟨Lcg170, hQg170, lg170, yg170, zg170⟩, stg170⟩ := Xg161.virtualBack hx (y := (⟨"ringward/Silence", "pinged", "(J)J"⟩ : MethodName)) (z := (⟨"ringward/Silence", "pinged", "(J)J"⟩ : MethodName)) hown (mvT hZ (hw _ (List.mem_of_getElem? (i := 29) rfl))) (mvT hZ (hw _ (List.mem_of_getElem? (i := 30) rfl))) (notFace_of_selects (args := #[]) (mvT hZ (hw _ (List.mem_of_getElem? (i := 32) rfl)))) (mvT hZ (hw _ (List.mem_of_getElem? (i := 32) rfl))) (mvT hZ (hw _ (List.mem_of_getElem? (i := 31) rfl))) (by decide) (backOf (W := 0) (own_rm5 l Z a0 hw [] b9 q4 q0 w14_intervalMillis w14_lateMillis (¬ (v7 = (1 : Int32)) ∧ (¬ (v7 < (1 : Int32)))) w86_deadline Tg86.heap n0 Zz_4 F_38 F_39 F_40 F_41 F_42 F_44 g_b9) hZ (hw _ (List.mem_of_getElem? (i := 33) rfl)) (hw _ (List.mem_of_getElem? (i := 3) rfl)) (by decide) (by decide)) qg170a qg170c (g := (mkF m 170 #[.val (.long q0), .second, .val (.long q1), .second, .val (.long q2), .second, .val (.long q3), .second, .val (.long q4), .second, .val (.int p5), .val (.int v7), .val (.ref b9), .val (.long w14_lateMillis), .second, .val (.int (own_b (v7 = (2 : Int32)))), .val (.long v94), .second, .val (.long j157_l18), .second, .val (.int (own_b ((¬ (v7 = (1 : Int32)) ∧ (¬ (v7 < (1 : Int32)))) ∧ (¬ ((q4 - w86_deadline) < (0 : Int64)))))), .unset, .unset] [(.long q4), (.ref b9)])) rfl (by rw [hml]; rfl) (Steps.refl _) (argsL := [(.long q4)]) (rest := []) (lenOf own_pd3 rfl) rfl (by show 2 * 0 + _ ≤ _; exact Nat.le_of_eq rfl) (hb hby at_170) (fun _ _ => ⟨rfl, eg161, (by decide : 1 + 0 ≤ _), (by decide : 5 + 0 ≤ _)⟩)
    dsimp only [Pt.U, Pt.locs, Pt.cells, Pt.slots] at Xg170 lg170 yg170 zg170 stg170 hQg170
    subst lg170 yg170 zg170
    obtain ⟨rfl, Ng170q, Kg170, F_45, F_46, F_47, F_48, F_49, F_50⟩ := hQg170
    have Zz_5 : n0 ≤ Tg170.heap.size := Nat.le_trans Zz_4 Kg170.1
    obtain ⟨w170_deadline, hw170_deadline⟩ : ∃ z : Int64, z = (if (¬ (v7 = (1 : Int32)) ∧ (¬ (v7 < (1 : Int32)))) then w86_deadline else (q4 + q0)) := ⟨_, rfl⟩
    have F_51 : Fld Z Tg170.heap b9 "ringward/Silence" "deadline" "J" (.long w170_deadline) := by subst hw170_deadline; exact F_50
    have Ng170 := Fr.app Ng161 Ng170q
    refine own_st (fun _ k => stg170.trans k) ?_
    obtain ⟨v173, hv173⟩ : ∃ z : Int64, z = (((if (¬ (v7 = (1 : Int32)) ∧ (¬ (v7 < (1 : Int32)))) then w86_deadline else (q4 + q0))) - q4) := ⟨_, rfl⟩
    refine own_st (B := Tg170.setTop (mkF m 184 #[.val (.long q0), .second, .val (.long q1), .second, .val (.long q2), .second, .val (.long q3), .second, .val (.long q4), .second, .val (.int p5), .val (.int v7), .val (.ref b9), .val (.long w14_lateMillis), .second, .val (.int (own_b (v7 = (2 : Int32)))), .val (.long v94), .second, .val (.long j157_l18), .second, .val (.int (own_b ((¬ (v7 = (1 : Int32)) ∧ (¬ (v7 < (1 : Int32)))) ∧ (¬ ((q4 - w86_deadline) < (0 : Int64)))))), .val (.long v173), .second] [(.int (lcmpW (q4 - j157_l18) (0 : Int64))), (.int (own_b ((¬ (v7 = (1 : Int32)) ∧ (¬ (v7 < (1 : Int32)))) ∧ (¬ ((q4 - w86_deadline) < (0 : Int64))))))])) (fun target kt => ?_) ?_
    · show Steps p.tables e below (Tg170.setTop (mkF m 173 #[.val (.long q0), .second, .val (.long q1), .second, .val (.long q2), .second, .val (.long q3), .second, .val (.long q4), .second, .val (.int p5), .val (.int v7), .val (.ref b9), .val (.long w14_lateMillis), .second, .val (.int (own_b (v7 = (2 : Int32)))), .val (.long v94), .second, .val (.long j157_l18), .second, .val (.int (own_b ((¬ (v7 = (1 : Int32)) ∧ (¬ (v7 < (1 : Int32)))) ∧ (¬ ((q4 - w86_deadline) < (0 : Int64)))))), .unset, .unset] [(.long (((if (¬ (v7 = (1 : Int32)) ∧ (¬ (v7 < (1 : Int32)))) then w86_deadline else (q4 + q0))) - q4))])) target
      refine XS.lstore Xg170.here hx rfl (hb hby at_173) rfl (l' := #[.val (.long q0), .second, .val (.long q1), .second, .val (.long q2), .second, .val (.long q3), .second, .val (.long q4), .second, .val (.int p5), .val (.int v7), .val (.ref b9), .val (.long w14_lateMillis), .second, .val (.int (own_b (v7 = (2 : Int32)))), .val (.long v94), .second, .val (.long j157_l18), .second, .val (.int (own_b ((¬ (v7 = (1 : Int32)) ∧ (¬ (v7 < (1 : Int32)))) ∧ (¬ ((q4 - w86_deadline) < (0 : Int64)))))), .val (.long v173), .second]) (by subst hv173; rfl) ?_
      show Steps p.tables e below (Tg170.setTop (mkF m 175 #[.val (.long q0), .second, .val (.long q1), .second, .val (.long q2), .second, .val (.long q3), .second, .val (.long q4), .second, .val (.int p5), .val (.int v7), .val (.ref b9), .val (.long w14_lateMillis), .second, .val (.int (own_b (v7 = (2 : Int32)))), .val (.long v94), .second, .val (.long j157_l18), .second, .val (.int (own_b ((¬ (v7 = (1 : Int32)) ∧ (¬ (v7 < (1 : Int32)))) ∧ (¬ ((q4 - w86_deadline) < (0 : Int64)))))), .val (.long v173), .second] [])) target
      refine XS.iload Xg170.here hx rfl (hb hby at_175) rfl ?_
      show Steps p.tables e below (Tg170.setTop (mkF m 177 #[.val (.long q0), .second, .val (.long q1), .second, .val (.long q2), .second, .val (.long q3), .second, .val (.long q4), .second, .val (.int p5), .val (.int v7), .val (.ref b9), .val (.long w14_lateMillis), .second, .val (.int (own_b (v7 = (2 : Int32)))), .val (.long v94), .second, .val (.long j157_l18), .second, .val (.int (own_b ((¬ (v7 = (1 : Int32)) ∧ (¬ (v7 < (1 : Int32)))) ∧ (¬ ((q4 - w86_deadline) < (0 : Int64)))))), .val (.long v173), .second] [(.int (own_b ((¬ (v7 = (1 : Int32)) ∧ (¬ (v7 < (1 : Int32)))) ∧ (¬ ((q4 - w86_deadline) < (0 : Int64))))))])) target
      refine XS.lload Xg170.here hx rfl (hb hby at_177) rfl ?_
      show Steps p.tables e below (Tg170.setTop (mkF m 179 #[.val (.long q0), .second, .val (.long q1), .second, .val (.long q2), .second, .val (.long q3), .second, .val (.long q4), .second, .val (.int p5), .val (.int v7), .val (.ref b9), .val (.long w14_lateMillis), .second, .val (.int (own_b (v7 = (2 : Int32)))), .val (.long v94), .second, .val (.long j157_l18), .second, .val (.int (own_b ((¬ (v7 = (1 : Int32)) ∧ (¬ (v7 < (1 : Int32)))) ∧ (¬ ((q4 - w86_deadline) < (0 : Int64)))))), .val (.long v173), .second] [(.long q4), (.int (own_b ((¬ (v7 = (1 : Int32)) ∧ (¬ (v7 < (1 : Int32)))) ∧ (¬ ((q4 - w86_deadline) < (0 : Int64))))))])) target
      refine XS.lload Xg170.here hx rfl (hb hby at_179) rfl ?_
      show Steps p.tables e below (Tg170.setTop (mkF m 181 #[.val (.long q0), .second, .val (.long q1), .second, .val (.long q2), .second, .val (.long q3), .second, .val (.long q4), .second, .val (.int p5), .val (.int v7), .val (.ref b9), .val (.long w14_lateMillis), .second, .val (.int (own_b (v7 = (2 : Int32)))), .val (.long v94), .second, .val (.long j157_l18), .second, .val (.int (own_b ((¬ (v7 = (1 : Int32)) ∧ (¬ (v7 < (1 : Int32)))) ∧ (¬ ((q4 - w86_deadline) < (0 : Int64)))))), .val (.long v173), .second] [(.long j157_l18), (.long q4), (.int (own_b ((¬ (v7 = (1 : Int32)) ∧ (¬ (v7 < (1 : Int32)))) ∧ (¬ ((q4 - w86_deadline) < (0 : Int64))))))])) target
      refine XS.lsub Xg170.here hx rfl (hb hby at_181) rfl ?_
      show Steps p.tables e below (Tg170.setTop (mkF m 182 #[.val (.long q0), .second, .val (.long q1), .second, .val (.long q2), .second, .val (.long q3), .second, .val (.long q4), .second, .val (.int p5), .val (.int v7), .val (.ref b9), .val (.long w14_lateMillis), .second, .val (.int (own_b (v7 = (2 : Int32)))), .val (.long v94), .second, .val (.long j157_l18), .second, .val (.int (own_b ((¬ (v7 = (1 : Int32)) ∧ (¬ (v7 < (1 : Int32)))) ∧ (¬ ((q4 - w86_deadline) < (0 : Int64)))))), .val (.long v173), .second] [(.long (q4 - j157_l18)), (.int (own_b ((¬ (v7 = (1 : Int32)) ∧ (¬ (v7 < (1 : Int32)))) ∧ (¬ ((q4 - w86_deadline) < (0 : Int64))))))])) target
      refine XS.lconst Xg170.here hx rfl (hb hby at_182) ?_
      show Steps p.tables e below (Tg170.setTop (mkF m 183 #[.val (.long q0), .second, .val (.long q1), .second, .val (.long q2), .second, .val (.long q3), .second, .val (.long q4), .second, .val (.int p5), .val (.int v7), .val (.ref b9), .val (.long w14_lateMillis), .second, .val (.int (own_b (v7 = (2 : Int32)))), .val (.long v94), .second, .val (.long j157_l18), .second, .val (.int (own_b ((¬ (v7 = (1 : Int32)) ∧ (¬ (v7 < (1 : Int32)))) ∧ (¬ ((q4 - w86_deadline) < (0 : Int64)))))), .val (.long v173), .second] [(.long (0 : Int64)), (.long (q4 - j157_l18)), (.int (own_b ((¬ (v7 = (1 : Int32)) ∧ (¬ (v7 < (1 : Int32)))) ∧ (¬ ((q4 - w86_deadline) < (0 : Int64))))))])) target
      refine XS.lcmp Xg170.here hx rfl (hb hby at_183) rfl ?_
      exact kt
    obtain ⟨_, ⟨j192_s0, rfl, rfl⟩, st_M192⟩ : own_Lead p.tables e below (Tg170.setTop (mkF m 184 #[.val (.long q0), .second, .val (.long q1), .second, .val (.long q2), .second, .val (.long q3), .second, .val (.long q4), .second, .val (.int p5), .val (.int v7), .val (.ref b9), .val (.long w14_lateMillis), .second, .val (.int (own_b (v7 = (2 : Int32)))), .val (.long v94), .second, .val (.long j157_l18), .second, .val (.int (own_b ((¬ (v7 = (1 : Int32)) ∧ (¬ (v7 < (1 : Int32)))) ∧ (¬ ((q4 - w86_deadline) < (0 : Int64)))))), .val (.long v173), .second] [(.int (lcmpW (q4 - j157_l18) (0 : Int64))), (.int (own_b ((¬ (v7 = (1 : Int32)) ∧ (¬ (v7 < (1 : Int32)))) ∧ (¬ ((q4 - w86_deadline) < (0 : Int64))))))])) (fun B => ∃ (j192_s0 : Int32), B = Tg170.setTop (mkF m 192 #[.val (.long q0), .second, .val (.long q1), .second, .val (.long q2), .second, .val (.long q3), .second, .val (.long q4), .second, .val (.int p5), .val (.int v7), .val (.ref b9), .val (.long w14_lateMillis), .second, .val (.int (own_b (v7 = (2 : Int32)))), .val (.long v94), .second, .val (.long j157_l18), .second, .val (.int (own_b ((¬ (v7 = (1 : Int32)) ∧ (¬ (v7 < (1 : Int32)))) ∧ (¬ ((q4 - w86_deadline) < (0 : Int64)))))), .val (.long v173), .second] [(.int j192_s0), (.int (own_b ((¬ (v7 = (1 : Int32)) ∧ (¬ (v7 < (1 : Int32)))) ∧ (¬ ((q4 - w86_deadline) < (0 : Int64))))))]) ∧ j192_s0 = own_b (¬ ((q4 - j157_l18) < (0 : Int64)))) := by
      by_cases c184 : (q4 - j157_l18) < (0 : Int64)
      · refine own_st (B := Tg170.setTop (mkF m 192 #[.val (.long q0), .second, .val (.long q1), .second, .val (.long q2), .second, .val (.long q3), .second, .val (.long q4), .second, .val (.int p5), .val (.int v7), .val (.ref b9), .val (.long w14_lateMillis), .second, .val (.int (own_b (v7 = (2 : Int32)))), .val (.long v94), .second, .val (.long j157_l18), .second, .val (.int (own_b ((¬ (v7 = (1 : Int32)) ∧ (¬ (v7 < (1 : Int32)))) ∧ (¬ ((q4 - w86_deadline) < (0 : Int64)))))), .val (.long v173), .second] [(.int (0 : Int32)), (.int (own_b ((¬ (v7 = (1 : Int32)) ∧ (¬ (v7 < (1 : Int32)))) ∧ (¬ ((q4 - w86_deadline) < (0 : Int64))))))])) (fun target kt => ?_) ?_
        · show Steps p.tables e below (Tg170.setTop (mkF m 184 #[.val (.long q0), .second, .val (.long q1), .second, .val (.long q2), .second, .val (.long q3), .second, .val (.long q4), .second, .val (.int p5), .val (.int v7), .val (.ref b9), .val (.long w14_lateMillis), .second, .val (.int (own_b (v7 = (2 : Int32)))), .val (.long v94), .second, .val (.long j157_l18), .second, .val (.int (own_b ((¬ (v7 = (1 : Int32)) ∧ (¬ (v7 < (1 : Int32)))) ∧ (¬ ((q4 - w86_deadline) < (0 : Int64)))))), .val (.long v173), .second] [(.int (lcmpW (q4 - j157_l18) (0 : Int64))), (.int (own_b ((¬ (v7 = (1 : Int32)) ∧ (¬ (v7 < (1 : Int32)))) ∧ (¬ ((q4 - w86_deadline) < (0 : Int64))))))])) target
          refine XS.ifYes Xg170.here hx rfl (pc0 := 184) (pc' := 191) rfl (hb hby at_184) rfl ((if0 _ _).trans (tlt ((lw_lt (q4 - j157_l18) (0 : Int64)).mpr c184)).1) (by decide) (by decide) ?_
          show Steps p.tables e below (Tg170.setTop (mkF m 191 #[.val (.long q0), .second, .val (.long q1), .second, .val (.long q2), .second, .val (.long q3), .second, .val (.long q4), .second, .val (.int p5), .val (.int v7), .val (.ref b9), .val (.long w14_lateMillis), .second, .val (.int (own_b (v7 = (2 : Int32)))), .val (.long v94), .second, .val (.long j157_l18), .second, .val (.int (own_b ((¬ (v7 = (1 : Int32)) ∧ (¬ (v7 < (1 : Int32)))) ∧ (¬ ((q4 - w86_deadline) < (0 : Int64)))))), .val (.long v173), .second] [(.int (own_b ((¬ (v7 = (1 : Int32)) ∧ (¬ (v7 < (1 : Int32)))) ∧ (¬ ((q4 - w86_deadline) < (0 : Int64))))))])) target
          refine XS.iconst Xg170.here hx rfl (hb hby at_191) ?_
          exact kt
        exact ⟨_, ⟨(0 : Int32), rfl, (own_b0 (fun w => w c184)).symm⟩, fun _ k => k⟩
      · refine own_st (B := Tg170.setTop (mkF m 192 #[.val (.long q0), .second, .val (.long q1), .second, .val (.long q2), .second, .val (.long q3), .second, .val (.long q4), .second, .val (.int p5), .val (.int v7), .val (.ref b9), .val (.long w14_lateMillis), .second, .val (.int (own_b (v7 = (2 : Int32)))), .val (.long v94), .second, .val (.long j157_l18), .second, .val (.int (own_b ((¬ (v7 = (1 : Int32)) ∧ (¬ (v7 < (1 : Int32)))) ∧ (¬ ((q4 - w86_deadline) < (0 : Int64)))))), .val (.long v173), .second] [(.int (1 : Int32)), (.int (own_b ((¬ (v7 = (1 : Int32)) ∧ (¬ (v7 < (1 : Int32)))) ∧ (¬ ((q4 - w86_deadline) < (0 : Int64))))))])) (fun target kt => ?_) ?_
        · show Steps p.tables e below (Tg170.setTop (mkF m 184 #[.val (.long q0), .second, .val (.long q1), .second, .val (.long q2), .second, .val (.long q3), .second, .val (.long q4), .second, .val (.int p5), .val (.int v7), .val (.ref b9), .val (.long w14_lateMillis), .second, .val (.int (own_b (v7 = (2 : Int32)))), .val (.long v94), .second, .val (.long j157_l18), .second, .val (.int (own_b ((¬ (v7 = (1 : Int32)) ∧ (¬ (v7 < (1 : Int32)))) ∧ (¬ ((q4 - w86_deadline) < (0 : Int64)))))), .val (.long v173), .second] [(.int (lcmpW (q4 - j157_l18) (0 : Int64))), (.int (own_b ((¬ (v7 = (1 : Int32)) ∧ (¬ (v7 < (1 : Int32)))) ∧ (¬ ((q4 - w86_deadline) < (0 : Int64))))))])) target
          refine XS.ifNo Xg170.here hx rfl (hb hby at_184) rfl ((if0 _ _).trans (flt (fun q => c184 ((lw_lt (q4 - j157_l18) (0 : Int64)).mp q))).1) ?_
          show Steps p.tables e below (Tg170.setTop (mkF m 187 #[.val (.long q0), .second, .val (.long q1), .second, .val (.long q2), .second, .val (.long q3), .second, .val (.long q4), .second, .val (.int p5), .val (.int v7), .val (.ref b9), .val (.long w14_lateMillis), .second, .val (.int (own_b (v7 = (2 : Int32)))), .val (.long v94), .second, .val (.long j157_l18), .second, .val (.int (own_b ((¬ (v7 = (1 : Int32)) ∧ (¬ (v7 < (1 : Int32)))) ∧ (¬ ((q4 - w86_deadline) < (0 : Int64)))))), .val (.long v173), .second] [(.int (own_b ((¬ (v7 = (1 : Int32)) ∧ (¬ (v7 < (1 : Int32)))) ∧ (¬ ((q4 - w86_deadline) < (0 : Int64))))))])) target
          refine XS.iconst Xg170.here hx rfl (hb hby at_187) ?_
          show Steps p.tables e below (Tg170.setTop (mkF m 188 #[.val (.long q0), .second, .val (.long q1), .second, .val (.long q2), .second, .val (.long q3), .second, .val (.long q4), .second, .val (.int p5), .val (.int v7), .val (.ref b9), .val (.long w14_lateMillis), .second, .val (.int (own_b (v7 = (2 : Int32)))), .val (.long v94), .second, .val (.long j157_l18), .second, .val (.int (own_b ((¬ (v7 = (1 : Int32)) ∧ (¬ (v7 < (1 : Int32)))) ∧ (¬ ((q4 - w86_deadline) < (0 : Int64)))))), .val (.long v173), .second] [(.int (1 : Int32)), (.int (own_b ((¬ (v7 = (1 : Int32)) ∧ (¬ (v7 < (1 : Int32)))) ∧ (¬ ((q4 - w86_deadline) < (0 : Int64))))))])) target
          refine XS.goto Xg170.here hx rfl (pc0 := 188) (pc' := 192) rfl (hb hby at_188) (by decide) (by decide) ?_
          exact kt
        exact ⟨_, ⟨(1 : Int32), rfl, (own_b1 c184).symm⟩, fun _ k => k⟩
    refine own_st st_M192 ?_
    have c192 : ((¬ (v7 = (1 : Int32)) ∧ (¬ (v7 < (1 : Int32)))) ∧ (¬ ((q4 - w86_deadline) < (0 : Int64)))) ↔ (¬ ((q4 - j157_l18) < (0 : Int64))) := by
      have hA : (¬ (v7 = (1 : Int32)) ∧ (¬ (v7 < (1 : Int32)))) := by rw [c98]; decide
      have hW : w86_deadline = j157_l18 := by
        rw [hw86_deadline, if_pos hA, hj56_f_b9_deadline, if_neg hA.2, if_neg not_false, hj157_l18, hv94, hv140]
      exact ⟨fun h => by rw [← hW]; exact h.2, fun h => ⟨hA, by rw [hW]; exact h⟩⟩
    refine own_st (B := Tg170.setTop (mkF m 203 #[.val (.long q0), .second, .val (.long q1), .second, .val (.long q2), .second, .val (.long q3), .second, .val (.long q4), .second, .val (.int p5), .val (.int v7), .val (.ref b9), .val (.long w14_lateMillis), .second, .val (.int (own_b (v7 = (2 : Int32)))), .val (.long v94), .second, .val (.long j157_l18), .second, .val (.int (own_b ((¬ (v7 = (1 : Int32)) ∧ (¬ (v7 < (1 : Int32)))) ∧ (¬ ((q4 - w86_deadline) < (0 : Int64)))))), .val (.long v173), .second] [(.int (lcmpW v173 (j157_l18 - q4)))])) (fun target kt => ?_) ?_
    · show Steps p.tables e below (Tg170.setTop (mkF m 192 #[.val (.long q0), .second, .val (.long q1), .second, .val (.long q2), .second, .val (.long q3), .second, .val (.long q4), .second, .val (.int p5), .val (.int v7), .val (.ref b9), .val (.long w14_lateMillis), .second, .val (.int (own_b (v7 = (2 : Int32)))), .val (.long v94), .second, .val (.long j157_l18), .second, .val (.int (own_b ((¬ (v7 = (1 : Int32)) ∧ (¬ (v7 < (1 : Int32)))) ∧ (¬ ((q4 - w86_deadline) < (0 : Int64)))))), .val (.long v173), .second] [(.int (own_b (¬ ((q4 - j157_l18) < (0 : Int64))))), (.int (own_b ((¬ (v7 = (1 : Int32)) ∧ (¬ (v7 < (1 : Int32)))) ∧ (¬ ((q4 - w86_deadline) < (0 : Int64))))))])) target
      refine XS.icmpNo Xg170.here hx rfl (hb hby at_192) rfl (teq (own_bb rfl rfl c192)).2 ?_
      show Steps p.tables e below (Tg170.setTop (mkF m 195 #[.val (.long q0), .second, .val (.long q1), .second, .val (.long q2), .second, .val (.long q3), .second, .val (.long q4), .second, .val (.int p5), .val (.int v7), .val (.ref b9), .val (.long w14_lateMillis), .second, .val (.int (own_b (v7 = (2 : Int32)))), .val (.long v94), .second, .val (.long j157_l18), .second, .val (.int (own_b ((¬ (v7 = (1 : Int32)) ∧ (¬ (v7 < (1 : Int32)))) ∧ (¬ ((q4 - w86_deadline) < (0 : Int64)))))), .val (.long v173), .second] [])) target
      refine XS.lload Xg170.here hx rfl (hb hby at_195) rfl ?_
      show Steps p.tables e below (Tg170.setTop (mkF m 197 #[.val (.long q0), .second, .val (.long q1), .second, .val (.long q2), .second, .val (.long q3), .second, .val (.long q4), .second, .val (.int p5), .val (.int v7), .val (.ref b9), .val (.long w14_lateMillis), .second, .val (.int (own_b (v7 = (2 : Int32)))), .val (.long v94), .second, .val (.long j157_l18), .second, .val (.int (own_b ((¬ (v7 = (1 : Int32)) ∧ (¬ (v7 < (1 : Int32)))) ∧ (¬ ((q4 - w86_deadline) < (0 : Int64)))))), .val (.long v173), .second] [(.long v173)])) target
      refine XS.lload Xg170.here hx rfl (hb hby at_197) rfl ?_
      show Steps p.tables e below (Tg170.setTop (mkF m 199 #[.val (.long q0), .second, .val (.long q1), .second, .val (.long q2), .second, .val (.long q3), .second, .val (.long q4), .second, .val (.int p5), .val (.int v7), .val (.ref b9), .val (.long w14_lateMillis), .second, .val (.int (own_b (v7 = (2 : Int32)))), .val (.long v94), .second, .val (.long j157_l18), .second, .val (.int (own_b ((¬ (v7 = (1 : Int32)) ∧ (¬ (v7 < (1 : Int32)))) ∧ (¬ ((q4 - w86_deadline) < (0 : Int64)))))), .val (.long v173), .second] [(.long j157_l18), (.long v173)])) target
      refine XS.lload Xg170.here hx rfl (hb hby at_199) rfl ?_
      show Steps p.tables e below (Tg170.setTop (mkF m 201 #[.val (.long q0), .second, .val (.long q1), .second, .val (.long q2), .second, .val (.long q3), .second, .val (.long q4), .second, .val (.int p5), .val (.int v7), .val (.ref b9), .val (.long w14_lateMillis), .second, .val (.int (own_b (v7 = (2 : Int32)))), .val (.long v94), .second, .val (.long j157_l18), .second, .val (.int (own_b ((¬ (v7 = (1 : Int32)) ∧ (¬ (v7 < (1 : Int32)))) ∧ (¬ ((q4 - w86_deadline) < (0 : Int64)))))), .val (.long v173), .second] [(.long q4), (.long j157_l18), (.long v173)])) target
      refine XS.lsub Xg170.here hx rfl (hb hby at_201) rfl ?_
      show Steps p.tables e below (Tg170.setTop (mkF m 202 #[.val (.long q0), .second, .val (.long q1), .second, .val (.long q2), .second, .val (.long q3), .second, .val (.long q4), .second, .val (.int p5), .val (.int v7), .val (.ref b9), .val (.long w14_lateMillis), .second, .val (.int (own_b (v7 = (2 : Int32)))), .val (.long v94), .second, .val (.long j157_l18), .second, .val (.int (own_b ((¬ (v7 = (1 : Int32)) ∧ (¬ (v7 < (1 : Int32)))) ∧ (¬ ((q4 - w86_deadline) < (0 : Int64)))))), .val (.long v173), .second] [(.long (j157_l18 - q4)), (.long v173)])) target
      refine XS.lcmp Xg170.here hx rfl (hb hby at_202) rfl ?_
      exact kt
    have c203 : v173 = (j157_l18 - q4) := by
      have hA : (¬ (v7 = (1 : Int32)) ∧ (¬ (v7 < (1 : Int32)))) := by rw [c98]; decide
      have hW : w86_deadline = j157_l18 := by
        rw [hw86_deadline, if_pos hA, hj56_f_b9_deadline, if_neg hA.2, if_neg not_false, hj157_l18, hv94, hv140]
      rw [hv173, if_pos hA, hW]
    refine own_st (B := Tg170.setTop (mkF m 211 #[.val (.long q0), .second, .val (.long q1), .second, .val (.long q2), .second, .val (.long q3), .second, .val (.long q4), .second, .val (.int p5), .val (.int v7), .val (.ref b9), .val (.long w14_lateMillis), .second, .val (.int (own_b (v7 = (2 : Int32)))), .val (.long v94), .second, .val (.long j157_l18), .second, .val (.int (own_b ((¬ (v7 = (1 : Int32)) ∧ (¬ (v7 < (1 : Int32)))) ∧ (¬ ((q4 - w86_deadline) < (0 : Int64)))))), .val (.long v173), .second] [(.int (1 : Int32))])) (fun target kt => ?_) ?_
    · show Steps p.tables e below (Tg170.setTop (mkF m 203 #[.val (.long q0), .second, .val (.long q1), .second, .val (.long q2), .second, .val (.long q3), .second, .val (.long q4), .second, .val (.int p5), .val (.int v7), .val (.ref b9), .val (.long w14_lateMillis), .second, .val (.int (own_b (v7 = (2 : Int32)))), .val (.long v94), .second, .val (.long j157_l18), .second, .val (.int (own_b ((¬ (v7 = (1 : Int32)) ∧ (¬ (v7 < (1 : Int32)))) ∧ (¬ ((q4 - w86_deadline) < (0 : Int64)))))), .val (.long v173), .second] [(.int (lcmpW v173 (j157_l18 - q4)))])) target
      refine XS.ifNo Xg170.here hx rfl (hb hby at_203) rfl ((if0 _ _).trans (teq ((lw_eq v173 (j157_l18 - q4)).mpr c203)).2) ?_
      show Steps p.tables e below (Tg170.setTop (mkF m 206 #[.val (.long q0), .second, .val (.long q1), .second, .val (.long q2), .second, .val (.long q3), .second, .val (.long q4), .second, .val (.int p5), .val (.int v7), .val (.ref b9), .val (.long w14_lateMillis), .second, .val (.int (own_b (v7 = (2 : Int32)))), .val (.long v94), .second, .val (.long j157_l18), .second, .val (.int (own_b ((¬ (v7 = (1 : Int32)) ∧ (¬ (v7 < (1 : Int32)))) ∧ (¬ ((q4 - w86_deadline) < (0 : Int64)))))), .val (.long v173), .second] [])) target
      refine XS.iconst Xg170.here hx rfl (hb hby at_206) ?_
      show Steps p.tables e below (Tg170.setTop (mkF m 207 #[.val (.long q0), .second, .val (.long q1), .second, .val (.long q2), .second, .val (.long q3), .second, .val (.long q4), .second, .val (.int p5), .val (.int v7), .val (.ref b9), .val (.long w14_lateMillis), .second, .val (.int (own_b (v7 = (2 : Int32)))), .val (.long v94), .second, .val (.long j157_l18), .second, .val (.int (own_b ((¬ (v7 = (1 : Int32)) ∧ (¬ (v7 < (1 : Int32)))) ∧ (¬ ((q4 - w86_deadline) < (0 : Int64)))))), .val (.long v173), .second] [(.int (1 : Int32))])) target
      refine XS.goto Xg170.here hx rfl (pc0 := 207) (pc' := 211) rfl (hb hby at_207) (by decide) (by decide) ?_
      exact kt
    obtain ⟨fs, hr, hrun, hended, hW, hsame⟩ := Xg170.leave (v := some (.int (1 : Int32))) (fun h => by rw [Bd.returns] at h; cases h)
    have hend : Steps p.tables e below (Tg170.setTop (mkF m 211 #[.val (.long q0), .second, .val (.long q1), .second, .val (.long q2), .second, .val (.long q3), .second, .val (.long q4), .second, .val (.int p5), .val (.int v7), .val (.ref b9), .val (.long w14_lateMillis), .second, .val (.int (own_b (v7 = (2 : Int32)))), .val (.long v94), .second, .val (.long j157_l18), .second, .val (.int (own_b ((¬ (v7 = (1 : Int32)) ∧ (¬ (v7 < (1 : Int32)))) ∧ (¬ ((q4 - w86_deadline) < (0 : Int64)))))), .val (.long v173), .second] [(.int (1 : Int32))])) (Tg170.setFrames fs) := by
      exact retN Xg170 hx (t := .boolean) Bd.returns (by simp) (hb hby at_211) hr
    refine own_fin hend ⟨_, hrun, hended, _, _, rfl, ?_, ⟨_, rfl⟩, hW, hsame.mono (by decide) (by decide)⟩
    show own_Q0 Z q0 q1 q2 q3 q4 p5 h0 n0 _ Tg170.heap _
    exact ⟨rfl, Ng170⟩
  · refine own_st (B := Tg86.setTop (mkF m 105 #[.val (.long q0), .second, .val (.long q1), .second, .val (.long q2), .second, .val (.long q3), .second, .val (.long q4), .second, .val (.int p5), .val (.int v7), .val (.ref b9), .val (.long w14_lateMillis), .second, .val (.int (own_b (v7 = (2 : Int32)))), .val (.long v94), .second, .unset, .unset, .unset, .unset, .unset] [(.long q4), (.ref b9)])) (fun target kt => ?_) ?_
    · show Steps p.tables e below (Tg86.setTop (mkF m 98 #[.val (.long q0), .second, .val (.long q1), .second, .val (.long q2), .second, .val (.long q3), .second, .val (.long q4), .second, .val (.int p5), .val (.int v7), .val (.ref b9), .val (.long w14_lateMillis), .second, .val (.int (own_b (v7 = (2 : Int32)))), .val (.long v94), .second, .unset, .unset, .unset, .unset, .unset] [(.int (own_b (v7 = (2 : Int32))))])) target
      refine XS.ifNo Xg86.here hx rfl (hb hby at_98) rfl ((if0 _ _).trans (teq (own_b00 rfl c98)).2) ?_
      show Steps p.tables e below (Tg86.setTop (mkF m 101 #[.val (.long q0), .second, .val (.long q1), .second, .val (.long q2), .second, .val (.long q3), .second, .val (.long q4), .second, .val (.int p5), .val (.int v7), .val (.ref b9), .val (.long w14_lateMillis), .second, .val (.int (own_b (v7 = (2 : Int32)))), .val (.long v94), .second, .unset, .unset, .unset, .unset, .unset] [])) target
      refine XS.aload Xg86.here hx rfl (hb hby at_101) rfl rfl ?_
      show Steps p.tables e below (Tg86.setTop (mkF m 103 #[.val (.long q0), .second, .val (.long q1), .second, .val (.long q2), .second, .val (.long q3), .second, .val (.long q4), .second, .val (.int p5), .val (.int v7), .val (.ref b9), .val (.long w14_lateMillis), .second, .val (.int (own_b (v7 = (2 : Int32)))), .val (.long v94), .second, .unset, .unset, .unset, .unset, .unset] [(.ref b9)])) target
      refine XS.lload Xg86.here hx rfl (hb hby at_103) rfl ?_
      exact kt
    obtain ⟨cqg105, kqg105, qg105a, qg105b, qg105c⟩ := isOf hZ rfl F_38
    obtain ⟨_, _, ⟨Tg105, Lg105, kg105, ng105⟩, -, Xg105, ⟨Lcg105, hQg105, lg105, yg105, zg105⟩, stg105⟩ := Xg86.virtualBack hx (y := (⟨"ringward/Silence", "isOver", "(J)Z"⟩ : MethodName)) (z := (⟨"ringward/Silence", "isOver", "(J)Z"⟩ : MethodName)) hown (mvT hZ (hw _ (List.mem_of_getElem? (i := 43) rfl))) (mvT hZ (hw _ (List.mem_of_getElem? (i := 44) rfl))) (notFace_of_selects (args := #[]) (mvT hZ (hw _ (List.mem_of_getElem? (i := 46) rfl)))) (mvT hZ (hw _ (List.mem_of_getElem? (i := 46) rfl))) (mvT hZ (hw _ (List.mem_of_getElem? (i := 45) rfl))) (by decide) (backOf (W := 0) (own_rm7 l Z a0 hw [] b9 q4 (¬ (v7 = (1 : Int32)) ∧ (¬ (v7 < (1 : Int32)))) w86_deadline Tg86.heap n0 Zz_4 F_42 F_44) hZ (hw _ (List.mem_of_getElem? (i := 47) rfl)) (hw _ (List.mem_of_getElem? (i := 3) rfl)) (by decide) (by decide)) qg105a qg105c (g := (mkF m 105 #[.val (.long q0), .second, .val (.long q1), .second, .val (.long q2), .second, .val (.long q3), .second, .val (.long q4), .second, .val (.int p5), .val (.int v7), .val (.ref b9), .val (.long w14_lateMillis), .second, .val (.int (own_b (v7 = (2 : Int32)))), .val (.long v94), .second, .unset, .unset, .unset, .unset, .unset] [(.long q4), (.ref b9)])) rfl (by rw [hml]; rfl) (Steps.refl _) (argsL := [(.long q4)]) (rest := []) (lenOf own_pd6 rfl) rfl (by show 2 * 0 + _ ≤ _; exact Nat.le_of_eq rfl) (hb hby at_105) (fun _ _ => ⟨rfl, rfl, (by decide : 1 + 0 ≤ _), (by decide : 5 + 0 ≤ _)⟩)
    dsimp only [Pt.U, Pt.locs, Pt.cells, Pt.slots] at Xg105 lg105 yg105 zg105 stg105 hQg105
    subst lg105 yg105 zg105
    obtain ⟨rfl, Ng105q, eg105⟩ := hQg105
    have Ng105 := Fr.app Ng86 Ng105q
    refine own_st (fun _ k => stg105.trans k) ?_
    refine own_st (B := Tg105.setTop (mkF m 114 #[.val (.long q0), .second, .val (.long q1), .second, .val (.long q2), .second, .val (.long q3), .second, .val (.long q4), .second, .val (.int p5), .val (.int v7), .val (.ref b9), .val (.long w14_lateMillis), .second, .val (.int (own_b (v7 = (2 : Int32)))), .val (.long v94), .second, .val (.int (own_b ((¬ (v7 = (1 : Int32)) ∧ (¬ (v7 < (1 : Int32)))) ∧ (¬ ((q4 - w86_deadline) < (0 : Int64)))))), .unset, .unset, .unset, .unset] [(.long q4), (.ref b9)])) (fun target kt => ?_) ?_
    · show Steps p.tables e below (Tg105.setTop (mkF m 108 #[.val (.long q0), .second, .val (.long q1), .second, .val (.long q2), .second, .val (.long q3), .second, .val (.long q4), .second, .val (.int p5), .val (.int v7), .val (.ref b9), .val (.long w14_lateMillis), .second, .val (.int (own_b (v7 = (2 : Int32)))), .val (.long v94), .second, .unset, .unset, .unset, .unset, .unset] [(.int (own_b ((¬ (v7 = (1 : Int32)) ∧ (¬ (v7 < (1 : Int32)))) ∧ (¬ ((q4 - w86_deadline) < (0 : Int64))))))])) target
      refine XS.istore Xg105.here hx rfl (hb hby at_108) rfl (l' := #[.val (.long q0), .second, .val (.long q1), .second, .val (.long q2), .second, .val (.long q3), .second, .val (.long q4), .second, .val (.int p5), .val (.int v7), .val (.ref b9), .val (.long w14_lateMillis), .second, .val (.int (own_b (v7 = (2 : Int32)))), .val (.long v94), .second, .val (.int (own_b ((¬ (v7 = (1 : Int32)) ∧ (¬ (v7 < (1 : Int32)))) ∧ (¬ ((q4 - w86_deadline) < (0 : Int64)))))), .unset, .unset, .unset, .unset]) rfl ?_
      show Steps p.tables e below (Tg105.setTop (mkF m 110 #[.val (.long q0), .second, .val (.long q1), .second, .val (.long q2), .second, .val (.long q3), .second, .val (.long q4), .second, .val (.int p5), .val (.int v7), .val (.ref b9), .val (.long w14_lateMillis), .second, .val (.int (own_b (v7 = (2 : Int32)))), .val (.long v94), .second, .val (.int (own_b ((¬ (v7 = (1 : Int32)) ∧ (¬ (v7 < (1 : Int32)))) ∧ (¬ ((q4 - w86_deadline) < (0 : Int64)))))), .unset, .unset, .unset, .unset] [])) target
      refine XS.aload Xg105.here hx rfl (hb hby at_110) rfl rfl ?_
      show Steps p.tables e below (Tg105.setTop (mkF m 112 #[.val (.long q0), .second, .val (.long q1), .second, .val (.long q2), .second, .val (.long q3), .second, .val (.long q4), .second, .val (.int p5), .val (.int v7), .val (.ref b9), .val (.long w14_lateMillis), .second, .val (.int (own_b (v7 = (2 : Int32)))), .val (.long v94), .second, .val (.int (own_b ((¬ (v7 = (1 : Int32)) ∧ (¬ (v7 < (1 : Int32)))) ∧ (¬ ((q4 - w86_deadline) < (0 : Int64)))))), .unset, .unset, .unset, .unset] [(.ref b9)])) target
      refine XS.lload Xg105.here hx rfl (hb hby at_112) rfl ?_
      exact kt
    obtain ⟨cqg114, kqg114, qg114a, qg114b, qg114c⟩ := isOf hZ eg105 F_38
    obtain ⟨_, _, ⟨Tg114, Lg114, kg114, ng114⟩, -, Xg114, ⟨Lcg114, hQg114, lg114, yg114, zg114⟩, stg114⟩ := Xg105.virtualBack hx (y := (⟨"ringward/Silence", "pinged", "(J)J"⟩ : MethodName)) (z := (⟨"ringward/Silence", "pinged", "(J)J"⟩ : MethodName)) hown (mvT hZ (hw _ (List.mem_of_getElem? (i := 29) rfl))) (mvT hZ (hw _ (List.mem_of_getElem? (i := 30) rfl))) (notFace_of_selects (args := #[]) (mvT hZ (hw _ (List.mem_of_getElem? (i := 32) rfl)))) (mvT hZ (hw _ (List.mem_of_getElem? (i := 32) rfl))) (mvT hZ (hw _ (List.mem_of_getElem? (i := 31) rfl))) (by decide) (backOf (W := 0) (own_rm5 l Z a0 hw [] b9 q4 q0 w14_intervalMillis w14_lateMillis (¬ (v7 = (1 : Int32)) ∧ (¬ (v7 < (1 : Int32)))) w86_deadline Tg86.heap n0 Zz_4 F_38 F_39 F_40 F_41 F_42 F_44 g_b9) hZ (hw _ (List.mem_of_getElem? (i := 33) rfl)) (hw _ (List.mem_of_getElem? (i := 3) rfl)) (by decide) (by decide)) qg114a qg114c (g := (mkF m 114 #[.val (.long q0), .second, .val (.long q1), .second, .val (.long q2), .second, .val (.long q3), .second, .val (.long q4), .second, .val (.int p5), .val (.int v7), .val (.ref b9), .val (.long w14_lateMillis), .second, .val (.int (own_b (v7 = (2 : Int32)))), .val (.long v94), .second, .val (.int (own_b ((¬ (v7 = (1 : Int32)) ∧ (¬ (v7 < (1 : Int32)))) ∧ (¬ ((q4 - w86_deadline) < (0 : Int64)))))), .unset, .unset, .unset, .unset] [(.long q4), (.ref b9)])) rfl (by rw [hml]; rfl) (Steps.refl _) (argsL := [(.long q4)]) (rest := []) (lenOf own_pd3 rfl) rfl (by show 2 * 0 + _ ≤ _; exact Nat.le_of_eq rfl) (hb hby at_114) (fun _ _ => ⟨rfl, eg105, (by decide : 1 + 0 ≤ _), (by decide : 5 + 0 ≤ _)⟩)
    dsimp only [Pt.U, Pt.locs, Pt.cells, Pt.slots] at Xg114 lg114 yg114 zg114 stg114 hQg114
    subst lg114 yg114 zg114
    obtain ⟨rfl, Ng114q, Kg114, F_45, F_46, F_47, F_48, F_49, F_50⟩ := hQg114
    have Zz_5 : n0 ≤ Tg114.heap.size := Nat.le_trans Zz_4 Kg114.1
    obtain ⟨w114_deadline, hw114_deadline⟩ : ∃ z : Int64, z = (if (¬ (v7 = (1 : Int32)) ∧ (¬ (v7 < (1 : Int32)))) then w86_deadline else (q4 + q0)) := ⟨_, rfl⟩
    have F_51 : Fld Z Tg114.heap b9 "ringward/Silence" "deadline" "J" (.long w114_deadline) := by subst hw114_deadline; exact F_50
    have Ng114 := Fr.app Ng105 Ng114q
    refine own_st (fun _ k => stg114.trans k) ?_
    obtain ⟨v117, hv117⟩ : ∃ z : Int64, z = (((if (¬ (v7 = (1 : Int32)) ∧ (¬ (v7 < (1 : Int32)))) then w86_deadline else (q4 + q0))) - q4) := ⟨_, rfl⟩
    refine own_st (B := Tg114.setTop (mkF m 121 #[.val (.long q0), .second, .val (.long q1), .second, .val (.long q2), .second, .val (.long q3), .second, .val (.long q4), .second, .val (.int p5), .val (.int v7), .val (.ref b9), .val (.long w14_lateMillis), .second, .val (.int (own_b (v7 = (2 : Int32)))), .val (.long v94), .second, .val (.int (own_b ((¬ (v7 = (1 : Int32)) ∧ (¬ (v7 < (1 : Int32)))) ∧ (¬ ((q4 - w86_deadline) < (0 : Int64)))))), .val (.long v117), .second, .unset, .unset] [(.int (own_b ((¬ (v7 = (1 : Int32)) ∧ (¬ (v7 < (1 : Int32)))) ∧ (¬ ((q4 - w86_deadline) < (0 : Int64))))))])) (fun target kt => ?_) ?_
    · show Steps p.tables e below (Tg114.setTop (mkF m 117 #[.val (.long q0), .second, .val (.long q1), .second, .val (.long q2), .second, .val (.long q3), .second, .val (.long q4), .second, .val (.int p5), .val (.int v7), .val (.ref b9), .val (.long w14_lateMillis), .second, .val (.int (own_b (v7 = (2 : Int32)))), .val (.long v94), .second, .val (.int (own_b ((¬ (v7 = (1 : Int32)) ∧ (¬ (v7 < (1 : Int32)))) ∧ (¬ ((q4 - w86_deadline) < (0 : Int64)))))), .unset, .unset, .unset, .unset] [(.long (((if (¬ (v7 = (1 : Int32)) ∧ (¬ (v7 < (1 : Int32)))) then w86_deadline else (q4 + q0))) - q4))])) target
      refine XS.lstore Xg114.here hx rfl (hb hby at_117) rfl (l' := #[.val (.long q0), .second, .val (.long q1), .second, .val (.long q2), .second, .val (.long q3), .second, .val (.long q4), .second, .val (.int p5), .val (.int v7), .val (.ref b9), .val (.long w14_lateMillis), .second, .val (.int (own_b (v7 = (2 : Int32)))), .val (.long v94), .second, .val (.int (own_b ((¬ (v7 = (1 : Int32)) ∧ (¬ (v7 < (1 : Int32)))) ∧ (¬ ((q4 - w86_deadline) < (0 : Int64)))))), .val (.long v117), .second, .unset, .unset]) (by subst hv117; rfl) ?_
      show Steps p.tables e below (Tg114.setTop (mkF m 119 #[.val (.long q0), .second, .val (.long q1), .second, .val (.long q2), .second, .val (.long q3), .second, .val (.long q4), .second, .val (.int p5), .val (.int v7), .val (.ref b9), .val (.long w14_lateMillis), .second, .val (.int (own_b (v7 = (2 : Int32)))), .val (.long v94), .second, .val (.int (own_b ((¬ (v7 = (1 : Int32)) ∧ (¬ (v7 < (1 : Int32)))) ∧ (¬ ((q4 - w86_deadline) < (0 : Int64)))))), .val (.long v117), .second, .unset, .unset] [])) target
      refine XS.iload Xg114.here hx rfl (hb hby at_119) rfl ?_
      exact kt
    have c121 : ¬ ((¬ (v7 = (1 : Int32)) ∧ (¬ (v7 < (1 : Int32)))) ∧ (¬ ((q4 - w86_deadline) < (0 : Int64)))) := by
      have hN : ¬ (¬ (v7 = (1 : Int32)) ∧ (¬ (v7 < (1 : Int32)))) := by
        rcases own_three p5 v7 hv7 with h | h | h
        · rw [h]; decide
        · rw [h]; decide
        · exact absurd h c98
      exact fun h => hN h.1
    refine own_st (B := Tg114.setTop (mkF m 128 #[.val (.long q0), .second, .val (.long q1), .second, .val (.long q2), .second, .val (.long q3), .second, .val (.long q4), .second, .val (.int p5), .val (.int v7), .val (.ref b9), .val (.long w14_lateMillis), .second, .val (.int (own_b (v7 = (2 : Int32)))), .val (.long v94), .second, .val (.int (own_b ((¬ (v7 = (1 : Int32)) ∧ (¬ (v7 < (1 : Int32)))) ∧ (¬ ((q4 - w86_deadline) < (0 : Int64)))))), .val (.long v117), .second, .unset, .unset] [(.int (lcmpW v117 q0))])) (fun target kt => ?_) ?_
    · show Steps p.tables e below (Tg114.setTop (mkF m 121 #[.val (.long q0), .second, .val (.long q1), .second, .val (.long q2), .second, .val (.long q3), .second, .val (.long q4), .second, .val (.int p5), .val (.int v7), .val (.ref b9), .val (.long w14_lateMillis), .second, .val (.int (own_b (v7 = (2 : Int32)))), .val (.long v94), .second, .val (.int (own_b ((¬ (v7 = (1 : Int32)) ∧ (¬ (v7 < (1 : Int32)))) ∧ (¬ ((q4 - w86_deadline) < (0 : Int64)))))), .val (.long v117), .second, .unset, .unset] [(.int (own_b ((¬ (v7 = (1 : Int32)) ∧ (¬ (v7 < (1 : Int32)))) ∧ (¬ ((q4 - w86_deadline) < (0 : Int64))))))])) target
      refine XS.ifNo Xg114.here hx rfl (hb hby at_121) rfl ((if0 _ _).trans (teq (own_b00 rfl c121)).2) ?_
      show Steps p.tables e below (Tg114.setTop (mkF m 124 #[.val (.long q0), .second, .val (.long q1), .second, .val (.long q2), .second, .val (.long q3), .second, .val (.long q4), .second, .val (.int p5), .val (.int v7), .val (.ref b9), .val (.long w14_lateMillis), .second, .val (.int (own_b (v7 = (2 : Int32)))), .val (.long v94), .second, .val (.int (own_b ((¬ (v7 = (1 : Int32)) ∧ (¬ (v7 < (1 : Int32)))) ∧ (¬ ((q4 - w86_deadline) < (0 : Int64)))))), .val (.long v117), .second, .unset, .unset] [])) target
      refine XS.lload Xg114.here hx rfl (hb hby at_124) rfl ?_
      show Steps p.tables e below (Tg114.setTop (mkF m 126 #[.val (.long q0), .second, .val (.long q1), .second, .val (.long q2), .second, .val (.long q3), .second, .val (.long q4), .second, .val (.int p5), .val (.int v7), .val (.ref b9), .val (.long w14_lateMillis), .second, .val (.int (own_b (v7 = (2 : Int32)))), .val (.long v94), .second, .val (.int (own_b ((¬ (v7 = (1 : Int32)) ∧ (¬ (v7 < (1 : Int32)))) ∧ (¬ ((q4 - w86_deadline) < (0 : Int64)))))), .val (.long v117), .second, .unset, .unset] [(.long v117)])) target
      refine XS.lloadN Xg114.here hx rfl (hb hby at_126) rfl ?_
      show Steps p.tables e below (Tg114.setTop (mkF m 127 #[.val (.long q0), .second, .val (.long q1), .second, .val (.long q2), .second, .val (.long q3), .second, .val (.long q4), .second, .val (.int p5), .val (.int v7), .val (.ref b9), .val (.long w14_lateMillis), .second, .val (.int (own_b (v7 = (2 : Int32)))), .val (.long v94), .second, .val (.int (own_b ((¬ (v7 = (1 : Int32)) ∧ (¬ (v7 < (1 : Int32)))) ∧ (¬ ((q4 - w86_deadline) < (0 : Int64)))))), .val (.long v117), .second, .unset, .unset] [(.long q0), (.long v117)])) target
      refine XS.lcmp Xg114.here hx rfl (hb hby at_127) rfl ?_
      exact kt
    have c128 : v117 = q0 := by
      have hN : ¬ (¬ (v7 = (1 : Int32)) ∧ (¬ (v7 < (1 : Int32)))) := by
        rcases own_three p5 v7 hv7 with h | h | h
        · rw [h]; decide
        · rw [h]; decide
        · exact absurd h c98
      rw [hv117, if_neg hN]
      exact own_l1 q4 q0
    refine own_st (B := Tg114.setTop (mkF m 136 #[.val (.long q0), .second, .val (.long q1), .second, .val (.long q2), .second, .val (.long q3), .second, .val (.long q4), .second, .val (.int p5), .val (.int v7), .val (.ref b9), .val (.long w14_lateMillis), .second, .val (.int (own_b (v7 = (2 : Int32)))), .val (.long v94), .second, .val (.int (own_b ((¬ (v7 = (1 : Int32)) ∧ (¬ (v7 < (1 : Int32)))) ∧ (¬ ((q4 - w86_deadline) < (0 : Int64)))))), .val (.long v117), .second, .unset, .unset] [(.int (1 : Int32))])) (fun target kt => ?_) ?_
    · show Steps p.tables e below (Tg114.setTop (mkF m 128 #[.val (.long q0), .second, .val (.long q1), .second, .val (.long q2), .second, .val (.long q3), .second, .val (.long q4), .second, .val (.int p5), .val (.int v7), .val (.ref b9), .val (.long w14_lateMillis), .second, .val (.int (own_b (v7 = (2 : Int32)))), .val (.long v94), .second, .val (.int (own_b ((¬ (v7 = (1 : Int32)) ∧ (¬ (v7 < (1 : Int32)))) ∧ (¬ ((q4 - w86_deadline) < (0 : Int64)))))), .val (.long v117), .second, .unset, .unset] [(.int (lcmpW v117 q0))])) target
      refine XS.ifNo Xg114.here hx rfl (hb hby at_128) rfl ((if0 _ _).trans (teq ((lw_eq v117 q0).mpr c128)).2) ?_
      show Steps p.tables e below (Tg114.setTop (mkF m 131 #[.val (.long q0), .second, .val (.long q1), .second, .val (.long q2), .second, .val (.long q3), .second, .val (.long q4), .second, .val (.int p5), .val (.int v7), .val (.ref b9), .val (.long w14_lateMillis), .second, .val (.int (own_b (v7 = (2 : Int32)))), .val (.long v94), .second, .val (.int (own_b ((¬ (v7 = (1 : Int32)) ∧ (¬ (v7 < (1 : Int32)))) ∧ (¬ ((q4 - w86_deadline) < (0 : Int64)))))), .val (.long v117), .second, .unset, .unset] [])) target
      refine XS.iconst Xg114.here hx rfl (hb hby at_131) ?_
      show Steps p.tables e below (Tg114.setTop (mkF m 132 #[.val (.long q0), .second, .val (.long q1), .second, .val (.long q2), .second, .val (.long q3), .second, .val (.long q4), .second, .val (.int p5), .val (.int v7), .val (.ref b9), .val (.long w14_lateMillis), .second, .val (.int (own_b (v7 = (2 : Int32)))), .val (.long v94), .second, .val (.int (own_b ((¬ (v7 = (1 : Int32)) ∧ (¬ (v7 < (1 : Int32)))) ∧ (¬ ((q4 - w86_deadline) < (0 : Int64)))))), .val (.long v117), .second, .unset, .unset] [(.int (1 : Int32))])) target
      refine XS.goto Xg114.here hx rfl (pc0 := 132) (pc' := 136) rfl (hb hby at_132) (by decide) (by decide) ?_
      exact kt
    obtain ⟨fs, hr, hrun, hended, hW, hsame⟩ := Xg114.leave (v := some (.int (1 : Int32))) (fun h => by rw [Bd.returns] at h; cases h)
    have hend : Steps p.tables e below (Tg114.setTop (mkF m 136 #[.val (.long q0), .second, .val (.long q1), .second, .val (.long q2), .second, .val (.long q3), .second, .val (.long q4), .second, .val (.int p5), .val (.int v7), .val (.ref b9), .val (.long w14_lateMillis), .second, .val (.int (own_b (v7 = (2 : Int32)))), .val (.long v94), .second, .val (.int (own_b ((¬ (v7 = (1 : Int32)) ∧ (¬ (v7 < (1 : Int32)))) ∧ (¬ ((q4 - w86_deadline) < (0 : Int64)))))), .val (.long v117), .second, .unset, .unset] [(.int (1 : Int32))])) (Tg114.setFrames fs) := by
      exact retN Xg114 hx (t := .boolean) Bd.returns (by simp) (hb hby at_136) hr
    refine own_fin hend ⟨_, hrun, hended, _, _, rfl, ?_, ⟨_, rfl⟩, hW, hsame.mono (by decide) (by decide)⟩
    show own_Q0 Z q0 q1 q2 q3 q4 p5 h0 n0 _ Tg114.heap _
    exact ⟨rfl, Ng114⟩
set_option maxRecDepth 65536 in
set_option maxHeartbeats 40000000 in
theorem own_comes_1 {Post : Tables → Env → Array Value → State → Outcome → State → Prop} (hpost : ∀ tb e args s v u, (limb_1_1.after args s (.returned v) u = true ∧ limb_1_2.after args s (.returned v) u = true ∧ True) → FrameEnd s (.returned v) u (Jvm.fieldLocs frame_1_writes args s ++ Jvm.arrayLocs frame_1_arrays args s ++ Jvm.staticLocs frame_1_statics s) 16 128 → Post tb e args s (.returned v) u) :
    ArmFor flags0 classFile x code maxLocals ret World_1 tables_1 room_1 Calls_1 rest_1 Pre_1 Post := by
  intro l hfl _ _ p e ha hc hk s m args below hf hA hF happ hP
  obtain ⟨hcalls, hrest, hpre⟩ := hP
  obtain ⟨-, -, -, hnamed, -, -, -, hat⟩ := (Spec.applies_iff hf).mp happ
  obtain ⟨hg, hn⟩ := and_e (Cond.before_iff.mp (show (Jvm.Cond.and given_1 narrow_1).before args s = true from hpre))
  obtain ⟨g1, g2⟩ := and_e hg
  obtain ⟨g3, g4⟩ := and_e g2
  obtain ⟨g5, g6⟩ := and_e g4
  obtain ⟨g7, g8⟩ := and_e g6
  obtain ⟨g9, g10⟩ := and_e g8
  obtain ⟨g11, g12⟩ := and_e g10
  obtain ⟨w0, w1, w2, w3, w4, w5, rfl⟩ : ∃ w0 w1 w2 w3 w4 w5 : Value, args = #[w0, w1, w2, w3, w4, w5] := by
    have hs : args.size = 6 := by simpa [Cond.value, given_1] using g1
    obtain ⟨L⟩ := args
    match L, hs with
    | [w0, w1, w2, w3, w4, w5], _ => exact ⟨w0, w1, w2, w3, w4, w5, rfl⟩
  have hw := fun d (hd : d ∈ tables_1) => atoms_spec (ws := Jvm.Cond.code x code maxLocals ret :: tables_1) hat d (List.mem_cons_of_mem _ hd)
  obtain ⟨i0, ei0⟩ := isL_v g3
  obtain rfl : w0 = (.long i0) := Option.some.inj ei0
  obtain ⟨i1, ei1⟩ := isL_v g5
  obtain rfl : w1 = (.long i1) := Option.some.inj ei1
  obtain ⟨i2, ei2⟩ := isL_v g7
  obtain rfl : w2 = (.long i2) := Option.some.inj ei2
  obtain ⟨i3, ei3⟩ := isL_v g9
  obtain rfl : w3 = (.long i3) := Option.some.inj ei3
  obtain ⟨i4, ei4⟩ := isL_v g11
  obtain rfl : w4 = (.long i4) := Option.some.inj ei4
  obtain ⟨i5, ei5⟩ := is_v g12
  obtain rfl : w5 = (.int i5) := Option.some.inj ei5
  obtain ⟨n, o, h1, h2, h3, _, L, rfl, ⟨rfl, N⟩, hq⟩ := own_rm0 l s _ hw tables_1 i0 i1 i2 i3 i4 i5 s.heap s.heap.size (Nat.le_refl _) p e ha hc hk s m _ below hf ((Spec.applies_iff_loose hf).mp happ).1 ⟨rfl, State.Warmed39.refl s, rfl⟩ trivial
  refine ⟨n, _, h1, h2, h3, hpost _ _ _ _ _ _ ⟨Cond.after_iff.mpr rfl, Cond.after_iff.mpr (eq_i res_at (Term.int_eval (1)) rfl), trivial⟩ ⟨hq.1, hq.2.1, (hq.2.2.sift fun y hy => Or.inr (N y hy)).mono (by decide) (by decide)⟩⟩
theorem main_1_1 : Claimed_1_1 := own_comes_1 fun _ _ _ _ _ _ h hF => ⟨h.1, hF⟩
theorem main_1_2 : Claimed_1_2 := own_comes_1 fun _ _ _ _ _ _ h hF => ⟨h.2.1, hF⟩
end Jvm.Pilot.@@N@@
namespace Jvm.Pilot.@@N@@
open Jvm Jvm.ClassFile Sem Op Lib Jvm.Free Jvm.Stand Jvm.Pilot.@@N@@.Jvm.D
/-! MADE BY PROGRAM (witnessworld.py) out of the Statement's table words and the real class files: 10 classes; the members and pool entries that the words name. The judged class is class 1, her method 1. -/
namespace start1
open Jvm.ClassFile
def u (s : String) : CpInfo := .utf8 (stringToUtf16 s)
/-- a pool by its gaps: so many unusable entries, then the entry; so many at the end -/
def gap : Nat → List CpInfo → List CpInfo
  | 0, r => r
  | n + 1, r => .unusable :: gap n r
def poolList (es : List (Nat × CpInfo)) (last : Nat) : List CpInfo := es.foldr (fun e r => gap e.1 (e.2 :: r)) (gap last [])
def pool (es : List (Nat × CpInfo)) (last : Nat) : Array CpInfo := ⟨poolList es last⟩
def fileOf (pool : Array CpInfo) (this : Nat) (attrs : Array Attribute := #[]) (ms : Array MethodInfo := #[]) (fl : Nat := 33) (sup : Nat := 0) (ifs : Array Nat := #[]) (fds : Array FieldInfo := #[]) : ClassFile where
  minorVersion := 0
  majorVersion := 65
  constantPool := pool
  accessFlags := fl
  thisClass := this
  superClass := sup
  interfaces := ifs
  fields := fds
  methods := ms
  attributes := attrs
def plain (name : String) (sup : Option ClassId) : Class where
  name := name
  kind := .ordinary
  loader := none
  accessFlags := 33
  super := sup
  interfaces := #[]
  cf := none
  fields := #[]
  methods := #[]
  instanceTypes := #[]
  staticTypes := #[]
  resolved := #[]
  callSites := []
  init := .initialized
  statics := none
  mirror := none

def pool0 : Array CpInfo := pool [(5, u "<init>"), (0, u "()V"), (1, .class_ 10), (1, u "java/lang/Object")] 113

def k0c0 : Code := { maxStack := 0, maxLocals := 1, code := object_method_1_code, exceptionTable := #[], attributes := #[] }
def k0m0 : Method := { name := "<init>", desc := "()V", sig := { parameters := [], returnType := none }, accessFlags := 1, code := some k0c0 }
/-- java/lang/Object -/
def k0 : Class := { plain "java/lang/Object" none with
  accessFlags := 33
  interfaces := #[]
  cf := some (fileOf pool0 8 #[] #[{ accessFlags := 1, nameIndex := 5, descriptorIndex := 6, attributes := #[] }] 33 0 #[] #[])
  fields := #[]
  methods := #[k0m0]
  instanceTypes := #[]
  staticTypes := #[]
  resolved := Array.replicate 124 none
  statics := none }

def pool1 : Array CpInfo := pool [(2, .class_ 4), (1, u "java/lang/Object"), (0, u "<init>"), (0, u "()V"), (0, .integer 2147483647), (0, .class_ 9), (0, u "ringward/Silence"), (0, .methodref 8 11), (0, .nameAndType 5 12), (0, u "(J)V"), (0, .methodref 8 14), (0, .nameAndType 15 16), (0, u "lateMillis"), (0, u "()J"), (0, .long 20), (1, .methodref 20 21), (0, .class_ 22), (0, .nameAndType 23 24), (0, u "java/lang/Math"), (0, u "max"), (0, u "(JJ)J"), (0, .methodref 8 26), (0, .nameAndType 27 28), (0, u "pinged"), (0, u "(J)J"), (0, .methodref 8 30), (0, .nameAndType 31 6), (0, u "answered"), (0, .methodref 8 33), (0, .nameAndType 34 35), (0, u "ticked"), (0, u "(JJ)V"), (0, .methodref 8 37), (0, .nameAndType 38 39), (0, u "isOver"), (0, u "(J)Z"), (0, .class_ 41), (0, u "ringward/SilenceTickedPinLaw"), (2, u "law"), (0, u "(JJJJJI)Z")] 3

def k1m0 : Method := { name := "<init>", desc := "()V", sig := { parameters := [], returnType := none }, accessFlags := 1, code := none }
def k1c1 : Code := { maxStack := 8, maxLocals := 23, code := code, exceptionTable := #[], attributes := #[] }
def k1m1 : Method := { name := "law", desc := "(JJJJJI)Z", sig := { parameters := [.long, .long, .long, .long, .long, .int], returnType := some .boolean }, accessFlags := 9, code := some k1c1 }
/-- ringward/SilenceTickedPinLaw -/
def k1 : Class := { plain "ringward/SilenceTickedPinLaw" (some 0) with
  accessFlags := 49
  interfaces := #[]
  cf := some (fileOf pool1 40 #[] #[{ accessFlags := 1, nameIndex := 5, descriptorIndex := 6, attributes := #[] }, { accessFlags := 9, nameIndex := 44, descriptorIndex := 45, attributes := #[] }] 49 2 #[] #[])
  fields := #[]
  methods := #[k1m0, k1m1]
  instanceTypes := #[]
  staticTypes := #[]
  resolved := Array.replicate 49 none
  statics := none }

def pool2 : Array CpInfo := pool [(1, .methodref 2 3), (0, .class_ 4), (0, .nameAndType 5 6), (0, u "java/lang/Object"), (0, u "<init>"), (0, u "()V"), (0, .fieldref 8 9), (0, .class_ 10), (0, .nameAndType 11 12), (0, u "ringward/Silence"), (0, u "timeoutMillis"), (0, u "J"), (0, .long 40), (1, .methodref 16 17), (0, .class_ 18), (0, .nameAndType 19 20), (0, u "java/lang/Math"), (0, u "max"), (0, u "(JJ)J"), (0, .fieldref 8 22), (0, .nameAndType 23 12), (0, u "intervalMillis"), (0, .long 20), (1, .fieldref 8 27), (0, .nameAndType 28 12), (0, u "lateMillis"), (0, .fieldref 8 30), (0, .nameAndType 31 32), (0, u "asking"), (0, u "Z"), (0, .fieldref 8 34), (0, .nameAndType 35 12), (0, u "deadline"), (0, u "PINGS_PER_TIMEOUT"), (0, u "I"), (2, u "LATE_PER_TIMEOUT"), (1, u "(J)V"), (2, u "()J"), (0, u "answered"), (0, u "ticked"), (0, u "(JJ)V"), (1, u "isOver"), (0, u "(J)Z"), (0, u "pinged"), (0, u "(J)J")] 2

def k2c0 : Code := { maxStack := 7, maxLocals := 3, code := prog_75_method_1_code, exceptionTable := #[], attributes := #[] }
def k2m0 : Method := { name := "<init>", desc := "(J)V", sig := { parameters := [.long], returnType := none }, accessFlags := 0, code := some k2c0 }
def k2c1 : Code := { maxStack := 2, maxLocals := 1, code := prog_75_method_3_code, exceptionTable := #[], attributes := #[] }
def k2m1 : Method := { name := "lateMillis", desc := "()J", sig := { parameters := [], returnType := some .long }, accessFlags := 0, code := some k2c1 }
def k2c2 : Code := { maxStack := 2, maxLocals := 1, code := prog_75_method_4_code, exceptionTable := #[], attributes := #[] }
def k2m2 : Method := { name := "answered", desc := "()V", sig := { parameters := [], returnType := none }, accessFlags := 0, code := some k2c2 }
def k2c3 : Code := { maxStack := 5, maxLocals := 7, code := prog_75_method_5_code, exceptionTable := #[], attributes := #[] }
def k2m3 : Method := { name := "ticked", desc := "(JJ)V", sig := { parameters := [.long, .long], returnType := none }, accessFlags := 0, code := some k2c3 }
def k2c4 : Code := { maxStack := 4, maxLocals := 3, code := prog_75_method_6_code, exceptionTable := #[], attributes := #[] }
def k2m4 : Method := { name := "isOver", desc := "(J)Z", sig := { parameters := [.long], returnType := some .boolean }, accessFlags := 0, code := some k2c4 }
def k2c5 : Code := { maxStack := 5, maxLocals := 3, code := prog_75_method_7_code, exceptionTable := #[], attributes := #[] }
def k2m5 : Method := { name := "pinged", desc := "(J)J", sig := { parameters := [.long], returnType := some .long }, accessFlags := 0, code := some k2c5 }
/-- ringward/Silence -/
def k2 : Class := { plain "ringward/Silence" (some 0) with
  accessFlags := 48
  interfaces := #[]
  cf := some (fileOf pool2 8 #[] #[{ accessFlags := 0, nameIndex := 5, descriptorIndex := 42, attributes := #[] }, { accessFlags := 0, nameIndex := 28, descriptorIndex := 45, attributes := #[] }, { accessFlags := 0, nameIndex := 46, descriptorIndex := 6, attributes := #[] }, { accessFlags := 0, nameIndex := 47, descriptorIndex := 48, attributes := #[] }, { accessFlags := 0, nameIndex := 50, descriptorIndex := 51, attributes := #[] }, { accessFlags := 0, nameIndex := 52, descriptorIndex := 53, attributes := #[] }] 48 2 #[] #[{ accessFlags := 24, nameIndex := 36, descriptorIndex := 37, attributes := #[] }, { accessFlags := 26, nameIndex := 40, descriptorIndex := 37, attributes := #[] }, { accessFlags := 18, nameIndex := 11, descriptorIndex := 12, attributes := #[] }, { accessFlags := 18, nameIndex := 23, descriptorIndex := 12, attributes := #[] }, { accessFlags := 18, nameIndex := 28, descriptorIndex := 12, attributes := #[] }, { accessFlags := 2, nameIndex := 31, descriptorIndex := 32, attributes := #[] }, { accessFlags := 2, nameIndex := 35, descriptorIndex := 12, attributes := #[] }])
  fields := #[{ name := "PINGS_PER_TIMEOUT", type := .int, accessFlags := 24, slot := 0, constantValue := 0 }, { name := "LATE_PER_TIMEOUT", type := .int, accessFlags := 26, slot := 1, constantValue := 0 }, { name := "timeoutMillis", type := .long, accessFlags := 18, slot := 0, constantValue := 0 }, { name := "intervalMillis", type := .long, accessFlags := 18, slot := 1, constantValue := 0 }, { name := "lateMillis", type := .long, accessFlags := 18, slot := 2, constantValue := 0 }, { name := "asking", type := .boolean, accessFlags := 2, slot := 3, constantValue := 0 }, { name := "deadline", type := .long, accessFlags := 2, slot := 4, constantValue := 0 }]
  methods := #[k2m0, k2m1, k2m2, k2m3, k2m4, k2m5]
  instanceTypes := #[.long, .long, .long, .boolean, .long]
  staticTypes := #[.int, .int]
  resolved := Array.replicate 56 none
  statics := none }

def pool3 : Array CpInfo := pool [(1, .class_ 2), (0, u "java/lang/Math"), (1, .class_ 6), (1, u "java/lang/Object"), (0, u "<init>"), (0, u "()V"), (89, .class_ 100), (1, u "java/lang/Math$RandomNumberGeneratorHolder"), (20, u "(JJ)J"), (50, u "negativeZeroFloatBits"), (0, u "J"), (2, u "negativeZeroDoubleBits"), (21, u "max"), (46, u "$assertionsDisabled"), (0, u "Z"), (91, u "twoToTheDoubleScaleDown"), (0, u "D"), (4, u "twoToTheDoubleScaleUp"), (9, u "E"), (3, u "PI"), (2, u "TAU"), (2, u "DEGREES_TO_RADIANS"), (0, u "RADIANS_TO_DEGREES")] 94

def k3m0 : Method := { name := "<init>", desc := "()V", sig := { parameters := [], returnType := none }, accessFlags := 2, code := none }
def k3c1 : Code := { maxStack := 4, maxLocals := 4, code := jdk_29_method_66_code, exceptionTable := #[], attributes := #[] }
def k3m1 : Method := { name := "max", desc := "(JJ)J", sig := { parameters := [.long, .long], returnType := some .long }, accessFlags := 9, code := some k3c1 }
/-- java/lang/Math -/
def k3 : Class := { plain "java/lang/Math" (some 0) with
  accessFlags := 49
  interfaces := #[]
  cf := some (fileOf pool3 1 #[.nestMembers #[98]] #[{ accessFlags := 2, nameIndex := 7, descriptorIndex := 8, attributes := #[] }, { accessFlags := 9, nameIndex := 198, descriptorIndex := 121, attributes := #[] }] 49 4 #[] #[{ accessFlags := 25, nameIndex := 354, descriptorIndex := 339, attributes := #[] }, { accessFlags := 25, nameIndex := 358, descriptorIndex := 339, attributes := #[] }, { accessFlags := 25, nameIndex := 361, descriptorIndex := 339, attributes := #[] }, { accessFlags := 26, nameIndex := 364, descriptorIndex := 339, attributes := #[] }, { accessFlags := 26, nameIndex := 365, descriptorIndex := 339, attributes := #[] }, { accessFlags := 26, nameIndex := 172, descriptorIndex := 173, attributes := #[] }, { accessFlags := 26, nameIndex := 176, descriptorIndex := 173, attributes := #[] }, { accessFlags := 8, nameIndex := 344, descriptorIndex := 339, attributes := #[] }, { accessFlags := 8, nameIndex := 338, descriptorIndex := 339, attributes := #[] }, { accessFlags := 4120, nameIndex := 245, descriptorIndex := 246, attributes := #[] }])
  fields := #[{ name := "E", type := .double, accessFlags := 25, slot := 0, constantValue := 0 }, { name := "PI", type := .double, accessFlags := 25, slot := 1, constantValue := 0 }, { name := "TAU", type := .double, accessFlags := 25, slot := 2, constantValue := 0 }, { name := "DEGREES_TO_RADIANS", type := .double, accessFlags := 26, slot := 3, constantValue := 0 }, { name := "RADIANS_TO_DEGREES", type := .double, accessFlags := 26, slot := 4, constantValue := 0 }, { name := "negativeZeroFloatBits", type := .long, accessFlags := 26, slot := 5, constantValue := 0 }, { name := "negativeZeroDoubleBits", type := .long, accessFlags := 26, slot := 6, constantValue := 0 }, { name := "twoToTheDoubleScaleUp", type := .double, accessFlags := 8, slot := 7, constantValue := 0 }, { name := "twoToTheDoubleScaleDown", type := .double, accessFlags := 8, slot := 8, constantValue := 0 }, { name := "$assertionsDisabled", type := .boolean, accessFlags := 4120, slot := 9, constantValue := 0 }]
  methods := #[k3m0, k3m1]
  instanceTypes := #[]
  staticTypes := #[.double, .double, .double, .double, .double, .long, .long, .double, .double, .boolean]
  resolved := Array.replicate 460 none
  statics := none }

def pool4 : Array CpInfo := pool [(1, u "java/lang/Cloneable"), (0, .class_ 1), (0, u "java/lang/Object"), (0, .class_ 3)] 3

/-- java/lang/Cloneable -/
def k4 : Class := { plain "java/lang/Cloneable" (some 0) with
  accessFlags := 1537
  interfaces := #[]
  cf := some (fileOf pool4 2 #[] #[] 1537 4 #[] #[])
  fields := #[]
  methods := #[]
  instanceTypes := #[]
  staticTypes := #[]
  resolved := Array.replicate 8 none
  statics := none }

def pool5 : Array CpInfo := pool [(1, u "java/io/Serializable"), (0, .class_ 1), (0, u "java/lang/Object"), (0, .class_ 3)] 3

/-- java/io/Serializable -/
def k5 : Class := { plain "java/io/Serializable" (some 0) with
  accessFlags := 1537
  interfaces := #[]
  cf := some (fileOf pool5 2 #[] #[] 1537 4 #[] #[])
  fields := #[]
  methods := #[]
  instanceTypes := #[]
  staticTypes := #[]
  resolved := Array.replicate 8 none
  statics := none }

/-- the primitive byte -/
def k6 : Class := { plain "byte" none with kind := .primitive 'B', accessFlags := 0x411 }
/-- [B -/
def k7 : Class := { plain "[B" (some 0) with kind := .array 6 .byte, interfaces := #[4, 5], accessFlags := 1041 }

/-- the primitive int -/
def k8 : Class := { plain "int" none with kind := .primitive 'I', accessFlags := 0x411 }
/-- [I -/
def k9 : Class := { plain "[I" (some 0) with kind := .array 8 .int, interfaces := #[4, 5], accessFlags := 1041 }

def heap : Heap := #[]
def classes : Array Class := #[k0, k1, k2, k3, k4, k5, k6, k7, k8, k9]
def interned : List (Array UInt16 × Addr) := []
def slotsUsed : Nat := 0
def theMethod : MethodId := ⟨1, 1⟩
def args0 : Array Value := #[.long 3, .long 4, .long 5, .long 6, .long 7, .int 8]
def aboutOver (below : List Frame) : State where
  vm := { classes := classes, interned := interned.toArray }
  heap := heap
  slotsUsed := slotsUsed
  threads := #[{ frames := .invoking theMethod args0 :: below }]
def below0 : List Frame := [.native { method := ⟨0, 0⟩, args := #[] }]
def about1 : State := aboutOver below0
def p0 : Program := .bare "" "" ""
def e0 : Env := launch0.env 0 0 0
theorem w_frames : about1.frames = Frame.invoking theMethod args0 :: below0 := rfl
set_option maxRecDepth 65536 in
theorem w_args : argsFit about1.vm theMethod args0 = true := by decide +kernel
set_option maxRecDepth 65536 in
theorem w_heap : heapFits about1 = true := by decide +kernel
set_option maxRecDepth 65536 in
theorem w_runnable : about1.curStatus? = some .runnable := by decide +kernel
set_option maxRecDepth 65536 in
theorem w_alone : about1.alone = true := by decide +kernel
set_option maxRecDepth 65536 in
theorem w_named : about1.methodNamed? x = some theMethod := by decide +kernel
set_option maxRecDepth 65536 in
theorem w_hears : about1.hears theMethod below0 = true := by decide +kernel
set_option maxRecDepth 65536 in
theorem w_ripe : about1.ripe theMethod args0 below0 = true := by decide +kernel
theorem w_running : about1.status = .running := rfl
set_option maxRecDepth 65536 in
theorem w_room : about1.hasRoom e0.platform room_1 = true :=
  launch0.hasRoom_least _ room_1 (by decide +kernel) (by decide +kernel) (by decide +kernel) (by decide +kernel) (by decide +kernel) (by decide +kernel)
theorem allAtoms_all (ts : List Jvm.Cond) (a : Array Jvm.Value) (st : Jvm.State) : (allAtoms ts).before a st = ts.all (fun c => c.before a st) := by
  induction ts with
  | nil => rfl
  | cons c t ih =>
    show (Jvm.Cond.and c (allAtoms t)).before a st = _
    rw [Jvm.Cond.before_and, ih, List.all_cons]
def words1 : List Jvm.Cond := Jvm.Cond.code x code maxLocals ret :: tables_1
/-- a 'code' word, met by the world's own term for the bytes: nothing is compared byte by byte -/
theorem code_word {y : MethodName} {bytes : ByteArray} {mx : Nat} {rt : Option FieldType} {a : Array Value} {s : State} {m : MethodId} {meth : Method} {c : Code} (h1 : s.methodNamed? y = some m) (h2 : s.vm.method? m = some meth) (h3 : meth.code = some c) (h4 : c.code = bytes)
    (h5 : (c.maxLocals == mx && c.exceptionTable.isEmpty && decide (c.maxStack ≤ mostOperands) && decide (meth.sig.returnType = rt) && !meth.locks && decide (parseMethodDescriptor y.desc = some meth.sig)) = true) : (Jvm.Cond.code y bytes mx rt).before a s = true := by
  simp only [Bool.and_eq_true, beq_iff_eq, Bool.not_eq_true', decide_eq_true_eq] at h5
  obtain ⟨⟨⟨⟨⟨g1, g2⟩, g3⟩, g4⟩, g5⟩, g6⟩ := h5
  simp [Cond.before, Cond.holds, Cond.value, h1, h2, h3, h4, g1, g2, g3, g4, g5, g6]
def isCode : Jvm.Cond → Bool
  | .code _ _ _ _ => true
  | _ => false
theorem all_split {L : List Jvm.Cond} {P : Jvm.Cond → Bool} (h1 : L.all (fun c => isCode c || P c) = true) (h2 : ∀ c ∈ L.filter isCode, P c = true) : L.all P = true := by
  refine List.all_eq_true.mpr fun c hc => ?_
  have h := List.all_eq_true.mp h1 c hc
  rcases Bool.eq_false_or_eq_true (isCode c) with hi | hi
  · exact h2 c (List.mem_filter.mpr ⟨hc, hi⟩)
  · simpa [hi] using h
set_option maxRecDepth 65536 in
theorem w_c0 : (Jvm.Cond.code x code maxLocals ret).before args0 about1 = true := code_word (m := ⟨1, 1⟩) (meth := k1m1) (c := k1c1) (by decide +kernel) rfl rfl rfl (by decide +kernel)
set_option maxRecDepth 65536 in
theorem w_c1 : (Jvm.Cond.code ({ cls := "ringward/Silence", name := "<init>", desc := "(J)V" } : Jvm.MethodName) prog_75_method_1_code (3 : Nat) (Option.none : Option Jvm.ClassFile.FieldType)).before args0 about1 = true := code_word (m := ⟨2, 0⟩) (meth := k2m0) (c := k2c0) (by decide +kernel) rfl rfl rfl (by decide +kernel)
set_option maxRecDepth 65536 in
theorem w_c2 : (Jvm.Cond.code ({ cls := "java/lang/Object", name := "<init>", desc := "()V" } : Jvm.MethodName) object_method_1_code (1 : Nat) (Option.none : Option Jvm.ClassFile.FieldType)).before args0 about1 = true := code_word (m := ⟨0, 0⟩) (meth := k0m0) (c := k0c0) (by decide +kernel) rfl rfl rfl (by decide +kernel)
set_option maxRecDepth 65536 in
theorem w_c3 : (Jvm.Cond.code ({ cls := "java/lang/Math", name := "max", desc := "(JJ)J" } : Jvm.MethodName) jdk_29_method_66_code (4 : Nat) (Option.some Jvm.ClassFile.FieldType.long)).before args0 about1 = true := code_word (m := ⟨3, 1⟩) (meth := k3m1) (c := k3c1) (by decide +kernel) rfl rfl rfl (by decide +kernel)
set_option maxRecDepth 65536 in
theorem w_c4 : (Jvm.Cond.code ({ cls := "ringward/Silence", name := "lateMillis", desc := "()J" } : Jvm.MethodName) prog_75_method_3_code (1 : Nat) (Option.some Jvm.ClassFile.FieldType.long)).before args0 about1 = true := code_word (m := ⟨2, 1⟩) (meth := k2m1) (c := k2c1) (by decide +kernel) rfl rfl rfl (by decide +kernel)
set_option maxRecDepth 65536 in
theorem w_c5 : (Jvm.Cond.code ({ cls := "ringward/Silence", name := "pinged", desc := "(J)J" } : Jvm.MethodName) prog_75_method_7_code (3 : Nat) (Option.some Jvm.ClassFile.FieldType.long)).before args0 about1 = true := code_word (m := ⟨2, 5⟩) (meth := k2m5) (c := k2c5) (by decide +kernel) rfl rfl rfl (by decide +kernel)
set_option maxRecDepth 65536 in
theorem w_c6 : (Jvm.Cond.code ({ cls := "ringward/Silence", name := "ticked", desc := "(JJ)V" } : Jvm.MethodName) prog_75_method_5_code (7 : Nat) (Option.none : Option Jvm.ClassFile.FieldType)).before args0 about1 = true := code_word (m := ⟨2, 3⟩) (meth := k2m3) (c := k2c3) (by decide +kernel) rfl rfl rfl (by decide +kernel)
set_option maxRecDepth 65536 in
theorem w_c7 : (Jvm.Cond.code ({ cls := "ringward/Silence", name := "isOver", desc := "(J)Z" } : Jvm.MethodName) prog_75_method_6_code (3 : Nat) (Option.some Jvm.ClassFile.FieldType.boolean)).before args0 about1 = true := code_word (m := ⟨2, 4⟩) (meth := k2m4) (c := k2c4) (by decide +kernel) rfl rfl rfl (by decide +kernel)
set_option maxRecDepth 65536 in
theorem w_c8 : (Jvm.Cond.code ({ cls := "ringward/Silence", name := "answered", desc := "()V" } : Jvm.MethodName) prog_75_method_4_code (1 : Nat) (Option.none : Option Jvm.ClassFile.FieldType)).before args0 about1 = true := code_word (m := ⟨2, 2⟩) (meth := k2m2) (c := k2c2) (by decide +kernel) rfl rfl rfl (by decide +kernel)
def codes1 : List Jvm.Cond := [Jvm.Cond.code x code maxLocals ret, Jvm.Cond.code ({ cls := "ringward/Silence", name := "<init>", desc := "(J)V" } : Jvm.MethodName) prog_75_method_1_code (3 : Nat) (Option.none : Option Jvm.ClassFile.FieldType), Jvm.Cond.code ({ cls := "java/lang/Object", name := "<init>", desc := "()V" } : Jvm.MethodName) object_method_1_code (1 : Nat) (Option.none : Option Jvm.ClassFile.FieldType), Jvm.Cond.code ({ cls := "java/lang/Math", name := "max", desc := "(JJ)J" } : Jvm.MethodName) jdk_29_method_66_code (4 : Nat) (Option.some Jvm.ClassFile.FieldType.long), Jvm.Cond.code ({ cls := "ringward/Silence", name := "lateMillis", desc := "()J" } : Jvm.MethodName) prog_75_method_3_code (1 : Nat) (Option.some Jvm.ClassFile.FieldType.long), Jvm.Cond.code ({ cls := "ringward/Silence", name := "pinged", desc := "(J)J" } : Jvm.MethodName) prog_75_method_7_code (3 : Nat) (Option.some Jvm.ClassFile.FieldType.long), Jvm.Cond.code ({ cls := "ringward/Silence", name := "ticked", desc := "(JJ)V" } : Jvm.MethodName) prog_75_method_5_code (7 : Nat) (Option.none : Option Jvm.ClassFile.FieldType), Jvm.Cond.code ({ cls := "ringward/Silence", name := "isOver", desc := "(J)Z" } : Jvm.MethodName) prog_75_method_6_code (3 : Nat) (Option.some Jvm.ClassFile.FieldType.boolean), Jvm.Cond.code ({ cls := "ringward/Silence", name := "answered", desc := "()V" } : Jvm.MethodName) prog_75_method_4_code (1 : Nat) (Option.none : Option Jvm.ClassFile.FieldType)]
set_option maxRecDepth 65536 in
theorem codes_eq : words1.filter isCode = codes1 := rfl
theorem w_codes : ∀ c ∈ words1.filter isCode, c.before args0 about1 = true := by
  rw [codes_eq]
  intro c hc
  simp only [codes1, List.mem_cons, List.not_mem_nil, or_false] at hc
  rcases hc with rfl | rfl | rfl | rfl | rfl | rfl | rfl | rfl | rfl
  · exact w_c0
  · exact w_c1
  · exact w_c2
  · exact w_c3
  · exact w_c4
  · exact w_c5
  · exact w_c6
  · exact w_c7
  · exact w_c8
set_option maxRecDepth 65536 in
theorem w_t1 : (words1.take 24).all (fun c => isCode c || c.before args0 about1) = true := by decide +kernel
set_option maxRecDepth 65536 in
theorem w_t2 : ((words1.drop 24).take 24).all (fun c => isCode c || c.before args0 about1) = true := by decide +kernel
set_option maxRecDepth 65536 in
theorem w_t3 : ((words1.drop 24).drop 24).all (fun c => isCode c || c.before args0 about1) = true := by decide +kernel
theorem w_tables : (allAtoms (Jvm.Cond.code x code maxLocals ret :: tables_1)).before args0 about1 = true := by
  rw [allAtoms_all]
  show words1.all (fun c => c.before args0 about1) = true
  refine all_split ?_ w_codes
  rw [← List.take_append_drop 24 words1, List.all_append, w_t1, ← List.take_append_drop 24 (words1.drop 24), List.all_append, w_t2, w_t3]
  rfl
set_option maxRecDepth 65536 in
theorem w_case : (Jvm.Cond.and given_1 narrow_1).before args0 about1 = true := by decide +kernel
theorem w_applies : (headSpec (Jvm.Cond.code x code maxLocals ret :: tables_1) room_1).applies x e0.platform about1 = true :=
  (Spec.applies_iff w_frames).mpr ⟨w_running, w_runnable, w_alone, w_named, w_hears, w_ripe, w_room, w_tables⟩
theorem atStart : AtStart classFile x code maxLocals ret World_1 tables_1 room_1 Calls_1 rest_1 Pre_1 launch0 p0 e0 about1 theMethod args0 below0 :=
  ⟨lists_1, trivial, launch0.admits_env _ _ _, launch0.least_env, fairChoices_fair.cas, fairChoices_fair.clock, w_frames, w_args, w_heap, w_applies, trivial, trivial, w_case⟩
end start1
theorem witness_1 : WitnessClaimed_1 := ⟨start1.p0, start1.e0, start1.about1, start1.theMethod, start1.args0, start1.below0, start1.atStart⟩
end Jvm.Pilot.@@N@@
