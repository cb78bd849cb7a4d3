import JvmDerived
import JvmDerived.Pilot.@@N@@Statement
import JvmDerived.Pilot.@@N@@Code
set_option linter.unusedVariables false
set_option linter.unusedSimpArgs false
namespace Jvm.RoadKit
open Sem ClassFile Op Lib Jvm.Stand Jvm.Free Jvm.LawKit
section New
variable {p : Program} {l : Launch} {e : Env} {R : Room} {s : State} {m : MethodId} {args : Array Value} {below : List Frame} {meth : Method} {c : Code} {T : State} {locs : List Loc} {cells slots : Nat}
theorem retI (X : Stand p l e R s m args below meth c T locs cells slots) (hx : p.tables.exec = Jvm.exec) {pc : Nat} {Ls : Array Slot} {z : Int32} {rest : List Value} (hret : meth.sig.returnType = some .int) (hd : decode c.code pc = .ok (.ireturn, 1)) {fs : List Frame}
    (hl : ∀ (f : JFrame) (acts : List Action), f.method = m → f.locked = none → f.entered = [] → (doReturn e (T.setTop f) acts (some (.int z))).1 = T.setFrames fs) : Steps p.tables e below (T.setTop (mkF m pc Ls (.int z :: rest))) (T.setFrames fs) := by
  have hm' : T.vm.method? m = some meth := X.method'
  have hn : narrow .int (.int z) = .int z := rfl
  show Steps p.tables e below (T.setTop { method := m, pc := pc, locals := Ls, stack := _ :: rest, locked := none }) _
  jvm_step X.here [X.here.top, hx, hd, hm', hret, hn]
  first | (intro acts; rw [hl _ acts rfl rfl rfl]) | rw [hl _ _ rfl rfl rfl]
  exact Steps.refl _
theorem own_retJ (X : Stand p l e R s m args below meth c T locs cells slots) (hx : p.tables.exec = Jvm.exec) {pc : Nat} {Ls : Array Slot} {z : Int64} {rest : List Value} (hret : meth.sig.returnType = some .long) (hd : decode c.code pc = .ok (.lreturn, 1)) {fs : List Frame}
    (hl : ∀ (f : JFrame) (acts : List Action), f.method = m → f.locked = none → f.entered = [] → (doReturn e (T.setTop f) acts (some (.long z))).1 = T.setFrames fs) : Steps p.tables e below (T.setTop (mkF m pc Ls (.long z :: rest))) (T.setFrames fs) := by
  have hm' : T.vm.method? m = some meth := X.method'
  have hn : narrow .long (.long z) = .long z := rfl
  show Steps p.tables e below (T.setTop { method := m, pc := pc, locals := Ls, stack := _ :: rest, locked := none }) _
  jvm_step X.here [X.here.top, hx, hd, hm', hret, hn]
  first | (intro acts; rw [hl _ acts rfl rfl rfl]) | rw [hl _ _ rfl rfl rfl]
  exact Steps.refl _
end New
/-- from the state A the run comes to a state that P describes -/
def own_Lead (tb : Tables) (e : Env) (below : List Frame) (A : State) (P : State → Prop) : Prop := ∃ B, P B ∧ ∀ t, Steps tb e below B t → Steps tb e below A t
theorem own_st {tb : Tables} {e : Env} {below : List Frame} {A B : State} {P : State → Prop} (st : ∀ t, Steps tb e below B t → Steps tb e below A t) (h : own_Lead tb e below B P) : own_Lead tb e below A P := by
  obtain ⟨C, hp, hs⟩ := h
  exact ⟨C, hp, fun t k => st t (hs t k)⟩
theorem own_fin {tb : Tables} {e : Env} {below : List Frame} {A B : State} {P : State → Prop} (st : Steps tb e below A B) (h : P B) : own_Lead tb e below A P := ⟨B, h, fun t k => st.trans k⟩
theorem own_run {tb : Tables} {e : Env} {below : List Frame} {A : State} {K : State → Outcome → Prop} (h : own_Lead tb e below A (fun B => ∃ o, K B o)) : ∃ s₂ o, Steps tb e below A s₂ ∧ K s₂ o := by
  obtain ⟨B, ⟨o, hk⟩, st⟩ := h
  exact ⟨B, o, st B (Steps.refl _), hk⟩
/-- a boolean as an int -/
def own_b (P : Prop) [Decidable P] : Int32 := if P then 1 else 0
theorem own_b1 {P : Prop} [Decidable P] (h : P) : own_b P = 1 := if_pos h
theorem own_b0 {P : Prop} [Decidable P] (h : ¬ P) : own_b P = 0 := if_neg h
theorem own_bi {P Q : Prop} [Decidable P] [Decidable Q] (h : P ↔ Q) : own_b P = own_b Q := by
  by_cases hp : P
  · rw [own_b1 hp, own_b1 (h.mp hp)]
  · rw [own_b0 hp, own_b0 (fun q => hp (h.mpr q))]
theorem own_bn0 {P : Prop} [Decidable P] {x : Int32} (hx : x = own_b P) (h : P) : ¬ x = 0 := by rw [hx, own_b1 h]; decide
theorem own_b00 {P : Prop} [Decidable P] {x : Int32} (hx : x = own_b P) (h : ¬ P) : x = 0 := by rw [hx, own_b0 h]
theorem own_be1 {P : Prop} [Decidable P] {x : Int32} (hx : x = own_b P) (h : P) : x = 1 := by rw [hx, own_b1 h]
theorem own_bb {P Q : Prop} [Decidable P] [Decidable Q] {x y : Int32} (hx : x = own_b P) (hy : y = own_b Q) (h : P ↔ Q) : x = y := by rw [hx, hy, own_bi h]
theorem own_bnar {P : Prop} [Decidable P] : nar .boolean (own_b P) = own_b P := by
  by_cases hp : P
  · rw [own_b1 hp]; decide
  · rw [own_b0 hp]; decide
theorem own_nar {P : Prop} [Decidable P] {x : Int32} (hx : x = own_b P) : nar .boolean x = own_b P := by rw [hx]; exact own_bnar
theorem own_cast {Z : State} {h : Heap} {a : Addr} {C n d : String} {v w : Value} (e : v = w) (F : Fld Z h a C n d v) : Fld Z h a C n d w := e ▸ F
theorem own_selPriv {Z : State} {a0 : Array Value} {y z : MethodName} {C : String} (hp : (Cond.privateMethod y).before a0 Z = true) (hi : (Cond.instanceMethod y).before a0 Z = true) (hs : (Cond.selects C z z).before a0 Z = true) (hc : z.cls = y.cls)
    (hy : y.cls ≠ "java/lang/invoke/MethodHandle" ∧ y.cls ≠ "java/lang/invoke/VarHandle") : (Cond.selects y.cls y y).before a0 Z = true := by
  obtain ⟨mk, methM, hnamed, hmethM, hstM, habM⟩ := Cond.instanceMethod_spec hi
  obtain ⟨c2, r2, m2, q1, q2, q3, q4, kP, hkP, hkPi⟩ := Cond.selects_spec hs
  have e1 := findClass_of_methodNamed hnamed
  have e2 := findClass_of_methodNamed q3
  rw [hc, e1] at e2
  have e3 : mk.cls = m2.cls := Option.some.inj e2
  have hf := State.methodFound?_of_named hnamed hy
  have hpm := Cond.privateMethod_at hp mk methM hnamed hmethM
  simp [Cond.before, Cond.holds, Cond.value, e1, hf, hnamed, selectMethod_private hmethM hpm, e3, hkP, hkPi]
/-- the array at a has n places, the i-th holds g i -/
def own_RayB (Z : State) (h : Heap) (a : Addr) (n : Nat) (g : Nat → Int32) : Prop := ∃ c : Cell, Arr Z h a c .byte ∧ c.slots.size = n ∧ ∀ i, i < n → c.slots[i]? = some (Value.int (g i)) ∧ fits .byte (.int (g i)) = true
theorem own_RayB.ext {Z : State} {h h' : Heap} {a : Addr} {n : Nat} {g : Nat → Int32} (F : own_RayB Z h a n g) (E : Ext h h') : own_RayB Z h' a n g := by obtain ⟨c, A, r⟩ := F; exact ⟨c, A.ext E, r⟩
theorem own_RayB.other {Z : State} {h h' : Heap} {a b : Addr} {n sl : Nat} {v : Value} {g : Nat → Int32} (F : own_RayB Z h b n g) (W : Wr h h' a sl v) (q : b ≠ a) : own_RayB Z h' b n g := by obtain ⟨c, A, r⟩ := F; exact ⟨c, A.other W q, r⟩
theorem own_RayB.keep {Z : State} {h h' : Heap} {a : Addr} {n : Nat} {ws : List Addr} {g : Nat → Int32} (F : own_RayB Z h a n g) (K : Keep h h' ws) (q : a ∉ ws) : own_RayB Z h' a n g := by obtain ⟨c, A, r⟩ := F; exact ⟨c, ⟨K.2.1 a c A.1 q, A.2⟩, r⟩
theorem own_RayB.lt {Z : State} {h : Heap} {a : Addr} {n : Nat} {g : Nat → Int32} (F : own_RayB Z h a n g) : a < h.size := by obtain ⟨c, A, r⟩ := F; exact A.lt
theorem own_RayB.cast {Z : State} {h : Heap} {a : Addr} {n : Nat} {g g' : Nat → Int32} (e : g = g') (F : own_RayB Z h a n g) : own_RayB Z h a n g' := e ▸ F
theorem own_RayB_new {Z : State} {h : Heap} {a : Addr} {k : ClassId} {z : Int32} {n : Nat} (A : Arr Z h a (newA k .byte z) .byte) (q : ¬ z < 0) (e : z.toNatClampNeg = n) : own_RayB Z h a n (fun _ => (0 : Int32)) := by
  obtain ⟨c, A', -, S, -, H, -⟩ := Arv.new A q
  refine ⟨c, A', S.trans e, fun i hi => ?_⟩
  have := H i (by rw [S, e]; exact hi)
  exact ⟨by first | exact this | simpa [defaultValue] using this, rfl⟩
theorem own_RayB_set {Z : State} {h h' : Heap} {a : Addr} {n k : Nat} {g : Nat → Int32} {j : Int32} {v : Int32} (F : own_RayB Z h a n g) (W : Wr h h' a j.toNatClampNeg (Value.int v)) (e : j.toNatClampNeg = k) (hv : fits .byte (.int v) = true) : own_RayB Z h' a n (fun i => if i = k then v else g i) := by
  obtain ⟨c, A, S, H⟩ := F
  refine ⟨_, A.same W, by first | exact (sz_set _ _ _).trans S | simp [Cell.setSlot, S], fun i hi => ?_⟩
  show (c.slots.setIfInBounds j.toNatClampNeg (Value.int v))[i]? = _ ∧ fits .byte (.int (if i = k then v else g i)) = true
  rw [Array.getElem?_setIfInBounds, e]
  by_cases hk : k = i
  · subst hk
    simp [S, hi, hv]
  · have := H i hi
    simp [hk, Ne.symm hk, this]
theorem own_RayB_nth {c : Cell} {n : Nat} {g : Nat → Int32} {j : Int32} (H : ∀ i, i < n → c.slots[i]? = some (Value.int (g i)) ∧ fits .byte (.int (g i)) = true) (S : c.slots.size = n) (hin : ¬ (j < 0 ∨ c.slots.size ≤ j.toNatClampNeg)) : c.slots[j.toNatClampNeg]? = some (Value.int (g j.toNatClampNeg)) :=
  (H _ (S ▸ Nat.lt_of_not_le fun q => hin (Or.inr q))).1
section Copy
variable {p : Program} {l : Launch} {e : Env} {R : Room} {s : State} {m : MethodId} {args : Array Value} {below : List Frame} {meth : Method} {c : Code} {T : State} {locs : List Loc} {cells slots : Nat} {Z : State} {h : Heap} {a b : Addr}
end Copy
theorem own_inb {c : Cell} {n : Nat} {j : Int32} (S : c.slots.size = n) (q : ¬ j < 0 ∧ j.toNatClampNeg < n) : ¬ (j < 0 ∨ c.slots.size ≤ j.toNatClampNeg) := fun w => w.elim q.1 fun z => absurd q.2 (Nat.not_lt.mpr (S ▸ z))
section Cold
variable {p : Program} {l : Launch} {e : Env} {R : Room} {s : State} {vm0 : Vm} {m : MethodId} {args : Array Value} {below : List Frame} {meth : Method} {c : Code} {T : State} {locs : List Loc} {cells slots : Nat} {Z : State} {a0 : Array Value} {h : Heap}
end Cold
end Jvm.RoadKit
namespace Jvm.Pilot.@@N@@
open Jvm Jvm.ClassFile Sem Op Lib Jvm.Free Jvm.Stand Jvm.LawKit Jvm.RoadKit Bundle Jvm.Pilot.@@N@@.Jvm.D
theorem own_pn0 : plainName "com/example/wireform/wireform/wire/Nesting" = true := by first | (simp [plainName, overriddenIn]; done) | decide +kernel
theorem own_d1_0 : decode prog_67_method_1_code 0 = .ok (.aload_n 0, 1) := by decide +kernel
theorem own_d1_1 : decode prog_67_method_1_code 1 = .ok (.invokespecial 1, 3) := by decide +kernel
theorem own_d1_4 : decode prog_67_method_1_code 4 = .ok (.iload_n 1, 1) := by decide +kernel
theorem own_d1_5 : decode prog_67_method_1_code 5 = .ok (.ifCond .lt 10, 3) := by decide +kernel
theorem own_d1_8 : decode prog_67_method_1_code 8 = .ok (.iload_n 1, 1) := by decide +kernel
theorem own_d1_9 : decode prog_67_method_1_code 9 = .ok (.sipush 1000, 3) := by decide +kernel
theorem own_d1_12 : decode prog_67_method_1_code 12 = .ok (.if_icmp .le 17, 3) := by decide +kernel
theorem own_d1_29 : decode prog_67_method_1_code 29 = .ok (.aload_n 0, 1) := by decide +kernel
theorem own_d1_30 : decode prog_67_method_1_code 30 = .ok (.iload_n 1, 1) := by decide +kernel
theorem own_d1_31 : decode prog_67_method_1_code 31 = .ok (.putfield 18, 3) := by decide +kernel
theorem own_d1_34 : decode prog_67_method_1_code 34 = .ok (.return_, 1) := by decide +kernel
theorem own_ef1 (m : MethodId) (r0 : Addr) (p1 : Int32) : entryFrame m #[(.ref r0), (.int p1)] 2 = mkF m 0 #[.val (.ref r0), .val (.int p1)] [] := by first | (simp [entryFrame, mkF, argsToLocals, Value.category]; done) | rfl
def own_Q1 (Z : State) (r0 : Addr) (p1 : Int32) (h0 : Heap) (n0 : Nat) (v : Option Value) (h : Heap) (L : List Loc) : Prop := (v = none) ∧ (Fr n0 L) ∧ (Keep h0 h [r0]) ∧ (Exa Z h r0 "com/example/wireform/wireform/wire/Nesting") ∧ (Fld Z h r0 "com/example/wireform/wireform/wire/Nesting" "limit" "I" (.int p1)) ∧ (Fld Z h r0 "com/example/wireform/wireform/wire/Nesting" "depth" "I" (.int (0 : Int32)))
set_option maxRecDepth 65536 in
set_option maxHeartbeats 40000000 in
theorem own_rm1 (l : Launch) (Z : State) (a0 : Array Value) (hw : ∀ d ∈ tables_1, d.before a0 Z = true) (ws : List Jvm.Cond) (r0 : Addr) (p1 : Int32) (h0 : Heap) (n0 : Nat) (Z0 : n0 ≤ h0.size) (E_r0 : Exa Z h0 r0 "com/example/wireform/wireform/wire/Nesting") (F_r0_limit : Fld Z h0 r0 "com/example/wireform/wireform/wire/Nesting" "limit" "I" (.int (0 : Int32))) (F_r0_depth : Fld Z h0 r0 "com/example/wireform/wireform/wire/Nesting" "depth" "I" (.int (0 : Int32))) (g_r0 : n0 ≤ r0) (hlo : ¬ (p1 < (0 : Int32))) (hhi : ¬ ((1000 : Int32) < p1)) :
    MetFree l (⟨"com/example/wireform/wireform/wire/Nesting", "<init>", "(I)V"⟩ : MethodName) (head1 (Jvm.Cond.code (⟨"com/example/wireform/wireform/wire/Nesting", "<init>", "(I)V"⟩ : MethodName) prog_67_method_1_code 2 none :: ws) ({ frames := 1, cells := 0, slots := 0, locals := 12 } : Room)) (fun a U => a = #[(.ref r0), (.int p1)] ∧ Z.Warmed39 U.vm ∧ U.heap = h0) (fun _ _ _ _ _ => True) (fun _ U o U' => ∃ v L, o = .returned v ∧ own_Q1 Z r0 p1 h0 n0 v U'.heap L ∧ FrameEnd U o U' L ({ frames := 1, cells := 0, slots := 0, locals := 12 } : Room).cells ({ frames := 1, cells := 0, slots := 0, locals := 12 } : Room).slots) := by
  refine MetFree.of_bodySF (plainFor_of_name own_pn0) hisR ?_
  intro p e s m args below meth c s₁ Bd hml0 hP hK
  obtain ⟨rfl, hZ, hh⟩ := hP
  have hx := Bd.exec
  have hby := Bd.bytes
  have hml : c.maxLocals = 2 := hml0
  have hown : s.vm.findClass "com/example/wireform/wireform/wire/Nesting" = some m.cls := findClass_of_methodNamed Bd.named
  have hnm := (name_of_methodNamed Bd.named Bd.method).1
  have X0 : Stand p l e ({ frames := 1, cells := 0, slots := 0, locals := 12 } : Room) s m #[(.ref r0), (.int p1)] below meth c s₁ [] 0 0 := Stand.of_body Bd
  have e0 : s₁.heap = h0 := by rw [← hh, Bd.state]; rfl
  have N0 := Fr.nil n0
  have pre0 : ∀ t, Steps p.tables e below (s₁.setTop (mkF m 0 #[.val (.ref r0), .val (.int p1)] [])) t → Steps p.tables e below (s₁.setTop (entryFrame m #[(.ref r0), (.int p1)] 2)) t := fun t k => castTop (own_ef1 m r0 p1) k
  refine own_run (own_st pre0 ?_)
  refine own_st (B := s₁.setTop (mkF m 1 #[.val (.ref r0), .val (.int p1)] [(.ref r0)])) (fun target kt => ?_) ?_
  · show Steps p.tables e below (s₁.setTop (mkF m 0 #[.val (.ref r0), .val (.int p1)] [])) target
    refine XS.aloadN X0.here hx rfl (hb hby own_d1_0) rfl rfl ?_
    exact kt
  obtain ⟨Tg1, Xg1, eg1, stg1⟩ := initO X0 hx hZ hown (hw _ (List.mem_of_getElem? (i := 7) rfl)) (hw _ (List.mem_of_getElem? (i := 8) rfl)) (hw _ (List.mem_of_getElem? (i := 9) rfl)) e0 (g := (mkF m 1 #[.val (.ref r0), .val (.int p1)] [(.ref r0)])) rfl (by rw [hml]; rfl) rfl (hb hby own_d1_1) (by decide) (W := 0) (by show 2 * 0 + _ ≤ _; exact Nat.le_of_eq rfl) (by decide)
  refine own_st stg1 ?_
  refine own_st (B := Tg1.setTop (mkF m 5 #[.val (.ref r0), .val (.int p1)] [(.int p1)])) (fun target kt => ?_) ?_
  · show Steps p.tables e below (Tg1.setTop (mkF m 4 #[.val (.ref r0), .val (.int p1)] [])) target
    refine XS.iloadN Xg1.here hx rfl (hb hby own_d1_4) rfl ?_
    exact kt
  have c5 : ¬ (p1 < (0 : Int32)) := by
    exact hlo
  refine own_st (B := Tg1.setTop (mkF m 12 #[.val (.ref r0), .val (.int p1)] [(.int (1000 : Int32)), (.int p1)])) (fun target kt => ?_) ?_
  · show Steps p.tables e below (Tg1.setTop (mkF m 5 #[.val (.ref r0), .val (.int p1)] [(.int p1)])) target
    refine XS.ifNo Xg1.here hx rfl (hb hby own_d1_5) rfl ((if0 _ _).trans (flt c5).1) ?_
    show Steps p.tables e below (Tg1.setTop (mkF m 8 #[.val (.ref r0), .val (.int p1)] [])) target
    refine XS.iloadN Xg1.here hx rfl (hb hby own_d1_8) rfl ?_
    show Steps p.tables e below (Tg1.setTop (mkF m 9 #[.val (.ref r0), .val (.int p1)] [(.int p1)])) target
    refine XS.sipush Xg1.here hx rfl (hb hby own_d1_9) ?_
    exact kt
  have c12 : ¬ ((1000 : Int32) < p1) := by
    exact hhi
  refine own_st (B := Tg1.setTop (mkF m 31 #[.val (.ref r0), .val (.int p1)] [(.int p1), (.ref r0)])) (fun target kt => ?_) ?_
  · show Steps p.tables e below (Tg1.setTop (mkF m 12 #[.val (.ref r0), .val (.int p1)] [(.int (1000 : Int32)), (.int p1)])) target
    refine XS.icmpYes Xg1.here hx rfl (pc0 := 12) (pc' := 29) rfl (hb hby own_d1_12) rfl (flt c12).2.2.2 (by decide) (by decide) ?_
    show Steps p.tables e below (Tg1.setTop (mkF m 29 #[.val (.ref r0), .val (.int p1)] [])) target
    refine XS.aloadN Xg1.here hx rfl (hb hby own_d1_29) rfl rfl ?_
    show Steps p.tables e below (Tg1.setTop (mkF m 30 #[.val (.ref r0), .val (.int p1)] [(.ref r0)])) target
    refine XS.iloadN Xg1.here hx rfl (hb hby own_d1_30) rfl ?_
    exact kt
  obtain ⟨Tg31, hg31, Xg31, eg31, Wg31, stg31⟩ := putF Xg1 hx hZ hown (host := "") (Or.inl (hw _ (List.mem_of_getElem? (i := 10) rfl))) Via.refl eg1 F_r0_limit E_r0 (Or.inr ⟨(hw _ (List.mem_of_getElem? (i := 11) rfl)), rfl, hnm⟩) (hw _ (List.mem_of_getElem? (i := 2) rfl)) (ty := .int) (by decide) rfl rfl (g := (mkF m 31 #[.val (.ref r0), .val (.int p1)] [(.int p1), (.ref r0)])) rfl rfl (hb hby own_d1_31)
  refine own_st stg31 ?_
  have Ng31 := Fr.snoc Xg31 N0 g_r0
  have F := E_r0.wr Wg31
  have F_1 := F_r0_limit.same Wg31
  have F_2 := F_r0_depth.other Wg31 (Or.inr (slot_ne (Or.inl (hw _ (List.mem_of_getElem? (i := 38) rfl))) (Or.inr (hw _ (List.mem_of_getElem? (i := 11) rfl))) (by decide) (t := .int) (t' := .int) (by decide) (by decide)))
  have Zz : n0 ≤ hg31.size := Nat.le_trans Z0 (Keep.of_wr Wg31).1
  have Kc := (Keep.refl h0 [r0]).wr Wg31 (Or.inl (List.mem_of_getElem? (i := 0) rfl))
  obtain ⟨fs, hr, hrun, hended, hW, hsame⟩ := Xg31.leave (v := none) (fun _ => rfl)
  have hend : Steps p.tables e below (Tg31.setTop (mkF m 34 #[.val (.ref r0), .val (.int p1)] [])) (Tg31.setFrames fs) := by
    exact Xg31.returnOut hx Bd.returns (hb hby own_d1_34) hr
  refine own_fin hend ⟨_, hrun, hended, _, _, rfl, ?_, ⟨_, rfl⟩, hW, hsame.mono (by decide) (by decide)⟩
  show own_Q1 Z r0 p1 h0 n0 _ Tg31.heap _
  rw [eg31]
  exact ⟨rfl, Ng31, Kc, F, F_1, F_2⟩
theorem own_d5_0 : decode prog_67_method_3_code 0 = .ok (.aload_n 0, 1) := by decide +kernel
theorem own_d5_1 : decode prog_67_method_3_code 1 = .ok (.getfield 22, 3) := by decide +kernel
theorem own_d5_4 : decode prog_67_method_3_code 4 = .ok (.aload_n 0, 1) := by decide +kernel
theorem own_d5_5 : decode prog_67_method_3_code 5 = .ok (.getfield 18, 3) := by decide +kernel
theorem own_d5_8 : decode prog_67_method_3_code 8 = .ok (.if_icmp .ne 5, 3) := by decide +kernel
theorem own_d5_11 : decode prog_67_method_3_code 11 = .ok (.iconst 0, 1) := by decide +kernel
theorem own_d5_12 : decode prog_67_method_3_code 12 = .ok (.ireturn, 1) := by decide +kernel
theorem own_d5_13 : decode prog_67_method_3_code 13 = .ok (.aload_n 0, 1) := by decide +kernel
theorem own_d5_14 : decode prog_67_method_3_code 14 = .ok (.dup, 1) := by decide +kernel
theorem own_d5_15 : decode prog_67_method_3_code 15 = .ok (.getfield 22, 3) := by decide +kernel
theorem own_d5_18 : decode prog_67_method_3_code 18 = .ok (.iconst 1, 1) := by decide +kernel
theorem own_d5_19 : decode prog_67_method_3_code 19 = .ok (.iadd, 1) := by decide +kernel
theorem own_d5_20 : decode prog_67_method_3_code 20 = .ok (.putfield 22, 3) := by decide +kernel
theorem own_d5_23 : decode prog_67_method_3_code 23 = .ok (.iconst 1, 1) := by decide +kernel
theorem own_d5_24 : decode prog_67_method_3_code 24 = .ok (.ireturn, 1) := by decide +kernel
theorem own_ef5 (m : MethodId) (r0 : Addr) : entryFrame m #[(.ref r0)] 1 = mkF m 0 #[.val (.ref r0)] [] := by first | (simp [entryFrame, mkF, argsToLocals, Value.category]; done) | rfl
def own_Q5 (Z : State) (r0 : Addr) (w_l : Int32) (w_d : Int32) (h0 : Heap) (n0 : Nat) (v : Option Value) (h : Heap) (L : List Loc) : Prop := (v = some (.int (own_b (¬ (w_d = w_l))))) ∧ (Fr n0 L) ∧ (Keep h0 h [r0]) ∧ (Exa Z h r0 "com/example/wireform/wireform/wire/Nesting") ∧ (Fld Z h r0 "com/example/wireform/wireform/wire/Nesting" "limit" "I" (.int w_l)) ∧ (Fld Z h r0 "com/example/wireform/wireform/wire/Nesting" "depth" "I" (.int (if w_d = w_l then w_d else ((w_d + (1 : Int32))))))
set_option maxRecDepth 65536 in
set_option maxHeartbeats 40000000 in
theorem own_rm5 (l : Launch) (Z : State) (a0 : Array Value) (hw : ∀ d ∈ tables_1, d.before a0 Z = true) (ws : List Jvm.Cond) (r0 : Addr) (w_l : Int32) (w_d : Int32) (h0 : Heap) (n0 : Nat) (Z0 : n0 ≤ h0.size) (E_r0 : Exa Z h0 r0 "com/example/wireform/wireform/wire/Nesting") (F_r0_limit : Fld Z h0 r0 "com/example/wireform/wireform/wire/Nesting" "limit" "I" (.int w_l)) (F_r0_depth : Fld Z h0 r0 "com/example/wireform/wireform/wire/Nesting" "depth" "I" (.int w_d)) (g_r0 : n0 ≤ r0) :
    MetFree l (⟨"com/example/wireform/wireform/wire/Nesting", "enter", "()Z"⟩ : MethodName) (head1 (Jvm.Cond.code (⟨"com/example/wireform/wireform/wire/Nesting", "enter", "()Z"⟩ : MethodName) prog_67_method_3_code 1 (some .boolean) :: ws) ({ frames := 0, cells := 0, slots := 0, locals := 0 } : Room)) (fun a U => a = #[(.ref r0)] ∧ Z.Warmed39 U.vm ∧ U.heap = h0) (fun _ _ _ _ _ => True) (fun _ U o U' => ∃ v L, o = .returned v ∧ own_Q5 Z r0 w_l w_d h0 n0 v U'.heap L ∧ FrameEnd U o U' L ({ frames := 0, cells := 0, slots := 0, locals := 0 } : Room).cells ({ frames := 0, cells := 0, slots := 0, locals := 0 } : Room).slots) := by
  refine MetFree.of_bodySF (plainFor_of_name own_pn0) hisR ?_
  intro p e s m args below meth c s₁ Bd hml0 hP hK
  obtain ⟨rfl, hZ, hh⟩ := hP
  have hx := Bd.exec
  have hby := Bd.bytes
  have hml : c.maxLocals = 1 := hml0
  have hown : s.vm.findClass "com/example/wireform/wireform/wire/Nesting" = some m.cls := findClass_of_methodNamed Bd.named
  have hnm := (name_of_methodNamed Bd.named Bd.method).1
  have X0 : Stand p l e ({ frames := 0, cells := 0, slots := 0, locals := 0 } : Room) s m #[(.ref r0)] below meth c s₁ [] 0 0 := Stand.of_body Bd
  have e0 : s₁.heap = h0 := by rw [← hh, Bd.state]; rfl
  have N0 := Fr.nil n0
  have pre0 : ∀ t, Steps p.tables e below (s₁.setTop (mkF m 0 #[.val (.ref r0)] [])) t → Steps p.tables e below (s₁.setTop (entryFrame m #[(.ref r0)] 1)) t := fun t k => castTop (own_ef5 m r0) k
  refine own_run (own_st pre0 ?_)
  refine own_st (B := s₁.setTop (mkF m 1 #[.val (.ref r0)] [(.ref r0)])) (fun target kt => ?_) ?_
  · show Steps p.tables e below (s₁.setTop (mkF m 0 #[.val (.ref r0)] [])) target
    refine XS.aloadN X0.here hx rfl (hb hby own_d5_0) rfl rfl ?_
    exact kt
  obtain ⟨Tg1, Xg1, eg1, stg1⟩ := getF X0 hx hZ hown (host := "") (Or.inl (hw _ (List.mem_of_getElem? (i := 37) rfl))) Via.refl e0 F_r0_depth (g := (mkF m 1 #[.val (.ref r0)] [(.ref r0)])) rfl rfl (hb hby own_d5_1)
  refine own_st stg1 ?_
  refine own_st (B := Tg1.setTop (mkF m 5 #[.val (.ref r0)] [(.ref r0), (.int w_d)])) (fun target kt => ?_) ?_
  · show Steps p.tables e below (Tg1.setTop (mkF m 4 #[.val (.ref r0)] [(.int w_d)])) target
    refine XS.aloadN Xg1.here hx rfl (hb hby own_d5_4) rfl rfl ?_
    exact kt
  obtain ⟨Tg5, Xg5, eg5, stg5⟩ := getF Xg1 hx hZ hown (host := "") (Or.inl (hw _ (List.mem_of_getElem? (i := 10) rfl))) Via.refl eg1 F_r0_limit (g := (mkF m 5 #[.val (.ref r0)] [(.ref r0), (.int w_d)])) rfl rfl (hb hby own_d5_5)
  refine own_st stg5 ?_
  by_cases c8 : w_d = w_l
  · refine own_st (B := Tg5.setTop (mkF m 12 #[.val (.ref r0)] [(.int (0 : Int32))])) (fun target kt => ?_) ?_
    · show Steps p.tables e below (Tg5.setTop (mkF m 8 #[.val (.ref r0)] [(.int w_l), (.int w_d)])) target
      refine XS.icmpNo Xg5.here hx rfl (hb hby own_d5_8) rfl (teq c8).2 ?_
      show Steps p.tables e below (Tg5.setTop (mkF m 11 #[.val (.ref r0)] [])) target
      refine XS.iconst Xg5.here hx rfl (hb hby own_d5_11) ?_
      exact kt
    obtain ⟨fs, hr, hrun, hended, hW, hsame⟩ := Xg5.leave (v := some (.int (0 : Int32))) (fun h => by rw [Bd.returns] at h; cases h)
    have hend : Steps p.tables e below (Tg5.setTop (mkF m 12 #[.val (.ref r0)] [(.int (0 : Int32))])) (Tg5.setFrames fs) := by
      exact retN Xg5 hx (t := .boolean) Bd.returns (by simp) (hb hby own_d5_12) hr
    refine own_fin hend ⟨_, hrun, hended, _, _, rfl, ?_, ⟨_, rfl⟩, hW, hsame.mono (by decide) (by decide)⟩
    show own_Q5 Z r0 w_l w_d h0 n0 _ Tg5.heap _
    rw [eg5]
    exact ⟨(congrArg (fun z => some (Value.int z)) (own_b0 (fun w => w c8)).symm), N0, (Keep.refl h0 [r0]), E_r0, F_r0_limit, (own_cast (congrArg Value.int (if_pos c8).symm) F_r0_depth)⟩
  · refine own_st (B := Tg5.setTop (mkF m 15 #[.val (.ref r0)] [(.ref r0), (.ref r0)])) (fun target kt => ?_) ?_
    · show Steps p.tables e below (Tg5.setTop (mkF m 8 #[.val (.ref r0)] [(.int w_l), (.int w_d)])) target
      refine XS.icmpYes Xg5.here hx rfl (pc0 := 8) (pc' := 13) rfl (hb hby own_d5_8) rfl (feq c8).2 (by decide) (by decide) ?_
      show Steps p.tables e below (Tg5.setTop (mkF m 13 #[.val (.ref r0)] [])) target
      refine XS.aloadN Xg5.here hx rfl (hb hby own_d5_13) rfl rfl ?_
      show Steps p.tables e below (Tg5.setTop (mkF m 14 #[.val (.ref r0)] [(.ref r0)])) target
      refine XS.dup Xg5.here hx rfl (hb hby own_d5_14) rfl rfl ?_
      exact kt
    obtain ⟨Tg15, Xg15, eg15, stg15⟩ := getF Xg5 hx hZ hown (host := "") (Or.inl (hw _ (List.mem_of_getElem? (i := 37) rfl))) Via.refl eg5 F_r0_depth (g := (mkF m 15 #[.val (.ref r0)] [(.ref r0), (.ref r0)])) rfl rfl (hb hby own_d5_15)
    refine own_st stg15 ?_
    refine own_st (B := Tg15.setTop (mkF m 20 #[.val (.ref r0)] [(.int (w_d + (1 : Int32))), (.ref r0)])) (fun target kt => ?_) ?_
    · show Steps p.tables e below (Tg15.setTop (mkF m 18 #[.val (.ref r0)] [(.int w_d), (.ref r0)])) target
      refine XS.iconst Xg15.here hx rfl (hb hby own_d5_18) ?_
      show Steps p.tables e below (Tg15.setTop (mkF m 19 #[.val (.ref r0)] [(.int (1 : Int32)), (.int w_d), (.ref r0)])) target
      refine XS.iadd Xg15.here hx rfl (hb hby own_d5_19) rfl ?_
      exact kt
    obtain ⟨Tg20, hg20, Xg20, eg20, Wg20, stg20⟩ := putF Xg15 hx hZ hown (host := "") (Or.inl (hw _ (List.mem_of_getElem? (i := 37) rfl))) Via.refl eg15 F_r0_depth E_r0 (Or.inl (hw _ (List.mem_of_getElem? (i := 38) rfl))) (hw _ (List.mem_of_getElem? (i := 2) rfl)) (ty := .int) (by decide) rfl rfl (g := (mkF m 20 #[.val (.ref r0)] [(.int (w_d + (1 : Int32))), (.ref r0)])) rfl rfl (hb hby own_d5_20)
    refine own_st stg20 ?_
    have Ng20 := Fr.snoc Xg20 N0 g_r0
    have F := E_r0.wr Wg20
    have F_1 := F_r0_limit.other Wg20 (Or.inr (slot_ne (Or.inr (hw _ (List.mem_of_getElem? (i := 11) rfl))) (Or.inl (hw _ (List.mem_of_getElem? (i := 38) rfl))) (by decide) (t := .int) (t' := .int) (by decide) (by decide)))
    have F_2 := F_r0_depth.same Wg20
    have Zz : n0 ≤ hg20.size := Nat.le_trans Z0 (Keep.of_wr Wg20).1
    have Kc := (Keep.refl h0 [r0]).wr Wg20 (Or.inl (List.mem_of_getElem? (i := 0) rfl))
    obtain ⟨v20, hv20⟩ : ∃ z : Int32, z = (w_d + (1 : Int32)) := ⟨_, rfl⟩
    have F_3 : Fld Z hg20 r0 "com/example/wireform/wireform/wire/Nesting" "depth" "I" (.int v20) := by subst hv20; exact F_2
    refine own_st (B := Tg20.setTop (mkF m 24 #[.val (.ref r0)] [(.int (1 : Int32))])) (fun target kt => ?_) ?_
    · show Steps p.tables e below (Tg20.setTop (mkF m 23 #[.val (.ref r0)] [])) target
      refine XS.iconst Xg20.here hx rfl (hb hby own_d5_23) ?_
      exact kt
    obtain ⟨fs, hr, hrun, hended, hW, hsame⟩ := Xg20.leave (v := some (.int (1 : Int32))) (fun h => by rw [Bd.returns] at h; cases h)
    have hend : Steps p.tables e below (Tg20.setTop (mkF m 24 #[.val (.ref r0)] [(.int (1 : Int32))])) (Tg20.setFrames fs) := by
      exact retN Xg20 hx (t := .boolean) Bd.returns (by simp) (hb hby own_d5_24) hr
    refine own_fin hend ⟨_, hrun, hended, _, _, rfl, ?_, ⟨_, rfl⟩, hW, hsame.mono (by decide) (by decide)⟩
    show own_Q5 Z r0 w_l w_d h0 n0 _ Tg20.heap _
    rw [eg20]
    subst hv20
    exact ⟨(congrArg (fun z => some (Value.int z)) (own_b1 c8).symm), Ng20, Kc, F, F_1, (own_cast (congrArg Value.int (if_neg c8).symm) F_3)⟩
theorem own_d13_0 : decode prog_67_method_4_code 0 = .ok (.aload_n 0, 1) := by decide +kernel
theorem own_d13_1 : decode prog_67_method_4_code 1 = .ok (.dup, 1) := by decide +kernel
theorem own_d13_2 : decode prog_67_method_4_code 2 = .ok (.getfield 22, 3) := by decide +kernel
theorem own_d13_5 : decode prog_67_method_4_code 5 = .ok (.iconst 1, 1) := by decide +kernel
theorem own_d13_6 : decode prog_67_method_4_code 6 = .ok (.isub, 1) := by decide +kernel
theorem own_d13_7 : decode prog_67_method_4_code 7 = .ok (.putfield 22, 3) := by decide +kernel
theorem own_d13_10 : decode prog_67_method_4_code 10 = .ok (.return_, 1) := by decide +kernel
theorem own_ef13 (m : MethodId) (r0 : Addr) : entryFrame m #[(.ref r0)] 1 = mkF m 0 #[.val (.ref r0)] [] := by first | (simp [entryFrame, mkF, argsToLocals, Value.category]; done) | rfl
def own_Q13 (Z : State) (r0 : Addr) (w_l : Int32) (w_d : Int32) (h0 : Heap) (n0 : Nat) (v : Option Value) (h : Heap) (L : List Loc) : Prop := (v = none) ∧ (Fr n0 L) ∧ (Keep h0 h [r0]) ∧ (Exa Z h r0 "com/example/wireform/wireform/wire/Nesting") ∧ (Fld Z h r0 "com/example/wireform/wireform/wire/Nesting" "limit" "I" (.int w_l)) ∧ (Fld Z h r0 "com/example/wireform/wireform/wire/Nesting" "depth" "I" (.int ((w_d - (1 : Int32)))))
set_option maxRecDepth 65536 in
set_option maxHeartbeats 40000000 in
theorem own_rm13 (l : Launch) (Z : State) (a0 : Array Value) (hw : ∀ d ∈ tables_1, d.before a0 Z = true) (ws : List Jvm.Cond) (r0 : Addr) (w_l : Int32) (w_d : Int32) (h0 : Heap) (n0 : Nat) (Z0 : n0 ≤ h0.size) (E_r0 : Exa Z h0 r0 "com/example/wireform/wireform/wire/Nesting") (F_r0_limit : Fld Z h0 r0 "com/example/wireform/wireform/wire/Nesting" "limit" "I" (.int w_l)) (F_r0_depth : Fld Z h0 r0 "com/example/wireform/wireform/wire/Nesting" "depth" "I" (.int w_d)) (g_r0 : n0 ≤ r0) :
    MetFree l (⟨"com/example/wireform/wireform/wire/Nesting", "exit", "()V"⟩ : MethodName) (head1 (Jvm.Cond.code (⟨"com/example/wireform/wireform/wire/Nesting", "exit", "()V"⟩ : MethodName) prog_67_method_4_code 1 none :: ws) ({ frames := 0, cells := 0, slots := 0, locals := 0 } : Room)) (fun a U => a = #[(.ref r0)] ∧ Z.Warmed39 U.vm ∧ U.heap = h0) (fun _ _ _ _ _ => True) (fun _ U o U' => ∃ v L, o = .returned v ∧ own_Q13 Z r0 w_l w_d h0 n0 v U'.heap L ∧ FrameEnd U o U' L ({ frames := 0, cells := 0, slots := 0, locals := 0 } : Room).cells ({ frames := 0, cells := 0, slots := 0, locals := 0 } : Room).slots) := by
  refine MetFree.of_bodySF (plainFor_of_name own_pn0) hisR ?_
  intro p e s m args below meth c s₁ Bd hml0 hP hK
  obtain ⟨rfl, hZ, hh⟩ := hP
  have hx := Bd.exec
  have hby := Bd.bytes
  have hml : c.maxLocals = 1 := hml0
  have hown : s.vm.findClass "com/example/wireform/wireform/wire/Nesting" = some m.cls := findClass_of_methodNamed Bd.named
  have hnm := (name_of_methodNamed Bd.named Bd.method).1
  have X0 : Stand p l e ({ frames := 0, cells := 0, slots := 0, locals := 0 } : Room) s m #[(.ref r0)] below meth c s₁ [] 0 0 := Stand.of_body Bd
  have e0 : s₁.heap = h0 := by rw [← hh, Bd.state]; rfl
  have N0 := Fr.nil n0
  have pre0 : ∀ t, Steps p.tables e below (s₁.setTop (mkF m 0 #[.val (.ref r0)] [])) t → Steps p.tables e below (s₁.setTop (entryFrame m #[(.ref r0)] 1)) t := fun t k => castTop (own_ef13 m r0) k
  refine own_run (own_st pre0 ?_)
  refine own_st (B := s₁.setTop (mkF m 2 #[.val (.ref r0)] [(.ref r0), (.ref r0)])) (fun target kt => ?_) ?_
  · show Steps p.tables e below (s₁.setTop (mkF m 0 #[.val (.ref r0)] [])) target
    refine XS.aloadN X0.here hx rfl (hb hby own_d13_0) rfl rfl ?_
    show Steps p.tables e below (s₁.setTop (mkF m 1 #[.val (.ref r0)] [(.ref r0)])) target
    refine XS.dup X0.here hx rfl (hb hby own_d13_1) rfl rfl ?_
    exact kt
  obtain ⟨Tg2, Xg2, eg2, stg2⟩ := getF X0 hx hZ hown (host := "") (Or.inl (hw _ (List.mem_of_getElem? (i := 37) rfl))) Via.refl e0 F_r0_depth (g := (mkF m 2 #[.val (.ref r0)] [(.ref r0), (.ref r0)])) rfl rfl (hb hby own_d13_2)
  refine own_st stg2 ?_
  refine own_st (B := Tg2.setTop (mkF m 7 #[.val (.ref r0)] [(.int (w_d - (1 : Int32))), (.ref r0)])) (fun target kt => ?_) ?_
  · show Steps p.tables e below (Tg2.setTop (mkF m 5 #[.val (.ref r0)] [(.int w_d), (.ref r0)])) target
    refine XS.iconst Xg2.here hx rfl (hb hby own_d13_5) ?_
    show Steps p.tables e below (Tg2.setTop (mkF m 6 #[.val (.ref r0)] [(.int (1 : Int32)), (.int w_d), (.ref r0)])) target
    refine XS.isub Xg2.here hx rfl (hb hby own_d13_6) rfl ?_
    exact kt
  obtain ⟨Tg7, hg7, Xg7, eg7, Wg7, stg7⟩ := putF Xg2 hx hZ hown (host := "") (Or.inl (hw _ (List.mem_of_getElem? (i := 37) rfl))) Via.refl eg2 F_r0_depth E_r0 (Or.inl (hw _ (List.mem_of_getElem? (i := 38) rfl))) (hw _ (List.mem_of_getElem? (i := 2) rfl)) (ty := .int) (by decide) rfl rfl (g := (mkF m 7 #[.val (.ref r0)] [(.int (w_d - (1 : Int32))), (.ref r0)])) rfl rfl (hb hby own_d13_7)
  refine own_st stg7 ?_
  have Ng7 := Fr.snoc Xg7 N0 g_r0
  have F := E_r0.wr Wg7
  have F_1 := F_r0_limit.other Wg7 (Or.inr (slot_ne (Or.inr (hw _ (List.mem_of_getElem? (i := 11) rfl))) (Or.inl (hw _ (List.mem_of_getElem? (i := 38) rfl))) (by decide) (t := .int) (t' := .int) (by decide) (by decide)))
  have F_2 := F_r0_depth.same Wg7
  have Zz : n0 ≤ hg7.size := Nat.le_trans Z0 (Keep.of_wr Wg7).1
  have Kc := (Keep.refl h0 [r0]).wr Wg7 (Or.inl (List.mem_of_getElem? (i := 0) rfl))
  obtain ⟨v7, hv7⟩ : ∃ z : Int32, z = (w_d - (1 : Int32)) := ⟨_, rfl⟩
  have F_3 : Fld Z hg7 r0 "com/example/wireform/wireform/wire/Nesting" "depth" "I" (.int v7) := by subst hv7; exact F_2
  obtain ⟨fs, hr, hrun, hended, hW, hsame⟩ := Xg7.leave (v := none) (fun _ => rfl)
  have hend : Steps p.tables e below (Tg7.setTop (mkF m 10 #[.val (.ref r0)] [])) (Tg7.setFrames fs) := by
    exact Xg7.returnOut hx Bd.returns (hb hby own_d13_10) hr
  refine own_fin hend ⟨_, hrun, hended, _, _, rfl, ?_, ⟨_, rfl⟩, hW, hsame.mono (by decide) (by decide)⟩
  show own_Q13 Z r0 w_l w_d h0 n0 _ Tg7.heap _
  rw [eg7]
  subst hv7
  exact ⟨rfl, Ng7, Kc, F, F_1, F_3⟩
theorem own_vi (x : Int32) (h0 : ¬ x < (0 : Int32)) (h1 : x.toInt < 128) : ((0 : Int64) ||| ((x &&& (127 : Int32)).toInt64 <<< ((0 : Int32) &&& 0x3f).toInt64)) = x.toInt64 := by
  have e0 : (0 : Int32).toInt = 0 := by decide
  rw [Int32.lt_iff_toInt_lt, e0] at h0
  have h2 := c_mask x 127 7 (by decide) (by decide)
  have hx : x &&& (127 : Int32) = x := by
    apply Int32.toInt_inj.mp
    rw [h2]
    omega
  rw [hx]
  have h3 := c_lshl x.toInt64 0 0 (by decide)
  have h4 : (x.toInt64 <<< ((0 : Int32) &&& 0x3f).toInt64) = x.toInt64 := by
    apply Int64.toInt_inj.mp
    have r1 := rng64 (x.toInt64 <<< ((0 : Int32) &&& 0x3f).toInt64)
    have r2 := rng64 x.toInt64
    omega
  rw [h4, Int64.zero_or]
theorem own_li (x : Int32) : (x.toInt64).toInt32 = x := by
  apply Int32.toInt_inj.mp
  have h1 := c_l2i x.toInt64
  have h2 := c_i2l x
  have r1 := rng32 x
  have r2 := rng32 (x.toInt64).toInt32
  omega
theorem own_cmpU (x y : Int64) (h0 : 0 ≤ x.toInt) (h1 : x.toInt ≤ y.toInt) : ¬ (0 : Int32) < (if (x + (-9223372036854775808 : Int64)) < (y + (-9223372036854775808 : Int64)) then (-1 : Int32) else (if (x + (-9223372036854775808 : Int64)) = (y + (-9223372036854775808 : Int64)) then (0 : Int32) else (1 : Int32))) := by
  have e1 : (-9223372036854775808 : Int64).toInt = -9223372036854775808 := by decide
  have k1 := c_ladd x (-9223372036854775808)
  have k2 := c_ladd y (-9223372036854775808)
  have r1 := rng64 (x + (-9223372036854775808))
  have r2 := rng64 (y + (-9223372036854775808))
  have r3 := rng64 x
  have r4 := rng64 y
  rw [e1] at k1 k2
  by_cases hc : (x + (-9223372036854775808 : Int64)) < (y + (-9223372036854775808 : Int64))
  · rw [if_pos hc]
    decide
  · rw [if_neg hc]
    have he : (x + (-9223372036854775808 : Int64)) = (y + (-9223372036854775808 : Int64)) := by
      apply Int64.toInt_inj.mp
      rw [Int64.lt_iff_toInt_lt] at hc
      omega
    rw [if_pos he]
    decide
theorem own_nc (j : Int32) (h : 0 ≤ j.toInt) : (j.toNatClampNeg : Int) = j.toInt := by
  have : j.toNatClampNeg = j.toInt.toNat := rfl
  rw [this]
  omega
theorem own_nneg (j : Int32) (h : 0 ≤ j.toInt) : ¬ j < (0 : Int32) := by
  have e0 : (0 : Int32).toInt = 0 := by decide
  rw [Int32.lt_iff_toInt_lt, e0]
  omega
/-- a varint of one byte lies at p, and what it says lies below the mark -/
def own_V (p m x : Int32) (n : Nat) : Prop := 0 ≤ p.toInt ∧ p.toInt < m.toInt ∧ m.toInt ≤ n ∧ n ≤ 8 ∧ 0 ≤ x.toInt ∧ x.toInt < 128 ∧ x.toInt ≤ m.toInt - p.toInt - 1
theorem own_Vf (p m x : Int32) (n : Nat) (V : own_V p m x n) : ¬ p = m ∧ (¬ p < (0 : Int32) ∧ p.toNatClampNeg < n) ∧ ¬ x < (0 : Int32) ∧ (p + (1 : Int32)).toInt = p.toInt + 1 ∧ (m - (p + (1 : Int32))).toInt = m.toInt - p.toInt - 1 ∧ ((p + (1 : Int32)) + x).toInt = p.toInt + 1 + x.toInt := by
  obtain ⟨v1, v2, v3, v4, v5, v6, v7⟩ := V
  have k1 := c_iadd p 1
  have k2 := c_isub m (p + 1)
  have k3 := c_iadd (p + 1) x
  have e1 : (1 : Int32).toInt = 1 := by decide
  have r1 := rng32 (p + 1)
  have r2 := rng32 (m - (p + 1))
  have r3 := rng32 ((p + 1) + x)
  have n1 := own_nc p v1
  rw [e1] at k1
  refine ⟨fun q => ?_, ⟨own_nneg p v1, ?_⟩, own_nneg x v5, ?_, ?_, ?_⟩
  · rw [q] at v2; omega
  all_goals omega
theorem own_pn1 : plainName "java/lang/Long" = true := by first | (simp [plainName, overriddenIn]; done) | decide +kernel
theorem own_d10_0 : decode jdk_35_method_42_code 0 = .ok (.lload_n 0, 1) := by decide +kernel
theorem own_d10_1 : decode jdk_35_method_42_code 1 = .ok (.lload_n 2, 1) := by decide +kernel
theorem own_d10_2 : decode jdk_35_method_42_code 2 = .ok (.lcmp, 1) := by decide +kernel
theorem own_d10_3 : decode jdk_35_method_42_code 3 = .ok (.ifCond .ge 7, 3) := by decide +kernel
theorem own_d10_6 : decode jdk_35_method_42_code 6 = .ok (.iconst (-1), 1) := by decide +kernel
theorem own_d10_7 : decode jdk_35_method_42_code 7 = .ok (.goto 14, 3) := by decide +kernel
theorem own_d10_10 : decode jdk_35_method_42_code 10 = .ok (.lload_n 0, 1) := by decide +kernel
theorem own_d10_11 : decode jdk_35_method_42_code 11 = .ok (.lload_n 2, 1) := by decide +kernel
theorem own_d10_12 : decode jdk_35_method_42_code 12 = .ok (.lcmp, 1) := by decide +kernel
theorem own_d10_13 : decode jdk_35_method_42_code 13 = .ok (.ifCond .ne 7, 3) := by decide +kernel
theorem own_d10_16 : decode jdk_35_method_42_code 16 = .ok (.iconst 0, 1) := by decide +kernel
theorem own_d10_17 : decode jdk_35_method_42_code 17 = .ok (.goto 4, 3) := by decide +kernel
theorem own_d10_20 : decode jdk_35_method_42_code 20 = .ok (.iconst 1, 1) := by decide +kernel
theorem own_d10_21 : decode jdk_35_method_42_code 21 = .ok (.ireturn, 1) := by decide +kernel
theorem own_ef10 (m : MethodId) (q0 : Int64) (q1 : Int64) : entryFrame m #[(.long q0), (.long q1)] 4 = mkF m 0 #[.val (.long q0), .second, .val (.long q1), .second] [] := by first | (simp [entryFrame, mkF, argsToLocals, Value.category]; done) | rfl
def own_Q10 (Z : State) (q0 : Int64) (q1 : Int64) (h0 : Heap) (n0 : Nat) (v : Option Value) (h : Heap) (L : List Loc) : Prop := (v = some (.int ((if q0 < q1 then (-1 : Int32) else (if q0 = q1 then (0 : Int32) else (1 : Int32)))))) ∧ (Fr n0 L) ∧ (h = h0)
set_option maxRecDepth 65536 in
set_option maxHeartbeats 40000000 in
theorem own_rm10 (l : Launch) (Z : State) (a0 : Array Value) (hw : ∀ d ∈ tables_1, d.before a0 Z = true) (ws : List Jvm.Cond) (q0 : Int64) (q1 : Int64) (h0 : Heap) (n0 : Nat) (Z0 : n0 ≤ h0.size) :
    MetFree l (⟨"java/lang/Long", "compare", "(JJ)I"⟩ : MethodName) (head1 (Jvm.Cond.code (⟨"java/lang/Long", "compare", "(JJ)I"⟩ : MethodName) jdk_35_method_42_code 4 (some .int) :: ws) ({ frames := 0, cells := 0, slots := 0, locals := 0 } : Room)) (fun a U => a = #[(.long q0), (.long q1)] ∧ Z.Warmed39 U.vm ∧ U.heap = h0) (fun _ _ _ _ _ => True) (fun _ U o U' => ∃ v L, o = .returned v ∧ own_Q10 Z q0 q1 h0 n0 v U'.heap L ∧ FrameEnd U o U' L ({ frames := 0, cells := 0, slots := 0, locals := 0 } : Room).cells ({ frames := 0, cells := 0, slots := 0, locals := 0 } : Room).slots) := by
  refine MetFree.of_bodySF (plainFor_of_name own_pn1) hisR ?_
  intro p e s m args below meth c s₁ Bd hml0 hP hK
  obtain ⟨rfl, hZ, hh⟩ := hP
  have hx := Bd.exec
  have hby := Bd.bytes
  have hml : c.maxLocals = 4 := hml0
  have hown : s.vm.findClass "java/lang/Long" = some m.cls := findClass_of_methodNamed Bd.named
  have hnm := (name_of_methodNamed Bd.named Bd.method).1
  have X0 : Stand p l e ({ frames := 0, cells := 0, slots := 0, locals := 0 } : Room) s m #[(.long q0), (.long q1)] below meth c s₁ [] 0 0 := Stand.of_body Bd
  have e0 : s₁.heap = h0 := by rw [← hh, Bd.state]; rfl
  have N0 := Fr.nil n0
  have pre0 : ∀ t, Steps p.tables e below (s₁.setTop (mkF m 0 #[.val (.long q0), .second, .val (.long q1), .second] [])) t → Steps p.tables e below (s₁.setTop (entryFrame m #[(.long q0), (.long q1)] 4)) t := fun t k => castTop (own_ef10 m q0 q1) k
  refine own_run (own_st pre0 ?_)
  refine own_st (B := s₁.setTop (mkF m 3 #[.val (.long q0), .second, .val (.long q1), .second] [(.int (lcmpW q0 q1))])) (fun target kt => ?_) ?_
  · show Steps p.tables e below (s₁.setTop (mkF m 0 #[.val (.long q0), .second, .val (.long q1), .second] [])) target
    refine XS.lloadN X0.here hx rfl (hb hby own_d10_0) rfl ?_
    show Steps p.tables e below (s₁.setTop (mkF m 1 #[.val (.long q0), .second, .val (.long q1), .second] [(.long q0)])) target
    refine XS.lloadN X0.here hx rfl (hb hby own_d10_1) rfl ?_
    show Steps p.tables e below (s₁.setTop (mkF m 2 #[.val (.long q0), .second, .val (.long q1), .second] [(.long q1), (.long q0)])) target
    refine XS.lcmp X0.here hx rfl (hb hby own_d10_2) rfl ?_
    exact kt
  obtain ⟨_, ⟨j21_s0, rfl, hj21_s0⟩, st_M21⟩ : own_Lead p.tables e below (s₁.setTop (mkF m 3 #[.val (.long q0), .second, .val (.long q1), .second] [(.int (lcmpW q0 q1))])) (fun B => ∃ (j21_s0 : Int32), B = s₁.setTop (mkF m 21 #[.val (.long q0), .second, .val (.long q1), .second] [(.int j21_s0)]) ∧ j21_s0 = (if q0 < q1 then (-1 : Int32) else (if q0 = q1 then (0 : Int32) else (1 : Int32)))) := by
    by_cases c3 : q0 < q1
    · refine own_st (B := s₁.setTop (mkF m 21 #[.val (.long q0), .second, .val (.long q1), .second] [(.int (-1 : Int32))])) (fun target kt => ?_) ?_
      · show Steps p.tables e below (s₁.setTop (mkF m 3 #[.val (.long q0), .second, .val (.long q1), .second] [(.int (lcmpW q0 q1))])) target
        refine XS.ifNo X0.here hx rfl (hb hby own_d10_3) rfl ((if0 _ _).trans (tlt ((lw_lt q0 q1).mpr c3)).2.1) ?_
        show Steps p.tables e below (s₁.setTop (mkF m 6 #[.val (.long q0), .second, .val (.long q1), .second] [])) target
        refine XS.iconst X0.here hx rfl (hb hby own_d10_6) ?_
        show Steps p.tables e below (s₁.setTop (mkF m 7 #[.val (.long q0), .second, .val (.long q1), .second] [(.int (-1 : Int32))])) target
        refine XS.goto X0.here hx rfl (pc0 := 7) (pc' := 21) rfl (hb hby own_d10_7) (by decide) (by decide) ?_
        exact kt
      exact ⟨_, ⟨(-1 : Int32), rfl, (if_pos c3).symm⟩, fun _ k => k⟩
    · refine own_st (B := s₁.setTop (mkF m 13 #[.val (.long q0), .second, .val (.long q1), .second] [(.int (lcmpW q0 q1))])) (fun target kt => ?_) ?_
      · show Steps p.tables e below (s₁.setTop (mkF m 3 #[.val (.long q0), .second, .val (.long q1), .second] [(.int (lcmpW q0 q1))])) target
        refine XS.ifYes X0.here hx rfl (pc0 := 3) (pc' := 10) rfl (hb hby own_d10_3) rfl ((if0 _ _).trans (flt (fun q => c3 ((lw_lt q0 q1).mp q))).2.1) (by decide) (by decide) ?_
        show Steps p.tables e below (s₁.setTop (mkF m 10 #[.val (.long q0), .second, .val (.long q1), .second] [])) target
        refine XS.lloadN X0.here hx rfl (hb hby own_d10_10) rfl ?_
        show Steps p.tables e below (s₁.setTop (mkF m 11 #[.val (.long q0), .second, .val (.long q1), .second] [(.long q0)])) target
        refine XS.lloadN X0.here hx rfl (hb hby own_d10_11) rfl ?_
        show Steps p.tables e below (s₁.setTop (mkF m 12 #[.val (.long q0), .second, .val (.long q1), .second] [(.long q1), (.long q0)])) target
        refine XS.lcmp X0.here hx rfl (hb hby own_d10_12) rfl ?_
        exact kt
      by_cases c13 : q0 = q1
      · refine own_st (B := s₁.setTop (mkF m 21 #[.val (.long q0), .second, .val (.long q1), .second] [(.int (0 : Int32))])) (fun target kt => ?_) ?_
        · show Steps p.tables e below (s₁.setTop (mkF m 13 #[.val (.long q0), .second, .val (.long q1), .second] [(.int (lcmpW q0 q1))])) target
          refine XS.ifNo X0.here hx rfl (hb hby own_d10_13) rfl ((if0 _ _).trans (teq ((lw_eq q0 q1).mpr c13)).2) ?_
          show Steps p.tables e below (s₁.setTop (mkF m 16 #[.val (.long q0), .second, .val (.long q1), .second] [])) target
          refine XS.iconst X0.here hx rfl (hb hby own_d10_16) ?_
          show Steps p.tables e below (s₁.setTop (mkF m 17 #[.val (.long q0), .second, .val (.long q1), .second] [(.int (0 : Int32))])) target
          refine XS.goto X0.here hx rfl (pc0 := 17) (pc' := 21) rfl (hb hby own_d10_17) (by decide) (by decide) ?_
          exact kt
        exact ⟨_, ⟨(0 : Int32), rfl, (Eq.trans (if_pos c13).symm (if_neg c3).symm)⟩, fun _ k => k⟩
      · refine own_st (B := s₁.setTop (mkF m 21 #[.val (.long q0), .second, .val (.long q1), .second] [(.int (1 : Int32))])) (fun target kt => ?_) ?_
        · show Steps p.tables e below (s₁.setTop (mkF m 13 #[.val (.long q0), .second, .val (.long q1), .second] [(.int (lcmpW q0 q1))])) target
          refine XS.ifYes X0.here hx rfl (pc0 := 13) (pc' := 20) rfl (hb hby own_d10_13) rfl ((if0 _ _).trans (feq (fun q => c13 ((lw_eq q0 q1).mp q))).2) (by decide) (by decide) ?_
          show Steps p.tables e below (s₁.setTop (mkF m 20 #[.val (.long q0), .second, .val (.long q1), .second] [])) target
          refine XS.iconst X0.here hx rfl (hb hby own_d10_20) ?_
          exact kt
        exact ⟨_, ⟨(1 : Int32), rfl, (Eq.trans (if_neg c13).symm (if_neg c3).symm)⟩, fun _ k => k⟩
  refine own_st st_M21 ?_
  obtain ⟨fs, hr, hrun, hended, hW, hsame⟩ := X0.leave (v := some (.int j21_s0)) (fun h => by rw [Bd.returns] at h; cases h)
  have hend : Steps p.tables e below (s₁.setTop (mkF m 21 #[.val (.long q0), .second, .val (.long q1), .second] [(.int j21_s0)])) (s₁.setFrames fs) := by
    exact retI X0 hx Bd.returns (hb hby own_d10_21) hr
  refine own_fin hend ⟨_, hrun, hended, _, _, rfl, ?_, ⟨_, rfl⟩, hW, hsame.mono (by decide) (by decide)⟩
  show own_Q10 Z q0 q1 h0 n0 _ s₁.heap _
  rw [e0]
  subst hj21_s0
  exact ⟨(congrArg (fun z => some (Value.int z)) rfl), N0, rfl⟩
theorem own_pd0 : parseMethodDescriptor "(JJ)I" = some ⟨[.long, .long], some .int⟩ := by decide +kernel
theorem own_d9_0 : decode jdk_35_method_43_code 0 = .ok (.lload_n 0, 1) := by decide +kernel
theorem own_d9_1 : decode jdk_35_method_43_code 1 = .ok (.ldc2_w 168, 3) := by decide +kernel
theorem own_d9_4 : decode jdk_35_method_43_code 4 = .ok (.ladd, 1) := by decide +kernel
theorem own_d9_5 : decode jdk_35_method_43_code 5 = .ok (.lload_n 2, 1) := by decide +kernel
theorem own_d9_6 : decode jdk_35_method_43_code 6 = .ok (.ldc2_w 168, 3) := by decide +kernel
theorem own_d9_9 : decode jdk_35_method_43_code 9 = .ok (.ladd, 1) := by decide +kernel
theorem own_d9_10 : decode jdk_35_method_43_code 10 = .ok (.invokestatic 302, 3) := by decide +kernel
theorem own_d9_13 : decode jdk_35_method_43_code 13 = .ok (.ireturn, 1) := by decide +kernel
theorem own_ef9 (m : MethodId) (q0 : Int64) (q1 : Int64) : entryFrame m #[(.long q0), (.long q1)] 4 = mkF m 0 #[.val (.long q0), .second, .val (.long q1), .second] [] := by first | (simp [entryFrame, mkF, argsToLocals, Value.category]; done) | rfl
def own_Q9 (Z : State) (q0 : Int64) (q1 : Int64) (h0 : Heap) (n0 : Nat) (v : Option Value) (h : Heap) (L : List Loc) : Prop := (v = some (.int (if (q0 + (-9223372036854775808 : Int64)) < (q1 + (-9223372036854775808 : Int64)) then (-1 : Int32) else (if (q0 + (-9223372036854775808 : Int64)) = (q1 + (-9223372036854775808 : Int64)) then (0 : Int32) else (1 : Int32))))) ∧ (Fr n0 L) ∧ (h = h0)
set_option maxRecDepth 65536 in
set_option maxHeartbeats 40000000 in
theorem own_rm9 (l : Launch) (Z : State) (a0 : Array Value) (hw : ∀ d ∈ tables_1, d.before a0 Z = true) (ws : List Jvm.Cond) (q0 : Int64) (q1 : Int64) (h0 : Heap) (n0 : Nat) (Z0 : n0 ≤ h0.size) :
    MetFree l (⟨"java/lang/Long", "compareUnsigned", "(JJ)I"⟩ : MethodName) (head1 (Jvm.Cond.code (⟨"java/lang/Long", "compareUnsigned", "(JJ)I"⟩ : MethodName) jdk_35_method_43_code 4 (some .int) :: ws) ({ frames := 1, cells := 0, slots := 0, locals := 15 } : Room)) (fun a U => a = #[(.long q0), (.long q1)] ∧ Z.Warmed39 U.vm ∧ U.heap = h0) (fun _ _ _ _ _ => True) (fun _ U o U' => ∃ v L, o = .returned v ∧ own_Q9 Z q0 q1 h0 n0 v U'.heap L ∧ FrameEnd U o U' L ({ frames := 1, cells := 0, slots := 0, locals := 15 } : Room).cells ({ frames := 1, cells := 0, slots := 0, locals := 15 } : Room).slots) := by
  refine MetFree.of_bodySF (plainFor_of_name own_pn1) hisR ?_
  intro p e s m args below meth c s₁ Bd hml0 hP hK
  obtain ⟨rfl, hZ, hh⟩ := hP
  have hx := Bd.exec
  have hby := Bd.bytes
  have hml : c.maxLocals = 4 := hml0
  have hown : s.vm.findClass "java/lang/Long" = some m.cls := findClass_of_methodNamed Bd.named
  have hnm := (name_of_methodNamed Bd.named Bd.method).1
  have X0 : Stand p l e ({ frames := 1, cells := 0, slots := 0, locals := 15 } : Room) s m #[(.long q0), (.long q1)] below meth c s₁ [] 0 0 := Stand.of_body Bd
  have e0 : s₁.heap = h0 := by rw [← hh, Bd.state]; rfl
  have N0 := Fr.nil n0
  have pre0 : ∀ t, Steps p.tables e below (s₁.setTop (mkF m 0 #[.val (.long q0), .second, .val (.long q1), .second] [])) t → Steps p.tables e below (s₁.setTop (entryFrame m #[(.long q0), (.long q1)] 4)) t := fun t k => castTop (own_ef9 m q0 q1) k
  refine own_run (own_st pre0 ?_)
  refine own_st (B := s₁.setTop (mkF m 10 #[.val (.long q0), .second, .val (.long q1), .second] [(.long (q1 + (-9223372036854775808 : Int64))), (.long (q0 + (-9223372036854775808 : Int64)))])) (fun target kt => ?_) ?_
  · show Steps p.tables e below (s₁.setTop (mkF m 0 #[.val (.long q0), .second, .val (.long q1), .second] [])) target
    refine XS.lloadN X0.here hx rfl (hb hby own_d9_0) rfl ?_
    show Steps p.tables e below (s₁.setTop (mkF m 1 #[.val (.long q0), .second, .val (.long q1), .second] [(.long q0)])) target
    refine X0.ldc2Long hx hown (mvT hZ (hw _ (List.mem_of_getElem? (i := 59) rfl))) (g := (mkF m 1 #[.val (.long q0), .second, .val (.long q1), .second] [(.long q0)])) rfl (hb hby own_d9_1) _ ?_
    show Steps p.tables e below (s₁.setTop (mkF m 4 #[.val (.long q0), .second, .val (.long q1), .second] [(.long (-9223372036854775808 : Int64)), (.long q0)])) target
    refine XS.ladd X0.here hx rfl (hb hby own_d9_4) rfl ?_
    show Steps p.tables e below (s₁.setTop (mkF m 5 #[.val (.long q0), .second, .val (.long q1), .second] [(.long (q0 + (-9223372036854775808 : Int64)))])) target
    refine XS.lloadN X0.here hx rfl (hb hby own_d9_5) rfl ?_
    show Steps p.tables e below (s₁.setTop (mkF m 6 #[.val (.long q0), .second, .val (.long q1), .second] [(.long q1), (.long (q0 + (-9223372036854775808 : Int64)))])) target
    refine X0.ldc2Long hx hown (mvT hZ (hw _ (List.mem_of_getElem? (i := 59) rfl))) (g := (mkF m 6 #[.val (.long q0), .second, .val (.long q1), .second] [(.long q1), (.long (q0 + (-9223372036854775808 : Int64)))])) rfl (hb hby own_d9_6) _ ?_
    show Steps p.tables e below (s₁.setTop (mkF m 9 #[.val (.long q0), .second, .val (.long q1), .second] [(.long (-9223372036854775808 : Int64)), (.long q1), (.long (q0 + (-9223372036854775808 : Int64)))])) target
    refine XS.ladd X0.here hx rfl (hb hby own_d9_9) rfl ?_
    exact kt
  obtain ⟨_, _, ⟨Tg10, Lg10, kg10, ng10⟩, -, Xg10, ⟨Lcg10, hQg10, lg10, yg10, zg10⟩, stg10⟩ := Jvm.LawKit.callS X0 hx (y := (⟨"java/lang/Long", "compare", "(JJ)I"⟩ : MethodName)) hown (mvT hZ (hw _ (List.mem_of_getElem? (i := 60) rfl))) (mvT hZ (hw _ (List.mem_of_getElem? (i := 61) rfl))) (mvT hZ (hw _ (List.mem_of_getElem? (i := 57) rfl))) (mvT hZ (hw _ (List.mem_of_getElem? (i := 62) rfl))) (by decide) (backOf (W := 0) (own_rm10 l Z a0 hw [] (q0 + (-9223372036854775808 : Int64)) (q1 + (-9223372036854775808 : Int64)) h0 n0 Z0) hZ (hw _ (List.mem_of_getElem? (i := 62) rfl)) (hw _ (List.mem_of_getElem? (i := 57) rfl)) (by decide) (by decide)) (g := (mkF m 10 #[.val (.long q0), .second, .val (.long q1), .second] [(.long (q1 + (-9223372036854775808 : Int64))), (.long (q0 + (-9223372036854775808 : Int64)))])) rfl (by rw [hml]; rfl) (argsL := [(.long (q0 + (-9223372036854775808 : Int64))), (.long (q1 + (-9223372036854775808 : Int64)))]) (rest := []) (lenOf own_pd0 rfl) rfl (by show 2 * 0 + _ ≤ _; exact Nat.le_of_eq rfl) (hb hby own_d9_10) (fun _ _ => ⟨rfl, e0, (by decide : 0 + 0 ≤ _), (by decide : 0 + 0 ≤ _)⟩)
  dsimp only [Pt.U, Pt.locs, Pt.cells, Pt.slots] at Xg10 lg10 yg10 zg10 stg10 hQg10
  subst lg10 yg10 zg10
  obtain ⟨rfl, Ng10q, eg10⟩ := hQg10
  have Ng10 := Fr.app N0 Ng10q
  refine own_st (stg10) ?_
  obtain ⟨fs, hr, hrun, hended, hW, hsame⟩ := Xg10.leave (v := some (.int (if (q0 + (-9223372036854775808 : Int64)) < (q1 + (-9223372036854775808 : Int64)) then (-1 : Int32) else (if (q0 + (-9223372036854775808 : Int64)) = (q1 + (-9223372036854775808 : Int64)) then (0 : Int32) else (1 : Int32))))) (fun h => by rw [Bd.returns] at h; cases h)
  have hend : Steps p.tables e below (Tg10.setTop (mkF m 13 #[.val (.long q0), .second, .val (.long q1), .second] [(.int (if (q0 + (-9223372036854775808 : Int64)) < (q1 + (-9223372036854775808 : Int64)) then (-1 : Int32) else (if (q0 + (-9223372036854775808 : Int64)) = (q1 + (-9223372036854775808 : Int64)) then (0 : Int32) else (1 : Int32))))])) (Tg10.setFrames fs) := by
    exact retI Xg10 hx Bd.returns (hb hby own_d9_13) hr
  refine own_fin hend ⟨_, hrun, hended, _, _, rfl, ?_, ⟨_, rfl⟩, hW, hsame.mono (by decide) (by decide)⟩
  show own_Q9 Z q0 q1 h0 n0 _ Tg10.heap _
  rw [eg10]
  exact ⟨(congrArg (fun z => some (Value.int z)) rfl), Ng10, rfl⟩
theorem own_pn2 : plainName "com/example/wireform/wireform/wire/WireReader" = true := by first | (simp [plainName, overriddenIn]; done) | decide +kernel
theorem own_d3_0 : decode prog_71_method_3_code 0 = .ok (.aload_n 0, 1) := by decide +kernel
theorem own_d3_1 : decode prog_71_method_3_code 1 = .ok (.invokespecial 25, 3) := by decide +kernel
theorem own_d3_4 : decode prog_71_method_3_code 4 = .ok (.aload_n 0, 1) := by decide +kernel
theorem own_d3_5 : decode prog_71_method_3_code 5 = .ok (.aload_n 1, 1) := by decide +kernel
theorem own_d3_6 : decode prog_71_method_3_code 6 = .ok (.putfield 30, 3) := by decide +kernel
theorem own_d3_9 : decode prog_71_method_3_code 9 = .ok (.aload_n 0, 1) := by decide +kernel
theorem own_d3_10 : decode prog_71_method_3_code 10 = .ok (.iload_n 2, 1) := by decide +kernel
theorem own_d3_11 : decode prog_71_method_3_code 11 = .ok (.putfield 32, 3) := by decide +kernel
theorem own_d3_14 : decode prog_71_method_3_code 14 = .ok (.aload_n 0, 1) := by decide +kernel
theorem own_d3_15 : decode prog_71_method_3_code 15 = .ok (.aload_n 3, 1) := by decide +kernel
theorem own_d3_16 : decode prog_71_method_3_code 16 = .ok (.putfield 36, 3) := by decide +kernel
theorem own_d3_19 : decode prog_71_method_3_code 19 = .ok (.aload_n 0, 1) := by decide +kernel
theorem own_d3_20 : decode prog_71_method_3_code 20 = .ok (.iload_n 2, 1) := by decide +kernel
theorem own_d3_21 : decode prog_71_method_3_code 21 = .ok (.putfield 40, 3) := by decide +kernel
theorem own_d3_24 : decode prog_71_method_3_code 24 = .ok (.return_, 1) := by decide +kernel
theorem own_ef3 (m : MethodId) (r0 : Addr) (r1 : Addr) (p2 : Int32) (r3 : Addr) : entryFrame m #[(.ref r0), (.ref r1), (.int p2), (.ref r3)] 4 = mkF m 0 #[.val (.ref r0), .val (.ref r1), .val (.int p2), .val (.ref r3)] [] := by first | (simp [entryFrame, mkF, argsToLocals, Value.category]; done) | rfl
def own_Q3 (Z : State) (r0 : Addr) (r1 : Addr) (p2 : Int32) (r3 : Addr) (h0 : Heap) (n0 : Nat) (v : Option Value) (h : Heap) (L : List Loc) : Prop := (v = none) ∧ (Fr n0 L) ∧ (Keep h0 h [r0]) ∧ (Exa Z h r0 "com/example/wireform/wireform/wire/WireReader") ∧ (Fld Z h r0 "com/example/wireform/wireform/wire/WireReader" "bytes" "[B" (.ref r1)) ∧ (Fld Z h r0 "com/example/wireform/wireform/wire/WireReader" "end" "I" (.int p2)) ∧ (Fld Z h r0 "com/example/wireform/wireform/wire/WireReader" "nesting" "Lcom/example/wireform/wireform/wire/Nesting;" (.ref r3)) ∧ (Fld Z h r0 "com/example/wireform/wireform/wire/WireReader" "limit" "I" (.int p2)) ∧ (Fld Z h r0 "com/example/wireform/wireform/wire/WireReader" "position" "I" (.int (0 : Int32)))
set_option maxRecDepth 65536 in
set_option maxHeartbeats 40000000 in
theorem own_rm3 (l : Launch) (Z : State) (a0 : Array Value) (hw : ∀ d ∈ tables_1, d.before a0 Z = true) (ws : List Jvm.Cond) (r0 : Addr) (r1 : Addr) (p2 : Int32) (r3 : Addr) (h0 : Heap) (n0 : Nat) (Z0 : n0 ≤ h0.size) (E_r0 : Exa Z h0 r0 "com/example/wireform/wireform/wire/WireReader") (F_r0_bytes : Fld Z h0 r0 "com/example/wireform/wireform/wire/WireReader" "bytes" "[B" .null) (F_r0_end : Fld Z h0 r0 "com/example/wireform/wireform/wire/WireReader" "end" "I" (.int (0 : Int32))) (F_r0_nesting : Fld Z h0 r0 "com/example/wireform/wireform/wire/WireReader" "nesting" "Lcom/example/wireform/wireform/wire/Nesting;" .null) (F_r0_limit : Fld Z h0 r0 "com/example/wireform/wireform/wire/WireReader" "limit" "I" (.int (0 : Int32))) (F_r0_position : Fld Z h0 r0 "com/example/wireform/wireform/wire/WireReader" "position" "I" (.int (0 : Int32))) (g_r0 : n0 ≤ r0) :
    MetFree l (⟨"com/example/wireform/wireform/wire/WireReader", "<init>", "([BILcom/example/wireform/wireform/wire/Nesting;)V"⟩ : MethodName) (head1 (Jvm.Cond.code (⟨"com/example/wireform/wireform/wire/WireReader", "<init>", "([BILcom/example/wireform/wireform/wire/Nesting;)V"⟩ : MethodName) prog_71_method_3_code 4 none :: ws) ({ frames := 1, cells := 0, slots := 0, locals := 12 } : Room)) (fun a U => a = #[(.ref r0), (.ref r1), (.int p2), (.ref r3)] ∧ Z.Warmed39 U.vm ∧ U.heap = h0) (fun _ _ _ _ _ => True) (fun _ U o U' => ∃ v L, o = .returned v ∧ own_Q3 Z r0 r1 p2 r3 h0 n0 v U'.heap L ∧ FrameEnd U o U' L ({ frames := 1, cells := 0, slots := 0, locals := 12 } : Room).cells ({ frames := 1, cells := 0, slots := 0, locals := 12 } : Room).slots) := by
  refine MetFree.of_bodySF (plainFor_of_name own_pn2) hisR ?_
  intro p e s m args below meth c s₁ Bd hml0 hP hK
  obtain ⟨rfl, hZ, hh⟩ := hP
  have hx := Bd.exec
  have hby := Bd.bytes
  have hml : c.maxLocals = 4 := hml0
  have hown : s.vm.findClass "com/example/wireform/wireform/wire/WireReader" = some m.cls := findClass_of_methodNamed Bd.named
  have hnm := (name_of_methodNamed Bd.named Bd.method).1
  have X0 : Stand p l e ({ frames := 1, cells := 0, slots := 0, locals := 12 } : Room) s m #[(.ref r0), (.ref r1), (.int p2), (.ref r3)] below meth c s₁ [] 0 0 := Stand.of_body Bd
  have e0 : s₁.heap = h0 := by rw [← hh, Bd.state]; rfl
  have N0 := Fr.nil n0
  have pre0 : ∀ t, Steps p.tables e below (s₁.setTop (mkF m 0 #[.val (.ref r0), .val (.ref r1), .val (.int p2), .val (.ref r3)] [])) t → Steps p.tables e below (s₁.setTop (entryFrame m #[(.ref r0), (.ref r1), (.int p2), (.ref r3)] 4)) t := fun t k => castTop (own_ef3 m r0 r1 p2 r3) k
  refine own_run (own_st pre0 ?_)
  refine own_st (B := s₁.setTop (mkF m 1 #[.val (.ref r0), .val (.ref r1), .val (.int p2), .val (.ref r3)] [(.ref r0)])) (fun target kt => ?_) ?_
  · show Steps p.tables e below (s₁.setTop (mkF m 0 #[.val (.ref r0), .val (.ref r1), .val (.int p2), .val (.ref r3)] [])) target
    refine XS.aloadN X0.here hx rfl (hb hby own_d3_0) rfl rfl ?_
    exact kt
  obtain ⟨Tg1, Xg1, eg1, stg1⟩ := initO X0 hx hZ hown (hw _ (List.mem_of_getElem? (i := 18) rfl)) (hw _ (List.mem_of_getElem? (i := 8) rfl)) (hw _ (List.mem_of_getElem? (i := 9) rfl)) e0 (g := (mkF m 1 #[.val (.ref r0), .val (.ref r1), .val (.int p2), .val (.ref r3)] [(.ref r0)])) rfl (by rw [hml]; rfl) rfl (hb hby own_d3_1) (by decide) (W := 0) (by show 2 * 0 + _ ≤ _; exact Nat.le_of_eq rfl) (by decide)
  refine own_st stg1 ?_
  refine own_st (B := Tg1.setTop (mkF m 6 #[.val (.ref r0), .val (.ref r1), .val (.int p2), .val (.ref r3)] [(.ref r1), (.ref r0)])) (fun target kt => ?_) ?_
  · show Steps p.tables e below (Tg1.setTop (mkF m 4 #[.val (.ref r0), .val (.ref r1), .val (.int p2), .val (.ref r3)] [])) target
    refine XS.aloadN Xg1.here hx rfl (hb hby own_d3_4) rfl rfl ?_
    show Steps p.tables e below (Tg1.setTop (mkF m 5 #[.val (.ref r0), .val (.ref r1), .val (.int p2), .val (.ref r3)] [(.ref r0)])) target
    refine XS.aloadN Xg1.here hx rfl (hb hby own_d3_5) rfl rfl ?_
    exact kt
  obtain ⟨Tg6, hg6, Xg6, eg6, Wg6, stg6⟩ := putF Xg1 hx hZ hown (host := "") (Or.inl (hw _ (List.mem_of_getElem? (i := 19) rfl))) Via.refl eg1 F_r0_bytes E_r0 (Or.inr ⟨(hw _ (List.mem_of_getElem? (i := 20) rfl)), rfl, hnm⟩) (hw _ (List.mem_of_getElem? (i := 13) rfl)) (ty := (.array .byte)) (by decide) rfl rfl (g := (mkF m 6 #[.val (.ref r0), .val (.ref r1), .val (.int p2), .val (.ref r3)] [(.ref r1), (.ref r0)])) rfl rfl (hb hby own_d3_6)
  refine own_st stg6 ?_
  have Ng6 := Fr.snoc Xg6 N0 g_r0
  have F := E_r0.wr Wg6
  have F_1 := F_r0_bytes.same Wg6
  have F_2 := F_r0_end.other Wg6 (Or.inr (slot_ne (Or.inr (hw _ (List.mem_of_getElem? (i := 22) rfl))) (Or.inr (hw _ (List.mem_of_getElem? (i := 20) rfl))) (by decide) (t := .int) (t' := (.array .byte)) (by decide) (by decide)))
  have F_3 := F_r0_nesting.other Wg6 (Or.inr (slot_ne (Or.inr (hw _ (List.mem_of_getElem? (i := 24) rfl))) (Or.inr (hw _ (List.mem_of_getElem? (i := 20) rfl))) (by decide) (t := (.object "com/example/wireform/wireform/wire/Nesting")) (t' := (.array .byte)) (by decide) (by decide)))
  have F_4 := F_r0_limit.other Wg6 (Or.inr (slot_ne (Or.inl (hw _ (List.mem_of_getElem? (i := 26) rfl))) (Or.inr (hw _ (List.mem_of_getElem? (i := 20) rfl))) (by decide) (t := .int) (t' := (.array .byte)) (by decide) (by decide)))
  have F_5 := F_r0_position.other Wg6 (Or.inr (slot_ne (Or.inl (hw _ (List.mem_of_getElem? (i := 49) rfl))) (Or.inr (hw _ (List.mem_of_getElem? (i := 20) rfl))) (by decide) (t := .int) (t' := (.array .byte)) (by decide) (by decide)))
  have Zz : n0 ≤ hg6.size := Nat.le_trans Z0 (Keep.of_wr Wg6).1
  have Kc := (Keep.refl h0 [r0]).wr Wg6 (Or.inl (List.mem_of_getElem? (i := 0) rfl))
  refine own_st (B := Tg6.setTop (mkF m 11 #[.val (.ref r0), .val (.ref r1), .val (.int p2), .val (.ref r3)] [(.int p2), (.ref r0)])) (fun target kt => ?_) ?_
  · show Steps p.tables e below (Tg6.setTop (mkF m 9 #[.val (.ref r0), .val (.ref r1), .val (.int p2), .val (.ref r3)] [])) target
    refine XS.aloadN Xg6.here hx rfl (hb hby own_d3_9) rfl rfl ?_
    show Steps p.tables e below (Tg6.setTop (mkF m 10 #[.val (.ref r0), .val (.ref r1), .val (.int p2), .val (.ref r3)] [(.ref r0)])) target
    refine XS.iloadN Xg6.here hx rfl (hb hby own_d3_10) rfl ?_
    exact kt
  obtain ⟨Tg11, hg11, Xg11, eg11, Wg11, stg11⟩ := putF Xg6 hx hZ hown (host := "") (Or.inl (hw _ (List.mem_of_getElem? (i := 21) rfl))) Via.refl eg6 F_2 F (Or.inr ⟨(hw _ (List.mem_of_getElem? (i := 22) rfl)), rfl, hnm⟩) (hw _ (List.mem_of_getElem? (i := 13) rfl)) (ty := .int) (by decide) rfl rfl (g := (mkF m 11 #[.val (.ref r0), .val (.ref r1), .val (.int p2), .val (.ref r3)] [(.int p2), (.ref r0)])) rfl rfl (hb hby own_d3_11)
  refine own_st stg11 ?_
  have Ng11 := Fr.snoc Xg11 Ng6 g_r0
  have F_6 := F.wr Wg11
  have F_7 := F_1.other Wg11 (Or.inr (slot_ne (Or.inr (hw _ (List.mem_of_getElem? (i := 20) rfl))) (Or.inr (hw _ (List.mem_of_getElem? (i := 22) rfl))) (by decide) (t := (.array .byte)) (t' := .int) (by decide) (by decide)))
  have F_8 := F_2.same Wg11
  have F_9 := F_3.other Wg11 (Or.inr (slot_ne (Or.inr (hw _ (List.mem_of_getElem? (i := 24) rfl))) (Or.inr (hw _ (List.mem_of_getElem? (i := 22) rfl))) (by decide) (t := (.object "com/example/wireform/wireform/wire/Nesting")) (t' := .int) (by decide) (by decide)))
  have F_10 := F_4.other Wg11 (Or.inr (slot_ne (Or.inl (hw _ (List.mem_of_getElem? (i := 26) rfl))) (Or.inr (hw _ (List.mem_of_getElem? (i := 22) rfl))) (by decide) (t := .int) (t' := .int) (by decide) (by decide)))
  have F_11 := F_5.other Wg11 (Or.inr (slot_ne (Or.inl (hw _ (List.mem_of_getElem? (i := 49) rfl))) (Or.inr (hw _ (List.mem_of_getElem? (i := 22) rfl))) (by decide) (t := .int) (t' := .int) (by decide) (by decide)))
  have Zz_1 : n0 ≤ hg11.size := Nat.le_trans Zz (Keep.of_wr Wg11).1
  have Kc_1 := Kc.wr Wg11 (Or.inl (List.mem_of_getElem? (i := 0) rfl))
  refine own_st (B := Tg11.setTop (mkF m 16 #[.val (.ref r0), .val (.ref r1), .val (.int p2), .val (.ref r3)] [(.ref r3), (.ref r0)])) (fun target kt => ?_) ?_
  · show Steps p.tables e below (Tg11.setTop (mkF m 14 #[.val (.ref r0), .val (.ref r1), .val (.int p2), .val (.ref r3)] [])) target
    refine XS.aloadN Xg11.here hx rfl (hb hby own_d3_14) rfl rfl ?_
    show Steps p.tables e below (Tg11.setTop (mkF m 15 #[.val (.ref r0), .val (.ref r1), .val (.int p2), .val (.ref r3)] [(.ref r0)])) target
    refine XS.aloadN Xg11.here hx rfl (hb hby own_d3_15) rfl rfl ?_
    exact kt
  obtain ⟨Tg16, hg16, Xg16, eg16, Wg16, stg16⟩ := putF Xg11 hx hZ hown (host := "") (Or.inl (hw _ (List.mem_of_getElem? (i := 23) rfl))) Via.refl eg11 F_9 F_6 (Or.inr ⟨(hw _ (List.mem_of_getElem? (i := 24) rfl)), rfl, hnm⟩) (hw _ (List.mem_of_getElem? (i := 13) rfl)) (ty := (.object "com/example/wireform/wireform/wire/Nesting")) (by decide) rfl rfl (g := (mkF m 16 #[.val (.ref r0), .val (.ref r1), .val (.int p2), .val (.ref r3)] [(.ref r3), (.ref r0)])) rfl rfl (hb hby own_d3_16)
  refine own_st stg16 ?_
  have Ng16 := Fr.snoc Xg16 Ng11 g_r0
  have F_12 := F_6.wr Wg16
  have F_13 := F_7.other Wg16 (Or.inr (slot_ne (Or.inr (hw _ (List.mem_of_getElem? (i := 20) rfl))) (Or.inr (hw _ (List.mem_of_getElem? (i := 24) rfl))) (by decide) (t := (.array .byte)) (t' := (.object "com/example/wireform/wireform/wire/Nesting")) (by decide) (by decide)))
  have F_14 := F_8.other Wg16 (Or.inr (slot_ne (Or.inr (hw _ (List.mem_of_getElem? (i := 22) rfl))) (Or.inr (hw _ (List.mem_of_getElem? (i := 24) rfl))) (by decide) (t := .int) (t' := (.object "com/example/wireform/wireform/wire/Nesting")) (by decide) (by decide)))
  have F_15 := F_9.same Wg16
  have F_16 := F_10.other Wg16 (Or.inr (slot_ne (Or.inl (hw _ (List.mem_of_getElem? (i := 26) rfl))) (Or.inr (hw _ (List.mem_of_getElem? (i := 24) rfl))) (by decide) (t := .int) (t' := (.object "com/example/wireform/wireform/wire/Nesting")) (by decide) (by decide)))
  have F_17 := F_11.other Wg16 (Or.inr (slot_ne (Or.inl (hw _ (List.mem_of_getElem? (i := 49) rfl))) (Or.inr (hw _ (List.mem_of_getElem? (i := 24) rfl))) (by decide) (t := .int) (t' := (.object "com/example/wireform/wireform/wire/Nesting")) (by decide) (by decide)))
  have Zz_2 : n0 ≤ hg16.size := Nat.le_trans Zz_1 (Keep.of_wr Wg16).1
  have Kc_2 := Kc_1.wr Wg16 (Or.inl (List.mem_of_getElem? (i := 0) rfl))
  refine own_st (B := Tg16.setTop (mkF m 21 #[.val (.ref r0), .val (.ref r1), .val (.int p2), .val (.ref r3)] [(.int p2), (.ref r0)])) (fun target kt => ?_) ?_
  · show Steps p.tables e below (Tg16.setTop (mkF m 19 #[.val (.ref r0), .val (.ref r1), .val (.int p2), .val (.ref r3)] [])) target
    refine XS.aloadN Xg16.here hx rfl (hb hby own_d3_19) rfl rfl ?_
    show Steps p.tables e below (Tg16.setTop (mkF m 20 #[.val (.ref r0), .val (.ref r1), .val (.int p2), .val (.ref r3)] [(.ref r0)])) target
    refine XS.iloadN Xg16.here hx rfl (hb hby own_d3_20) rfl ?_
    exact kt
  obtain ⟨Tg21, hg21, Xg21, eg21, Wg21, stg21⟩ := putF Xg16 hx hZ hown (host := "") (Or.inl (hw _ (List.mem_of_getElem? (i := 25) rfl))) Via.refl eg16 F_16 F_12 (Or.inl (hw _ (List.mem_of_getElem? (i := 26) rfl))) (hw _ (List.mem_of_getElem? (i := 13) rfl)) (ty := .int) (by decide) rfl rfl (g := (mkF m 21 #[.val (.ref r0), .val (.ref r1), .val (.int p2), .val (.ref r3)] [(.int p2), (.ref r0)])) rfl rfl (hb hby own_d3_21)
  refine own_st stg21 ?_
  have Ng21 := Fr.snoc Xg21 Ng16 g_r0
  have F_18 := F_12.wr Wg21
  have F_19 := F_13.other Wg21 (Or.inr (slot_ne (Or.inr (hw _ (List.mem_of_getElem? (i := 20) rfl))) (Or.inl (hw _ (List.mem_of_getElem? (i := 26) rfl))) (by decide) (t := (.array .byte)) (t' := .int) (by decide) (by decide)))
  have F_20 := F_14.other Wg21 (Or.inr (slot_ne (Or.inr (hw _ (List.mem_of_getElem? (i := 22) rfl))) (Or.inl (hw _ (List.mem_of_getElem? (i := 26) rfl))) (by decide) (t := .int) (t' := .int) (by decide) (by decide)))
  have F_21 := F_15.other Wg21 (Or.inr (slot_ne (Or.inr (hw _ (List.mem_of_getElem? (i := 24) rfl))) (Or.inl (hw _ (List.mem_of_getElem? (i := 26) rfl))) (by decide) (t := (.object "com/example/wireform/wireform/wire/Nesting")) (t' := .int) (by decide) (by decide)))
  have F_22 := F_16.same Wg21
  have F_23 := F_17.other Wg21 (Or.inr (slot_ne (Or.inl (hw _ (List.mem_of_getElem? (i := 49) rfl))) (Or.inl (hw _ (List.mem_of_getElem? (i := 26) rfl))) (by decide) (t := .int) (t' := .int) (by decide) (by decide)))
  have Zz_3 : n0 ≤ hg21.size := Nat.le_trans Zz_2 (Keep.of_wr Wg21).1
  have Kc_3 := Kc_2.wr Wg21 (Or.inl (List.mem_of_getElem? (i := 0) rfl))
  obtain ⟨fs, hr, hrun, hended, hW, hsame⟩ := Xg21.leave (v := none) (fun _ => rfl)
  have hend : Steps p.tables e below (Tg21.setTop (mkF m 24 #[.val (.ref r0), .val (.ref r1), .val (.int p2), .val (.ref r3)] [])) (Tg21.setFrames fs) := by
    exact Xg21.returnOut hx Bd.returns (hb hby own_d3_24) hr
  refine own_fin hend ⟨_, hrun, hended, _, _, rfl, ?_, ⟨_, rfl⟩, hW, hsame.mono (by decide) (by decide)⟩
  show own_Q3 Z r0 r1 p2 r3 h0 n0 _ Tg21.heap _
  rw [eg21]
  exact ⟨rfl, Ng21, Kc_3, F_18, F_19, F_20, F_21, F_22, F_23⟩
theorem own_d14_0 : decode prog_71_method_4_code 0 = .ok (.aload_n 0, 1) := by decide +kernel
theorem own_d14_1 : decode prog_71_method_4_code 1 = .ok (.getfield 43, 3) := by decide +kernel
theorem own_d14_4 : decode prog_71_method_4_code 4 = .ok (.aload_n 0, 1) := by decide +kernel
theorem own_d14_5 : decode prog_71_method_4_code 5 = .ok (.getfield 40, 3) := by decide +kernel
theorem own_d14_8 : decode prog_71_method_4_code 8 = .ok (.if_icmp .ne 7, 3) := by decide +kernel
theorem own_d14_11 : decode prog_71_method_4_code 11 = .ok (.iconst 1, 1) := by decide +kernel
theorem own_d14_12 : decode prog_71_method_4_code 12 = .ok (.goto 4, 3) := by decide +kernel
theorem own_d14_15 : decode prog_71_method_4_code 15 = .ok (.iconst 0, 1) := by decide +kernel
theorem own_d14_16 : decode prog_71_method_4_code 16 = .ok (.ireturn, 1) := by decide +kernel
theorem own_ef14 (m : MethodId) (r0 : Addr) : entryFrame m #[(.ref r0)] 1 = mkF m 0 #[.val (.ref r0)] [] := by first | (simp [entryFrame, mkF, argsToLocals, Value.category]; done) | rfl
def own_Q14 (Z : State) (r0 : Addr) (w_m : Int32) (w_p : Int32) (h0 : Heap) (n0 : Nat) (v : Option Value) (h : Heap) (L : List Loc) : Prop := (v = some (.int (own_b (w_p = w_m)))) ∧ (Fr n0 L) ∧ (h = h0)
set_option maxRecDepth 65536 in
set_option maxHeartbeats 40000000 in
theorem own_rm14 (l : Launch) (Z : State) (a0 : Array Value) (hw : ∀ d ∈ tables_1, d.before a0 Z = true) (ws : List Jvm.Cond) (r0 : Addr) (w_m : Int32) (w_p : Int32) (h0 : Heap) (n0 : Nat) (Z0 : n0 ≤ h0.size) (F_r0_limit : Fld Z h0 r0 "com/example/wireform/wireform/wire/WireReader" "limit" "I" (.int w_m)) (F_r0_position : Fld Z h0 r0 "com/example/wireform/wireform/wire/WireReader" "position" "I" (.int w_p)) :
    MetFree l (⟨"com/example/wireform/wireform/wire/WireReader", "isAtEnd", "()Z"⟩ : MethodName) (head1 (Jvm.Cond.code (⟨"com/example/wireform/wireform/wire/WireReader", "isAtEnd", "()Z"⟩ : MethodName) prog_71_method_4_code 1 (some .boolean) :: ws) ({ frames := 0, cells := 0, slots := 0, locals := 0 } : Room)) (fun a U => a = #[(.ref r0)] ∧ Z.Warmed39 U.vm ∧ U.heap = h0) (fun _ _ _ _ _ => True) (fun _ U o U' => ∃ v L, o = .returned v ∧ own_Q14 Z r0 w_m w_p h0 n0 v U'.heap L ∧ FrameEnd U o U' L ({ frames := 0, cells := 0, slots := 0, locals := 0 } : Room).cells ({ frames := 0, cells := 0, slots := 0, locals := 0 } : Room).slots) := by
  refine MetFree.of_bodySF (plainFor_of_name own_pn2) hisR ?_
  intro p e s m args below meth c s₁ Bd hml0 hP hK
  obtain ⟨rfl, hZ, hh⟩ := hP
  have hx := Bd.exec
  have hby := Bd.bytes
  have hml : c.maxLocals = 1 := hml0
  have hown : s.vm.findClass "com/example/wireform/wireform/wire/WireReader" = some m.cls := findClass_of_methodNamed Bd.named
  have hnm := (name_of_methodNamed Bd.named Bd.method).1
  have X0 : Stand p l e ({ frames := 0, cells := 0, slots := 0, locals := 0 } : Room) s m #[(.ref r0)] below meth c s₁ [] 0 0 := Stand.of_body Bd
  have e0 : s₁.heap = h0 := by rw [← hh, Bd.state]; rfl
  have N0 := Fr.nil n0
  have pre0 : ∀ t, Steps p.tables e below (s₁.setTop (mkF m 0 #[.val (.ref r0)] [])) t → Steps p.tables e below (s₁.setTop (entryFrame m #[(.ref r0)] 1)) t := fun t k => castTop (own_ef14 m r0) k
  refine own_run (own_st pre0 ?_)
  refine own_st (B := s₁.setTop (mkF m 1 #[.val (.ref r0)] [(.ref r0)])) (fun target kt => ?_) ?_
  · show Steps p.tables e below (s₁.setTop (mkF m 0 #[.val (.ref r0)] [])) target
    refine XS.aloadN X0.here hx rfl (hb hby own_d14_0) rfl rfl ?_
    exact kt
  obtain ⟨Tg1, Xg1, eg1, stg1⟩ := getF X0 hx hZ hown (host := "") (Or.inl (hw _ (List.mem_of_getElem? (i := 48) rfl))) Via.refl e0 F_r0_position (g := (mkF m 1 #[.val (.ref r0)] [(.ref r0)])) rfl rfl (hb hby own_d14_1)
  refine own_st stg1 ?_
  refine own_st (B := Tg1.setTop (mkF m 5 #[.val (.ref r0)] [(.ref r0), (.int w_p)])) (fun target kt => ?_) ?_
  · show Steps p.tables e below (Tg1.setTop (mkF m 4 #[.val (.ref r0)] [(.int w_p)])) target
    refine XS.aloadN Xg1.here hx rfl (hb hby own_d14_4) rfl rfl ?_
    exact kt
  obtain ⟨Tg5, Xg5, eg5, stg5⟩ := getF Xg1 hx hZ hown (host := "") (Or.inl (hw _ (List.mem_of_getElem? (i := 25) rfl))) Via.refl eg1 F_r0_limit (g := (mkF m 5 #[.val (.ref r0)] [(.ref r0), (.int w_p)])) rfl rfl (hb hby own_d14_5)
  refine own_st stg5 ?_
  obtain ⟨_, ⟨j16_s0, rfl, rfl⟩, st_M16⟩ : own_Lead p.tables e below (Tg5.setTop (mkF m 8 #[.val (.ref r0)] [(.int w_m), (.int w_p)])) (fun B => ∃ (j16_s0 : Int32), B = Tg5.setTop (mkF m 16 #[.val (.ref r0)] [(.int j16_s0)]) ∧ j16_s0 = own_b (w_p = w_m)) := by
    by_cases c8 : w_p = w_m
    · refine own_st (B := Tg5.setTop (mkF m 16 #[.val (.ref r0)] [(.int (1 : Int32))])) (fun target kt => ?_) ?_
      · show Steps p.tables e below (Tg5.setTop (mkF m 8 #[.val (.ref r0)] [(.int w_m), (.int w_p)])) target
        refine XS.icmpNo Xg5.here hx rfl (hb hby own_d14_8) rfl (teq c8).2 ?_
        show Steps p.tables e below (Tg5.setTop (mkF m 11 #[.val (.ref r0)] [])) target
        refine XS.iconst Xg5.here hx rfl (hb hby own_d14_11) ?_
        show Steps p.tables e below (Tg5.setTop (mkF m 12 #[.val (.ref r0)] [(.int (1 : Int32))])) target
        refine XS.goto Xg5.here hx rfl (pc0 := 12) (pc' := 16) rfl (hb hby own_d14_12) (by decide) (by decide) ?_
        exact kt
      exact ⟨_, ⟨(1 : Int32), rfl, (own_b1 c8).symm⟩, fun _ k => k⟩
    · refine own_st (B := Tg5.setTop (mkF m 16 #[.val (.ref r0)] [(.int (0 : Int32))])) (fun target kt => ?_) ?_
      · show Steps p.tables e below (Tg5.setTop (mkF m 8 #[.val (.ref r0)] [(.int w_m), (.int w_p)])) target
        refine XS.icmpYes Xg5.here hx rfl (pc0 := 8) (pc' := 15) rfl (hb hby own_d14_8) rfl (feq c8).2 (by decide) (by decide) ?_
        show Steps p.tables e below (Tg5.setTop (mkF m 15 #[.val (.ref r0)] [])) target
        refine XS.iconst Xg5.here hx rfl (hb hby own_d14_15) ?_
        exact kt
      exact ⟨_, ⟨(0 : Int32), rfl, (own_b0 c8).symm⟩, fun _ k => k⟩
  refine own_st st_M16 ?_
  obtain ⟨fs, hr, hrun, hended, hW, hsame⟩ := Xg5.leave (v := some (.int (nar .boolean (own_b (w_p = w_m))))) (fun h => by rw [Bd.returns] at h; cases h)
  have hend : Steps p.tables e below (Tg5.setTop (mkF m 16 #[.val (.ref r0)] [(.int (own_b (w_p = w_m)))])) (Tg5.setFrames fs) := by
    exact retN Xg5 hx (t := .boolean) Bd.returns (by simp) (hb hby own_d14_16) hr
  refine own_fin hend ⟨_, hrun, hended, _, _, rfl, ?_, ⟨_, rfl⟩, hW, hsame.mono (by decide) (by decide)⟩
  show own_Q14 Z r0 w_m w_p h0 n0 _ Tg5.heap _
  rw [eg5]
  exact ⟨(congrArg (fun z => some (Value.int z)) ((own_nar rfl).trans (own_bi ⟨fun w => w, fun w => w⟩))), N0, rfl⟩
theorem own_d8_0 : decode prog_71_method_5_code 0 = .ok (.aload_n 0, 1) := by decide +kernel
theorem own_d8_1 : decode prog_71_method_5_code 1 = .ok (.getfield 43, 3) := by decide +kernel
theorem own_d8_4 : decode prog_71_method_5_code 4 = .ok (.istore_n 1, 1) := by decide +kernel
theorem own_d8_5 : decode prog_71_method_5_code 5 = .ok (.lconst 0, 1) := by decide +kernel
theorem own_d8_6 : decode prog_71_method_5_code 6 = .ok (.lstore_n 2, 1) := by decide +kernel
theorem own_d8_7 : decode prog_71_method_5_code 7 = .ok (.iconst 0, 1) := by decide +kernel
theorem own_d8_8 : decode prog_71_method_5_code 8 = .ok (.istore 4, 2) := by decide +kernel
theorem own_d8_10 : decode prog_71_method_5_code 10 = .ok (.iload 4, 2) := by decide +kernel
theorem own_d8_12 : decode prog_71_method_5_code 12 = .ok (.bipush 10, 2) := by decide +kernel
theorem own_d8_14 : decode prog_71_method_5_code 14 = .ok (.if_icmp .ge 95, 3) := by decide +kernel
theorem own_d8_17 : decode prog_71_method_5_code 17 = .ok (.aload_n 0, 1) := by decide +kernel
theorem own_d8_18 : decode prog_71_method_5_code 18 = .ok (.getfield 43, 3) := by decide +kernel
theorem own_d8_21 : decode prog_71_method_5_code 21 = .ok (.aload_n 0, 1) := by decide +kernel
theorem own_d8_22 : decode prog_71_method_5_code 22 = .ok (.getfield 40, 3) := by decide +kernel
theorem own_d8_25 : decode prog_71_method_5_code 25 = .ok (.if_icmp .ne 11, 3) := by decide +kernel
theorem own_d8_36 : decode prog_71_method_5_code 36 = .ok (.aload_n 0, 1) := by decide +kernel
theorem own_d8_37 : decode prog_71_method_5_code 37 = .ok (.getfield 30, 3) := by decide +kernel
theorem own_d8_40 : decode prog_71_method_5_code 40 = .ok (.aload_n 0, 1) := by decide +kernel
theorem own_d8_41 : decode prog_71_method_5_code 41 = .ok (.dup, 1) := by decide +kernel
theorem own_d8_42 : decode prog_71_method_5_code 42 = .ok (.getfield 43, 3) := by decide +kernel
theorem own_d8_45 : decode prog_71_method_5_code 45 = .ok (.dup_x1, 1) := by decide +kernel
theorem own_d8_46 : decode prog_71_method_5_code 46 = .ok (.iconst 1, 1) := by decide +kernel
theorem own_d8_47 : decode prog_71_method_5_code 47 = .ok (.iadd, 1) := by decide +kernel
theorem own_d8_48 : decode prog_71_method_5_code 48 = .ok (.putfield 43, 3) := by decide +kernel
theorem own_d8_51 : decode prog_71_method_5_code 51 = .ok (.baload, 1) := by decide +kernel
theorem own_d8_52 : decode prog_71_method_5_code 52 = .ok (.istore 5, 2) := by decide +kernel
theorem own_d8_54 : decode prog_71_method_5_code 54 = .ok (.lload_n 2, 1) := by decide +kernel
theorem own_d8_55 : decode prog_71_method_5_code 55 = .ok (.iload 5, 2) := by decide +kernel
theorem own_d8_57 : decode prog_71_method_5_code 57 = .ok (.bipush 127, 2) := by decide +kernel
theorem own_d8_59 : decode prog_71_method_5_code 59 = .ok (.iand, 1) := by decide +kernel
theorem own_d8_60 : decode prog_71_method_5_code 60 = .ok (.i2l, 1) := by decide +kernel
theorem own_d8_61 : decode prog_71_method_5_code 61 = .ok (.bipush 7, 2) := by decide +kernel
theorem own_d8_63 : decode prog_71_method_5_code 63 = .ok (.iload 4, 2) := by decide +kernel
theorem own_d8_65 : decode prog_71_method_5_code 65 = .ok (.imul, 1) := by decide +kernel
theorem own_d8_66 : decode prog_71_method_5_code 66 = .ok (.lshl, 1) := by decide +kernel
theorem own_d8_67 : decode prog_71_method_5_code 67 = .ok (.lor, 1) := by decide +kernel
theorem own_d8_68 : decode prog_71_method_5_code 68 = .ok (.lstore_n 2, 1) := by decide +kernel
theorem own_d8_69 : decode prog_71_method_5_code 69 = .ok (.iload 5, 2) := by decide +kernel
theorem own_d8_71 : decode prog_71_method_5_code 71 = .ok (.ifCond .lt 32, 3) := by decide +kernel
theorem own_d8_74 : decode prog_71_method_5_code 74 = .ok (.iload 4, 2) := by decide +kernel
theorem own_d8_76 : decode prog_71_method_5_code 76 = .ok (.bipush 9, 2) := by decide +kernel
theorem own_d8_78 : decode prog_71_method_5_code 78 = .ok (.if_icmp .ne 23, 3) := by decide +kernel
theorem own_d8_101 : decode prog_71_method_5_code 101 = .ok (.lload_n 2, 1) := by decide +kernel
theorem own_d8_102 : decode prog_71_method_5_code 102 = .ok (.lreturn, 1) := by decide +kernel
theorem own_ef8 (m : MethodId) (r0 : Addr) : entryFrame m #[(.ref r0)] 6 = mkF m 0 #[.val (.ref r0), .unset, .unset, .unset, .unset, .unset] [] := by first | (simp [entryFrame, mkF, argsToLocals, Value.category]; done) | rfl
def own_Q8 (Z : State) (r0 : Addr) (b_b : Addr) (w_e : Int32) (b_n : Addr) (w_m : Int32) (w_p : Int32) (g_b : Nat → Int32) (h0 : Heap) (n0 : Nat) (v : Option Value) (h : Heap) (L : List Loc) : Prop := (v = some (.long ((g_b (w_p).toNatClampNeg).toInt64))) ∧ (Fr n0 L) ∧ (Keep h0 h [r0]) ∧ (Exa Z h r0 "com/example/wireform/wireform/wire/WireReader") ∧ (Fld Z h r0 "com/example/wireform/wireform/wire/WireReader" "bytes" "[B" (.ref b_b)) ∧ (Fld Z h r0 "com/example/wireform/wireform/wire/WireReader" "end" "I" (.int w_e)) ∧ (Fld Z h r0 "com/example/wireform/wireform/wire/WireReader" "nesting" "Lcom/example/wireform/wireform/wire/Nesting;" (.ref b_n)) ∧ (Fld Z h r0 "com/example/wireform/wireform/wire/WireReader" "limit" "I" (.int w_m)) ∧ (Fld Z h r0 "com/example/wireform/wireform/wire/WireReader" "position" "I" (.int ((w_p + (1 : Int32)))))
set_option maxRecDepth 65536 in
set_option maxHeartbeats 40000000 in
theorem own_rm8 (l : Launch) (Z : State) (a0 : Array Value) (hw : ∀ d ∈ tables_1, d.before a0 Z = true) (ws : List Jvm.Cond) (r0 : Addr) (b_b : Addr) (w_e : Int32) (b_n : Addr) (w_m : Int32) (w_p : Int32) (g_b : Nat → Int32) (h0 : Heap) (n0 : Nat) (Z0 : n0 ≤ h0.size) (E_r0 : Exa Z h0 r0 "com/example/wireform/wireform/wire/WireReader") (F_r0_bytes : Fld Z h0 r0 "com/example/wireform/wireform/wire/WireReader" "bytes" "[B" (.ref b_b)) (F_r0_end : Fld Z h0 r0 "com/example/wireform/wireform/wire/WireReader" "end" "I" (.int w_e)) (F_r0_nesting : Fld Z h0 r0 "com/example/wireform/wireform/wire/WireReader" "nesting" "Lcom/example/wireform/wireform/wire/Nesting;" (.ref b_n)) (F_r0_limit : Fld Z h0 r0 "com/example/wireform/wireform/wire/WireReader" "limit" "I" (.int w_m)) (F_r0_position : Fld Z h0 r0 "com/example/wireform/wireform/wire/WireReader" "position" "I" (.int w_p)) (R_b_b : own_RayB Z h0 b_b 4 g_b) (g_r0 : n0 ≤ r0) (ne_r0_b_b : r0 ≠ b_b) (hV : own_V w_p w_m (g_b (w_p).toNatClampNeg) 4) :
    MetFree l (⟨"com/example/wireform/wireform/wire/WireReader", "readVarint", "()J"⟩ : MethodName) (head1 (Jvm.Cond.code (⟨"com/example/wireform/wireform/wire/WireReader", "readVarint", "()J"⟩ : MethodName) prog_71_method_5_code 6 (some .long) :: ws) ({ frames := 0, cells := 0, slots := 0, locals := 0 } : Room)) (fun a U => a = #[(.ref r0)] ∧ Z.Warmed39 U.vm ∧ U.heap = h0) (fun _ _ _ _ _ => True) (fun _ U o U' => ∃ v L, o = .returned v ∧ own_Q8 Z r0 b_b w_e b_n w_m w_p g_b h0 n0 v U'.heap L ∧ FrameEnd U o U' L ({ frames := 0, cells := 0, slots := 0, locals := 0 } : Room).cells ({ frames := 0, cells := 0, slots := 0, locals := 0 } : Room).slots) := by
  refine MetFree.of_bodySF (plainFor_of_name own_pn2) hisR ?_
  intro p e s m args below meth c s₁ Bd hml0 hP hK
  obtain ⟨rfl, hZ, hh⟩ := hP
  have hx := Bd.exec
  have hby := Bd.bytes
  have hml : c.maxLocals = 6 := hml0
  have hown : s.vm.findClass "com/example/wireform/wireform/wire/WireReader" = some m.cls := findClass_of_methodNamed Bd.named
  have hnm := (name_of_methodNamed Bd.named Bd.method).1
  have X0 : Stand p l e ({ frames := 0, cells := 0, slots := 0, locals := 0 } : Room) s m #[(.ref r0)] below meth c s₁ [] 0 0 := Stand.of_body Bd
  have e0 : s₁.heap = h0 := by rw [← hh, Bd.state]; rfl
  have N0 := Fr.nil n0
  have pre0 : ∀ t, Steps p.tables e below (s₁.setTop (mkF m 0 #[.val (.ref r0), .unset, .unset, .unset, .unset, .unset] [])) t → Steps p.tables e below (s₁.setTop (entryFrame m #[(.ref r0)] 6)) t := fun t k => castTop (own_ef8 m r0) k
  refine own_run (own_st pre0 ?_)
  have hF := own_Vf _ _ _ _ hV
  refine own_st (B := s₁.setTop (mkF m 1 #[.val (.ref r0), .unset, .unset, .unset, .unset, .unset] [(.ref r0)])) (fun target kt => ?_) ?_
  · show Steps p.tables e below (s₁.setTop (mkF m 0 #[.val (.ref r0), .unset, .unset, .unset, .unset, .unset] [])) target
    refine XS.aloadN X0.here hx rfl (hb hby own_d8_0) rfl rfl ?_
    exact kt
  obtain ⟨Tg1, Xg1, eg1, stg1⟩ := getF X0 hx hZ hown (host := "") (Or.inl (hw _ (List.mem_of_getElem? (i := 48) rfl))) Via.refl e0 F_r0_position (g := (mkF m 1 #[.val (.ref r0), .unset, .unset, .unset, .unset, .unset] [(.ref r0)])) rfl rfl (hb hby own_d8_1)
  refine own_st stg1 ?_
  refine own_st (B := Tg1.setTop (mkF m 18 #[.val (.ref r0), .val (.int w_p), .val (.long (0 : Int64)), .second, .val (.int (0 : Int32)), .unset] [(.ref r0)])) (fun target kt => ?_) ?_
  · show Steps p.tables e below (Tg1.setTop (mkF m 4 #[.val (.ref r0), .unset, .unset, .unset, .unset, .unset] [(.int w_p)])) target
    refine XS.istoreN Xg1.here hx rfl (hb hby own_d8_4) rfl (l' := #[.val (.ref r0), .val (.int w_p), .unset, .unset, .unset, .unset]) rfl ?_
    show Steps p.tables e below (Tg1.setTop (mkF m 5 #[.val (.ref r0), .val (.int w_p), .unset, .unset, .unset, .unset] [])) target
    refine XS.lconst Xg1.here hx rfl (hb hby own_d8_5) ?_
    show Steps p.tables e below (Tg1.setTop (mkF m 6 #[.val (.ref r0), .val (.int w_p), .unset, .unset, .unset, .unset] [(.long (0 : Int64))])) target
    refine XS.lstoreN Xg1.here hx rfl (hb hby own_d8_6) rfl (l' := #[.val (.ref r0), .val (.int w_p), .val (.long (0 : Int64)), .second, .unset, .unset]) rfl ?_
    show Steps p.tables e below (Tg1.setTop (mkF m 7 #[.val (.ref r0), .val (.int w_p), .val (.long (0 : Int64)), .second, .unset, .unset] [])) target
    refine XS.iconst Xg1.here hx rfl (hb hby own_d8_7) ?_
    show Steps p.tables e below (Tg1.setTop (mkF m 8 #[.val (.ref r0), .val (.int w_p), .val (.long (0 : Int64)), .second, .unset, .unset] [(.int (0 : Int32))])) target
    refine XS.istore Xg1.here hx rfl (hb hby own_d8_8) rfl (l' := #[.val (.ref r0), .val (.int w_p), .val (.long (0 : Int64)), .second, .val (.int (0 : Int32)), .unset]) rfl ?_
    show Steps p.tables e below (Tg1.setTop (mkF m 10 #[.val (.ref r0), .val (.int w_p), .val (.long (0 : Int64)), .second, .val (.int (0 : Int32)), .unset] [])) target
    refine XS.iload Xg1.here hx rfl (hb hby own_d8_10) rfl ?_
    show Steps p.tables e below (Tg1.setTop (mkF m 12 #[.val (.ref r0), .val (.int w_p), .val (.long (0 : Int64)), .second, .val (.int (0 : Int32)), .unset] [(.int (0 : Int32))])) target
    refine XS.bipush Xg1.here hx rfl (hb hby own_d8_12) ?_
    show Steps p.tables e below (Tg1.setTop (mkF m 14 #[.val (.ref r0), .val (.int w_p), .val (.long (0 : Int64)), .second, .val (.int (0 : Int32)), .unset] [(.int (10 : Int32)), (.int (0 : Int32))])) target
    refine XS.icmpNo Xg1.here hx rfl (hb hby own_d8_14) rfl (tlt (by decide : (0 : Int32) < (10 : Int32))).2.1 ?_
    show Steps p.tables e below (Tg1.setTop (mkF m 17 #[.val (.ref r0), .val (.int w_p), .val (.long (0 : Int64)), .second, .val (.int (0 : Int32)), .unset] [])) target
    refine XS.aloadN Xg1.here hx rfl (hb hby own_d8_17) rfl rfl ?_
    exact kt
  obtain ⟨Tg18, Xg18, eg18, stg18⟩ := getF Xg1 hx hZ hown (host := "") (Or.inl (hw _ (List.mem_of_getElem? (i := 48) rfl))) Via.refl eg1 F_r0_position (g := (mkF m 18 #[.val (.ref r0), .val (.int w_p), .val (.long (0 : Int64)), .second, .val (.int (0 : Int32)), .unset] [(.ref r0)])) rfl rfl (hb hby own_d8_18)
  refine own_st stg18 ?_
  refine own_st (B := Tg18.setTop (mkF m 22 #[.val (.ref r0), .val (.int w_p), .val (.long (0 : Int64)), .second, .val (.int (0 : Int32)), .unset] [(.ref r0), (.int w_p)])) (fun target kt => ?_) ?_
  · show Steps p.tables e below (Tg18.setTop (mkF m 21 #[.val (.ref r0), .val (.int w_p), .val (.long (0 : Int64)), .second, .val (.int (0 : Int32)), .unset] [(.int w_p)])) target
    refine XS.aloadN Xg18.here hx rfl (hb hby own_d8_21) rfl rfl ?_
    exact kt
  obtain ⟨Tg22, Xg22, eg22, stg22⟩ := getF Xg18 hx hZ hown (host := "") (Or.inl (hw _ (List.mem_of_getElem? (i := 25) rfl))) Via.refl eg18 F_r0_limit (g := (mkF m 22 #[.val (.ref r0), .val (.int w_p), .val (.long (0 : Int64)), .second, .val (.int (0 : Int32)), .unset] [(.ref r0), (.int w_p)])) rfl rfl (hb hby own_d8_22)
  refine own_st stg22 ?_
  have c25 : ¬ (w_p = w_m) := by
    exact hF.1
  refine own_st (B := Tg22.setTop (mkF m 37 #[.val (.ref r0), .val (.int w_p), .val (.long (0 : Int64)), .second, .val (.int (0 : Int32)), .unset] [(.ref r0)])) (fun target kt => ?_) ?_
  · show Steps p.tables e below (Tg22.setTop (mkF m 25 #[.val (.ref r0), .val (.int w_p), .val (.long (0 : Int64)), .second, .val (.int (0 : Int32)), .unset] [(.int w_m), (.int w_p)])) target
    refine XS.icmpYes Xg22.here hx rfl (pc0 := 25) (pc' := 36) rfl (hb hby own_d8_25) rfl (feq c25).2 (by decide) (by decide) ?_
    show Steps p.tables e below (Tg22.setTop (mkF m 36 #[.val (.ref r0), .val (.int w_p), .val (.long (0 : Int64)), .second, .val (.int (0 : Int32)), .unset] [])) target
    refine XS.aloadN Xg22.here hx rfl (hb hby own_d8_36) rfl rfl ?_
    exact kt
  obtain ⟨Tg37, Xg37, eg37, stg37⟩ := getF Xg22 hx hZ hown (host := "") (Or.inl (hw _ (List.mem_of_getElem? (i := 19) rfl))) Via.refl eg22 F_r0_bytes (g := (mkF m 37 #[.val (.ref r0), .val (.int w_p), .val (.long (0 : Int64)), .second, .val (.int (0 : Int32)), .unset] [(.ref r0)])) rfl rfl (hb hby own_d8_37)
  refine own_st stg37 ?_
  refine own_st (B := Tg37.setTop (mkF m 42 #[.val (.ref r0), .val (.int w_p), .val (.long (0 : Int64)), .second, .val (.int (0 : Int32)), .unset] [(.ref r0), (.ref r0), (.ref b_b)])) (fun target kt => ?_) ?_
  · show Steps p.tables e below (Tg37.setTop (mkF m 40 #[.val (.ref r0), .val (.int w_p), .val (.long (0 : Int64)), .second, .val (.int (0 : Int32)), .unset] [(.ref b_b)])) target
    refine XS.aloadN Xg37.here hx rfl (hb hby own_d8_40) rfl rfl ?_
    show Steps p.tables e below (Tg37.setTop (mkF m 41 #[.val (.ref r0), .val (.int w_p), .val (.long (0 : Int64)), .second, .val (.int (0 : Int32)), .unset] [(.ref r0), (.ref b_b)])) target
    refine XS.dup Xg37.here hx rfl (hb hby own_d8_41) rfl rfl ?_
    exact kt
  obtain ⟨Tg42, Xg42, eg42, stg42⟩ := getF Xg37 hx hZ hown (host := "") (Or.inl (hw _ (List.mem_of_getElem? (i := 48) rfl))) Via.refl eg37 F_r0_position (g := (mkF m 42 #[.val (.ref r0), .val (.int w_p), .val (.long (0 : Int64)), .second, .val (.int (0 : Int32)), .unset] [(.ref r0), (.ref r0), (.ref b_b)])) rfl rfl (hb hby own_d8_42)
  refine own_st stg42 ?_
  refine own_st (B := Tg42.setTop (mkF m 48 #[.val (.ref r0), .val (.int w_p), .val (.long (0 : Int64)), .second, .val (.int (0 : Int32)), .unset] [(.int (w_p + (1 : Int32))), (.ref r0), (.int w_p), (.ref b_b)])) (fun target kt => ?_) ?_
  · show Steps p.tables e below (Tg42.setTop (mkF m 45 #[.val (.ref r0), .val (.int w_p), .val (.long (0 : Int64)), .second, .val (.int (0 : Int32)), .unset] [(.int w_p), (.ref r0), (.ref b_b)])) target
    refine XS.dupX1 Xg42.here hx rfl (hb hby own_d8_45) rfl rfl rfl ?_
    show Steps p.tables e below (Tg42.setTop (mkF m 46 #[.val (.ref r0), .val (.int w_p), .val (.long (0 : Int64)), .second, .val (.int (0 : Int32)), .unset] [(.int w_p), (.ref r0), (.int w_p), (.ref b_b)])) target
    refine XS.iconst Xg42.here hx rfl (hb hby own_d8_46) ?_
    show Steps p.tables e below (Tg42.setTop (mkF m 47 #[.val (.ref r0), .val (.int w_p), .val (.long (0 : Int64)), .second, .val (.int (0 : Int32)), .unset] [(.int (1 : Int32)), (.int w_p), (.ref r0), (.int w_p), (.ref b_b)])) target
    refine XS.iadd Xg42.here hx rfl (hb hby own_d8_47) rfl ?_
    exact kt
  obtain ⟨Tg48, hg48, Xg48, eg48, Wg48, stg48⟩ := putF Xg42 hx hZ hown (host := "") (Or.inl (hw _ (List.mem_of_getElem? (i := 48) rfl))) Via.refl eg42 F_r0_position E_r0 (Or.inl (hw _ (List.mem_of_getElem? (i := 49) rfl))) (hw _ (List.mem_of_getElem? (i := 13) rfl)) (ty := .int) (by decide) rfl rfl (g := (mkF m 48 #[.val (.ref r0), .val (.int w_p), .val (.long (0 : Int64)), .second, .val (.int (0 : Int32)), .unset] [(.int (w_p + (1 : Int32))), (.ref r0), (.int w_p), (.ref b_b)])) rfl rfl (hb hby own_d8_48)
  refine own_st stg48 ?_
  have Ng48 := Fr.snoc Xg48 N0 g_r0
  have F := E_r0.wr Wg48
  have F_1 := F_r0_bytes.other Wg48 (Or.inr (slot_ne (Or.inr (hw _ (List.mem_of_getElem? (i := 20) rfl))) (Or.inl (hw _ (List.mem_of_getElem? (i := 49) rfl))) (by decide) (t := (.array .byte)) (t' := .int) (by decide) (by decide)))
  have F_2 := F_r0_end.other Wg48 (Or.inr (slot_ne (Or.inr (hw _ (List.mem_of_getElem? (i := 22) rfl))) (Or.inl (hw _ (List.mem_of_getElem? (i := 49) rfl))) (by decide) (t := .int) (t' := .int) (by decide) (by decide)))
  have F_3 := F_r0_nesting.other Wg48 (Or.inr (slot_ne (Or.inr (hw _ (List.mem_of_getElem? (i := 24) rfl))) (Or.inl (hw _ (List.mem_of_getElem? (i := 49) rfl))) (by decide) (t := (.object "com/example/wireform/wireform/wire/Nesting")) (t' := .int) (by decide) (by decide)))
  have F_4 := F_r0_limit.other Wg48 (Or.inr (slot_ne (Or.inl (hw _ (List.mem_of_getElem? (i := 26) rfl))) (Or.inl (hw _ (List.mem_of_getElem? (i := 49) rfl))) (by decide) (t := .int) (t' := .int) (by decide) (by decide)))
  have F_5 := F_r0_position.same Wg48
  have F_6 := R_b_b.other Wg48 (Ne.symm ne_r0_b_b)
  have Zz : n0 ≤ hg48.size := Nat.le_trans Z0 (Keep.of_wr Wg48).1
  have Kc := (Keep.refl h0 [r0]).wr Wg48 (Or.inl (List.mem_of_getElem? (i := 0) rfl))
  obtain ⟨v48, hv48⟩ : ∃ z : Int32, z = (w_p + (1 : Int32)) := ⟨_, rfl⟩
  have F_7 : Fld Z hg48 r0 "com/example/wireform/wireform/wire/WireReader" "position" "I" (.int v48) := by subst hv48; exact F_5
  obtain ⟨clg51, Arg51, Szg51, Atg51⟩ := id F_6
  have hing51 : ¬ (w_p < 0 ∨ clg51.slots.size ≤ (w_p).toNatClampNeg) := own_inb Szg51 hF.2.1
  have hatg51 : clg51.slots[(w_p).toNatClampNeg]? = some (.int (g_b (w_p).toNatClampNeg)) := own_RayB_nth Atg51 Szg51 hing51
  refine own_st (B := Tg48.setTop (mkF m 52 #[.val (.ref r0), .val (.int w_p), .val (.long (0 : Int64)), .second, .val (.int (0 : Int32)), .unset] [(.int (g_b (w_p).toNatClampNeg))])) (fun target kt => ?_) ?_
  · refine Xg48.baloadBytes hx (j := w_p) (v := (.int (g_b (w_p).toNatClampNeg))) (by first | exact Arg51.1 | (rw [eg48]; exact Arg51.1)) (State.isArrayOf_alike hZ.alike Arg51.2.1) Arg51.2.2 hing51 hatg51 (g := (mkF m 51 #[.val (.ref r0), .val (.int w_p), .val (.long (0 : Int64)), .second, .val (.int (0 : Int32)), .unset] [(.int w_p), (.ref b_b)])) rfl rfl (hb hby own_d8_51) _ ?_
    exact kt
  obtain ⟨v52, hv52⟩ : ∃ z : Int32, z = (g_b (w_p).toNatClampNeg) := ⟨_, rfl⟩
  obtain ⟨v68, hv68⟩ : ∃ z : Int64, z = ((0 : Int64) ||| (((v52 &&& (127 : Int32)).toInt64) <<< ((0 : Int32) &&& 0x3f).toInt64)) := ⟨_, rfl⟩
  refine own_st (B := Tg48.setTop (mkF m 71 #[.val (.ref r0), .val (.int w_p), .val (.long v68), .second, .val (.int (0 : Int32)), .val (.int v52)] [(.int v52)])) (fun target kt => ?_) ?_
  · show Steps p.tables e below (Tg48.setTop (mkF m 52 #[.val (.ref r0), .val (.int w_p), .val (.long (0 : Int64)), .second, .val (.int (0 : Int32)), .unset] [(.int (g_b (w_p).toNatClampNeg))])) target
    refine XS.istore Xg48.here hx rfl (hb hby own_d8_52) rfl (l' := #[.val (.ref r0), .val (.int w_p), .val (.long (0 : Int64)), .second, .val (.int (0 : Int32)), .val (.int v52)]) (by subst hv52; rfl) ?_
    show Steps p.tables e below (Tg48.setTop (mkF m 54 #[.val (.ref r0), .val (.int w_p), .val (.long (0 : Int64)), .second, .val (.int (0 : Int32)), .val (.int v52)] [])) target
    refine XS.lloadN Xg48.here hx rfl (hb hby own_d8_54) rfl ?_
    show Steps p.tables e below (Tg48.setTop (mkF m 55 #[.val (.ref r0), .val (.int w_p), .val (.long (0 : Int64)), .second, .val (.int (0 : Int32)), .val (.int v52)] [(.long (0 : Int64))])) target
    refine XS.iload Xg48.here hx rfl (hb hby own_d8_55) rfl ?_
    show Steps p.tables e below (Tg48.setTop (mkF m 57 #[.val (.ref r0), .val (.int w_p), .val (.long (0 : Int64)), .second, .val (.int (0 : Int32)), .val (.int v52)] [(.int v52), (.long (0 : Int64))])) target
    refine XS.bipush Xg48.here hx rfl (hb hby own_d8_57) ?_
    show Steps p.tables e below (Tg48.setTop (mkF m 59 #[.val (.ref r0), .val (.int w_p), .val (.long (0 : Int64)), .second, .val (.int (0 : Int32)), .val (.int v52)] [(.int (127 : Int32)), (.int v52), (.long (0 : Int64))])) target
    refine XS.iand Xg48.here hx rfl (hb hby own_d8_59) rfl ?_
    show Steps p.tables e below (Tg48.setTop (mkF m 60 #[.val (.ref r0), .val (.int w_p), .val (.long (0 : Int64)), .second, .val (.int (0 : Int32)), .val (.int v52)] [(.int (v52 &&& (127 : Int32))), (.long (0 : Int64))])) target
    refine XS.i2l Xg48.here hx rfl (hb hby own_d8_60) rfl ?_
    show Steps p.tables e below (Tg48.setTop (mkF m 61 #[.val (.ref r0), .val (.int w_p), .val (.long (0 : Int64)), .second, .val (.int (0 : Int32)), .val (.int v52)] [(.long ((v52 &&& (127 : Int32)).toInt64)), (.long (0 : Int64))])) target
    refine XS.bipush Xg48.here hx rfl (hb hby own_d8_61) ?_
    show Steps p.tables e below (Tg48.setTop (mkF m 63 #[.val (.ref r0), .val (.int w_p), .val (.long (0 : Int64)), .second, .val (.int (0 : Int32)), .val (.int v52)] [(.int (7 : Int32)), (.long ((v52 &&& (127 : Int32)).toInt64)), (.long (0 : Int64))])) target
    refine XS.iload Xg48.here hx rfl (hb hby own_d8_63) rfl ?_
    show Steps p.tables e below (Tg48.setTop (mkF m 65 #[.val (.ref r0), .val (.int w_p), .val (.long (0 : Int64)), .second, .val (.int (0 : Int32)), .val (.int v52)] [(.int (0 : Int32)), (.int (7 : Int32)), (.long ((v52 &&& (127 : Int32)).toInt64)), (.long (0 : Int64))])) target
    refine XS.imul Xg48.here hx rfl (hb hby own_d8_65) rfl ?_
    show Steps p.tables e below (Tg48.setTop (mkF m 66 #[.val (.ref r0), .val (.int w_p), .val (.long (0 : Int64)), .second, .val (.int (0 : Int32)), .val (.int v52)] [(.int (0 : Int32)), (.long ((v52 &&& (127 : Int32)).toInt64)), (.long (0 : Int64))])) target
    refine XS.lshl Xg48.here hx rfl (hb hby own_d8_66) rfl ?_
    show Steps p.tables e below (Tg48.setTop (mkF m 67 #[.val (.ref r0), .val (.int w_p), .val (.long (0 : Int64)), .second, .val (.int (0 : Int32)), .val (.int v52)] [(.long (((v52 &&& (127 : Int32)).toInt64) <<< ((0 : Int32) &&& 0x3f).toInt64)), (.long (0 : Int64))])) target
    refine XS.lor Xg48.here hx rfl (hb hby own_d8_67) rfl ?_
    show Steps p.tables e below (Tg48.setTop (mkF m 68 #[.val (.ref r0), .val (.int w_p), .val (.long (0 : Int64)), .second, .val (.int (0 : Int32)), .val (.int v52)] [(.long ((0 : Int64) ||| (((v52 &&& (127 : Int32)).toInt64) <<< ((0 : Int32) &&& 0x3f).toInt64)))])) target
    refine XS.lstoreN Xg48.here hx rfl (hb hby own_d8_68) rfl (l' := #[.val (.ref r0), .val (.int w_p), .val (.long v68), .second, .val (.int (0 : Int32)), .val (.int v52)]) (by subst hv68; rfl) ?_
    show Steps p.tables e below (Tg48.setTop (mkF m 69 #[.val (.ref r0), .val (.int w_p), .val (.long v68), .second, .val (.int (0 : Int32)), .val (.int v52)] [])) target
    refine XS.iload Xg48.here hx rfl (hb hby own_d8_69) rfl ?_
    exact kt
  have c71 : ¬ (v52 < (0 : Int32)) := by
    rw [hv52]
    exact hF.2.2.1
  refine own_st (B := Tg48.setTop (mkF m 102 #[.val (.ref r0), .val (.int w_p), .val (.long v68), .second, .val (.int (0 : Int32)), .val (.int v52)] [(.long v68)])) (fun target kt => ?_) ?_
  · show Steps p.tables e below (Tg48.setTop (mkF m 71 #[.val (.ref r0), .val (.int w_p), .val (.long v68), .second, .val (.int (0 : Int32)), .val (.int v52)] [(.int v52)])) target
    refine XS.ifNo Xg48.here hx rfl (hb hby own_d8_71) rfl ((if0 _ _).trans (flt c71).1) ?_
    show Steps p.tables e below (Tg48.setTop (mkF m 74 #[.val (.ref r0), .val (.int w_p), .val (.long v68), .second, .val (.int (0 : Int32)), .val (.int v52)] [])) target
    refine XS.iload Xg48.here hx rfl (hb hby own_d8_74) rfl ?_
    show Steps p.tables e below (Tg48.setTop (mkF m 76 #[.val (.ref r0), .val (.int w_p), .val (.long v68), .second, .val (.int (0 : Int32)), .val (.int v52)] [(.int (0 : Int32))])) target
    refine XS.bipush Xg48.here hx rfl (hb hby own_d8_76) ?_
    show Steps p.tables e below (Tg48.setTop (mkF m 78 #[.val (.ref r0), .val (.int w_p), .val (.long v68), .second, .val (.int (0 : Int32)), .val (.int v52)] [(.int (9 : Int32)), (.int (0 : Int32))])) target
    refine XS.icmpYes Xg48.here hx rfl (pc0 := 78) (pc' := 101) rfl (hb hby own_d8_78) rfl (feq (by decide : ¬ ((0 : Int32) = (9 : Int32)))).2 (by decide) (by decide) ?_
    show Steps p.tables e below (Tg48.setTop (mkF m 101 #[.val (.ref r0), .val (.int w_p), .val (.long v68), .second, .val (.int (0 : Int32)), .val (.int v52)] [])) target
    refine XS.lloadN Xg48.here hx rfl (hb hby own_d8_101) rfl ?_
    exact kt
  obtain ⟨fs, hr, hrun, hended, hW, hsame⟩ := Xg48.leave (v := some (.long v68)) (fun h => by rw [Bd.returns] at h; cases h)
  have hend : Steps p.tables e below (Tg48.setTop (mkF m 102 #[.val (.ref r0), .val (.int w_p), .val (.long v68), .second, .val (.int (0 : Int32)), .val (.int v52)] [(.long v68)])) (Tg48.setFrames fs) := by
    exact own_retJ Xg48 hx Bd.returns (hb hby own_d8_102) hr
  refine own_fin hend ⟨_, hrun, hended, _, _, rfl, ?_, ⟨_, rfl⟩, hW, hsame.mono (by decide) (by decide)⟩
  show own_Q8 Z r0 b_b w_e b_n w_m w_p g_b h0 n0 _ Tg48.heap _
  rw [eg48]
  subst hv48 hv52 hv68
  exact ⟨(congrArg (fun z => some (Value.long z)) (by exact own_vi _ hF.2.2.1 hV.2.2.2.2.2.1)), Ng48, Kc, F, F_1, F_2, F_3, F_4, F_7⟩
theorem own_pd1 : parseMethodDescriptor "()J" = some ⟨[], some .long⟩ := by decide +kernel
theorem own_d7_0 : decode prog_71_method_18_code 0 = .ok (.aload_n 0, 1) := by decide +kernel
theorem own_d7_1 : decode prog_71_method_18_code 1 = .ok (.getfield 43, 3) := by decide +kernel
theorem own_d7_4 : decode prog_71_method_18_code 4 = .ok (.istore_n 1, 1) := by decide +kernel
theorem own_d7_5 : decode prog_71_method_18_code 5 = .ok (.aload_n 0, 1) := by decide +kernel
theorem own_d7_6 : decode prog_71_method_18_code 6 = .ok (.invokevirtual 62, 3) := by decide +kernel
theorem own_d7_9 : decode prog_71_method_18_code 9 = .ok (.lstore_n 2, 1) := by decide +kernel
theorem own_d7_10 : decode prog_71_method_18_code 10 = .ok (.lload_n 2, 1) := by decide +kernel
theorem own_d7_11 : decode prog_71_method_18_code 11 = .ok (.aload_n 0, 1) := by decide +kernel
theorem own_d7_12 : decode prog_71_method_18_code 12 = .ok (.getfield 40, 3) := by decide +kernel
theorem own_d7_15 : decode prog_71_method_18_code 15 = .ok (.aload_n 0, 1) := by decide +kernel
theorem own_d7_16 : decode prog_71_method_18_code 16 = .ok (.getfield 43, 3) := by decide +kernel
theorem own_d7_19 : decode prog_71_method_18_code 19 = .ok (.isub, 1) := by decide +kernel
theorem own_d7_20 : decode prog_71_method_18_code 20 = .ok (.i2l, 1) := by decide +kernel
theorem own_d7_21 : decode prog_71_method_18_code 21 = .ok (.invokestatic 218, 3) := by decide +kernel
theorem own_d7_24 : decode prog_71_method_18_code 24 = .ok (.ifCond .le 18, 3) := by decide +kernel
theorem own_d7_42 : decode prog_71_method_18_code 42 = .ok (.lload_n 2, 1) := by decide +kernel
theorem own_d7_43 : decode prog_71_method_18_code 43 = .ok (.l2i, 1) := by decide +kernel
theorem own_d7_44 : decode prog_71_method_18_code 44 = .ok (.ireturn, 1) := by decide +kernel
theorem own_ef7 (m : MethodId) (r0 : Addr) : entryFrame m #[(.ref r0)] 4 = mkF m 0 #[.val (.ref r0), .unset, .unset, .unset] [] := by first | (simp [entryFrame, mkF, argsToLocals, Value.category]; done) | rfl
def own_Q7 (Z : State) (r0 : Addr) (b_b : Addr) (w_e : Int32) (b_n : Addr) (w_m : Int32) (w_p : Int32) (g_b : Nat → Int32) (h0 : Heap) (n0 : Nat) (v : Option Value) (h : Heap) (L : List Loc) : Prop := (v = some (.int (g_b (w_p).toNatClampNeg))) ∧ (Fr n0 L) ∧ (Keep h0 h [r0]) ∧ (Exa Z h r0 "com/example/wireform/wireform/wire/WireReader") ∧ (Fld Z h r0 "com/example/wireform/wireform/wire/WireReader" "bytes" "[B" (.ref b_b)) ∧ (Fld Z h r0 "com/example/wireform/wireform/wire/WireReader" "end" "I" (.int w_e)) ∧ (Fld Z h r0 "com/example/wireform/wireform/wire/WireReader" "nesting" "Lcom/example/wireform/wireform/wire/Nesting;" (.ref b_n)) ∧ (Fld Z h r0 "com/example/wireform/wireform/wire/WireReader" "limit" "I" (.int w_m)) ∧ (Fld Z h r0 "com/example/wireform/wireform/wire/WireReader" "position" "I" (.int ((w_p + (1 : Int32)))))
set_option maxRecDepth 65536 in
set_option maxHeartbeats 40000000 in
theorem own_rm7 (l : Launch) (Z : State) (a0 : Array Value) (hw : ∀ d ∈ tables_1, d.before a0 Z = true) (ws : List Jvm.Cond) (r0 : Addr) (b_b : Addr) (w_e : Int32) (b_n : Addr) (w_m : Int32) (w_p : Int32) (g_b : Nat → Int32) (h0 : Heap) (n0 : Nat) (Z0 : n0 ≤ h0.size) (E_r0 : Exa Z h0 r0 "com/example/wireform/wireform/wire/WireReader") (F_r0_bytes : Fld Z h0 r0 "com/example/wireform/wireform/wire/WireReader" "bytes" "[B" (.ref b_b)) (F_r0_end : Fld Z h0 r0 "com/example/wireform/wireform/wire/WireReader" "end" "I" (.int w_e)) (F_r0_nesting : Fld Z h0 r0 "com/example/wireform/wireform/wire/WireReader" "nesting" "Lcom/example/wireform/wireform/wire/Nesting;" (.ref b_n)) (F_r0_limit : Fld Z h0 r0 "com/example/wireform/wireform/wire/WireReader" "limit" "I" (.int w_m)) (F_r0_position : Fld Z h0 r0 "com/example/wireform/wireform/wire/WireReader" "position" "I" (.int w_p)) (R_b_b : own_RayB Z h0 b_b 4 g_b) (g_r0 : n0 ≤ r0) (ne_r0_b_b : r0 ≠ b_b) (hV : own_V w_p w_m (g_b (w_p).toNatClampNeg) 4) :
    MetFree l (⟨"com/example/wireform/wireform/wire/WireReader", "readLength", "()I"⟩ : MethodName) (head1 (Jvm.Cond.code (⟨"com/example/wireform/wireform/wire/WireReader", "readLength", "()I"⟩ : MethodName) prog_71_method_18_code 4 (some .int) :: ws) ({ frames := 2, cells := 0, slots := 0, locals := 30 } : Room)) (fun a U => a = #[(.ref r0)] ∧ Z.Warmed39 U.vm ∧ U.heap = h0) (fun _ _ _ _ _ => True) (fun _ U o U' => ∃ v L, o = .returned v ∧ own_Q7 Z r0 b_b w_e b_n w_m w_p g_b h0 n0 v U'.heap L ∧ FrameEnd U o U' L ({ frames := 2, cells := 0, slots := 0, locals := 30 } : Room).cells ({ frames := 2, cells := 0, slots := 0, locals := 30 } : Room).slots) := by
  refine MetFree.of_bodySF (plainFor_of_name own_pn2) hisR ?_
  intro p e s m args below meth c s₁ Bd hml0 hP hK
  obtain ⟨rfl, hZ, hh⟩ := hP
  have hx := Bd.exec
  have hby := Bd.bytes
  have hml : c.maxLocals = 4 := hml0
  have hown : s.vm.findClass "com/example/wireform/wireform/wire/WireReader" = some m.cls := findClass_of_methodNamed Bd.named
  have hnm := (name_of_methodNamed Bd.named Bd.method).1
  have X0 : Stand p l e ({ frames := 2, cells := 0, slots := 0, locals := 30 } : Room) s m #[(.ref r0)] below meth c s₁ [] 0 0 := Stand.of_body Bd
  have e0 : s₁.heap = h0 := by rw [← hh, Bd.state]; rfl
  have N0 := Fr.nil n0
  have pre0 : ∀ t, Steps p.tables e below (s₁.setTop (mkF m 0 #[.val (.ref r0), .unset, .unset, .unset] [])) t → Steps p.tables e below (s₁.setTop (entryFrame m #[(.ref r0)] 4)) t := fun t k => castTop (own_ef7 m r0) k
  refine own_run (own_st pre0 ?_)
  have hF := own_Vf _ _ _ _ hV
  refine own_st (B := s₁.setTop (mkF m 1 #[.val (.ref r0), .unset, .unset, .unset] [(.ref r0)])) (fun target kt => ?_) ?_
  · show Steps p.tables e below (s₁.setTop (mkF m 0 #[.val (.ref r0), .unset, .unset, .unset] [])) target
    refine XS.aloadN X0.here hx rfl (hb hby own_d7_0) rfl rfl ?_
    exact kt
  obtain ⟨Tg1, Xg1, eg1, stg1⟩ := getF X0 hx hZ hown (host := "") (Or.inl (hw _ (List.mem_of_getElem? (i := 48) rfl))) Via.refl e0 F_r0_position (g := (mkF m 1 #[.val (.ref r0), .unset, .unset, .unset] [(.ref r0)])) rfl rfl (hb hby own_d7_1)
  refine own_st stg1 ?_
  refine own_st (B := Tg1.setTop (mkF m 6 #[.val (.ref r0), .val (.int w_p), .unset, .unset] [(.ref r0)])) (fun target kt => ?_) ?_
  · show Steps p.tables e below (Tg1.setTop (mkF m 4 #[.val (.ref r0), .unset, .unset, .unset] [(.int w_p)])) target
    refine XS.istoreN Xg1.here hx rfl (hb hby own_d7_4) rfl (l' := #[.val (.ref r0), .val (.int w_p), .unset, .unset]) rfl ?_
    show Steps p.tables e below (Tg1.setTop (mkF m 5 #[.val (.ref r0), .val (.int w_p), .unset, .unset] [])) target
    refine XS.aloadN Xg1.here hx rfl (hb hby own_d7_5) rfl rfl ?_
    exact kt
  obtain ⟨cqg6, kqg6, qg6a, qg6b, qg6c⟩ := isOf hZ eg1 E_r0
  obtain ⟨_, _, ⟨Tg6, Lg6, kg6, ng6⟩, -, Xg6, ⟨Lcg6, hQg6, lg6, yg6, zg6⟩, stg6⟩ := Xg1.virtualBack hx (y := (⟨"com/example/wireform/wireform/wire/WireReader", "readVarint", "()J"⟩ : MethodName)) (z := (⟨"com/example/wireform/wireform/wire/WireReader", "readVarint", "()J"⟩ : MethodName)) hown (mvT hZ (hw _ (List.mem_of_getElem? (i := 50) rfl))) (mvT hZ (hw _ (List.mem_of_getElem? (i := 51) rfl))) (notFace_of_selects (args := #[]) (mvT hZ (hw _ (List.mem_of_getElem? (i := 53) rfl)))) (mvT hZ (hw _ (List.mem_of_getElem? (i := 53) rfl))) (mvT hZ (hw _ (List.mem_of_getElem? (i := 52) rfl))) (by decide) (backOf (W := 0) (own_rm8 l Z a0 hw [] r0 b_b w_e b_n w_m w_p g_b h0 n0 Z0 E_r0 F_r0_bytes F_r0_end F_r0_nesting F_r0_limit F_r0_position R_b_b g_r0 ne_r0_b_b (show own_V w_p w_m (g_b (w_p).toNatClampNeg) 4 from hV)) hZ (hw _ (List.mem_of_getElem? (i := 54) rfl)) (hw _ (List.mem_of_getElem? (i := 14) rfl)) (by decide) (by decide)) qg6a qg6c (g := (mkF m 6 #[.val (.ref r0), .val (.int w_p), .unset, .unset] [(.ref r0)])) rfl (by rw [hml]; rfl) (Steps.refl _) (argsL := []) (rest := []) (lenOf own_pd1 rfl) rfl (by show 2 * 0 + _ ≤ _; exact Nat.le_of_eq rfl) (hb hby own_d7_6) (fun _ _ => ⟨rfl, eg1, (by decide : 0 + 0 ≤ _), (by decide : 0 + 0 ≤ _)⟩)
  dsimp only [Pt.U, Pt.locs, Pt.cells, Pt.slots] at Xg6 lg6 yg6 zg6 stg6 hQg6
  subst lg6 yg6 zg6
  obtain ⟨rfl, Ng6q, Kg6, F, F_1, F_2, F_3, F_4, F_5⟩ := hQg6
  have F_6 := R_b_b.keep Kg6 (ninS (Ne.symm ne_r0_b_b) nin0)
  have Zz : n0 ≤ Tg6.heap.size := Nat.le_trans Z0 Kg6.1
  have Kc := (Keep.refl h0 [r0]).trans Kg6 (allS (Or.inl (List.mem_of_getElem? (i := 0) rfl)) all0)
  obtain ⟨w6_position, hw6_position⟩ : ∃ z : Int32, z = (w_p + (1 : Int32)) := ⟨_, rfl⟩
  have F_7 : Fld Z Tg6.heap r0 "com/example/wireform/wireform/wire/WireReader" "position" "I" (.int w6_position) := by subst hw6_position; exact F_5
  have Ng6 := Fr.app N0 Ng6q
  refine own_st (fun _ k => stg6.trans k) ?_
  obtain ⟨v9, hv9⟩ : ∃ z : Int64, z = ((g_b (w_p).toNatClampNeg).toInt64) := ⟨_, rfl⟩
  refine own_st (B := Tg6.setTop (mkF m 12 #[.val (.ref r0), .val (.int w_p), .val (.long v9), .second] [(.ref r0), (.long v9)])) (fun target kt => ?_) ?_
  · show Steps p.tables e below (Tg6.setTop (mkF m 9 #[.val (.ref r0), .val (.int w_p), .unset, .unset] [(.long ((g_b (w_p).toNatClampNeg).toInt64))])) target
    refine XS.lstoreN Xg6.here hx rfl (hb hby own_d7_9) rfl (l' := #[.val (.ref r0), .val (.int w_p), .val (.long v9), .second]) (by subst hv9; rfl) ?_
    show Steps p.tables e below (Tg6.setTop (mkF m 10 #[.val (.ref r0), .val (.int w_p), .val (.long v9), .second] [])) target
    refine XS.lloadN Xg6.here hx rfl (hb hby own_d7_10) rfl ?_
    show Steps p.tables e below (Tg6.setTop (mkF m 11 #[.val (.ref r0), .val (.int w_p), .val (.long v9), .second] [(.long v9)])) target
    refine XS.aloadN Xg6.here hx rfl (hb hby own_d7_11) rfl rfl ?_
    exact kt
  obtain ⟨Tg12, Xg12, eg12, stg12⟩ := getF Xg6 hx hZ hown (host := "") (Or.inl (hw _ (List.mem_of_getElem? (i := 25) rfl))) Via.refl rfl F_4 (g := (mkF m 12 #[.val (.ref r0), .val (.int w_p), .val (.long v9), .second] [(.ref r0), (.long v9)])) rfl rfl (hb hby own_d7_12)
  refine own_st stg12 ?_
  refine own_st (B := Tg12.setTop (mkF m 16 #[.val (.ref r0), .val (.int w_p), .val (.long v9), .second] [(.ref r0), (.int w_m), (.long v9)])) (fun target kt => ?_) ?_
  · show Steps p.tables e below (Tg12.setTop (mkF m 15 #[.val (.ref r0), .val (.int w_p), .val (.long v9), .second] [(.int w_m), (.long v9)])) target
    refine XS.aloadN Xg12.here hx rfl (hb hby own_d7_15) rfl rfl ?_
    exact kt
  obtain ⟨Tg16, Xg16, eg16, stg16⟩ := getF Xg12 hx hZ hown (host := "") (Or.inl (hw _ (List.mem_of_getElem? (i := 48) rfl))) Via.refl eg12 F_7 (g := (mkF m 16 #[.val (.ref r0), .val (.int w_p), .val (.long v9), .second] [(.ref r0), (.int w_m), (.long v9)])) rfl rfl (hb hby own_d7_16)
  refine own_st stg16 ?_
  refine own_st (B := Tg16.setTop (mkF m 21 #[.val (.ref r0), .val (.int w_p), .val (.long v9), .second] [(.long ((w_m - w6_position).toInt64)), (.long v9)])) (fun target kt => ?_) ?_
  · show Steps p.tables e below (Tg16.setTop (mkF m 19 #[.val (.ref r0), .val (.int w_p), .val (.long v9), .second] [(.int w6_position), (.int w_m), (.long v9)])) target
    refine XS.isub Xg16.here hx rfl (hb hby own_d7_19) rfl ?_
    show Steps p.tables e below (Tg16.setTop (mkF m 20 #[.val (.ref r0), .val (.int w_p), .val (.long v9), .second] [(.int (w_m - w6_position)), (.long v9)])) target
    refine XS.i2l Xg16.here hx rfl (hb hby own_d7_20) rfl ?_
    exact kt
  obtain ⟨_, _, ⟨Tg21, Lg21, kg21, ng21⟩, -, Xg21, ⟨Lcg21, hQg21, lg21, yg21, zg21⟩, stg21⟩ := Jvm.LawKit.callS Xg16 hx (y := (⟨"java/lang/Long", "compareUnsigned", "(JJ)I"⟩ : MethodName)) hown (mvT hZ (hw _ (List.mem_of_getElem? (i := 55) rfl))) (mvT hZ (hw _ (List.mem_of_getElem? (i := 56) rfl))) (mvT hZ (hw _ (List.mem_of_getElem? (i := 57) rfl))) (mvT hZ (hw _ (List.mem_of_getElem? (i := 58) rfl))) (by decide) (backOf (W := 0) (own_rm9 l Z a0 hw [] v9 ((w_m - w6_position).toInt64) Tg6.heap n0 Zz) hZ (hw _ (List.mem_of_getElem? (i := 58) rfl)) (hw _ (List.mem_of_getElem? (i := 57) rfl)) (by decide) (by decide)) (g := (mkF m 21 #[.val (.ref r0), .val (.int w_p), .val (.long v9), .second] [(.long ((w_m - w6_position).toInt64)), (.long v9)])) rfl (by rw [hml]; rfl) (argsL := [(.long v9), (.long ((w_m - w6_position).toInt64))]) (rest := []) (lenOf own_pd0 rfl) rfl (by show 2 * 0 + _ ≤ _; exact Nat.le_of_eq rfl) (hb hby own_d7_21) (fun _ _ => ⟨rfl, eg16, (by decide : 0 + 0 ≤ _), (by decide : 0 + 0 ≤ _)⟩)
  dsimp only [Pt.U, Pt.locs, Pt.cells, Pt.slots] at Xg21 lg21 yg21 zg21 stg21 hQg21
  subst lg21 yg21 zg21
  obtain ⟨rfl, Ng21q, eg21⟩ := hQg21
  have Ng21 := Fr.app Ng6 Ng21q
  refine own_st (stg21) ?_
  have c24 : ¬ ((0 : Int32) < (if (v9 + (-9223372036854775808 : Int64)) < (((w_m - w6_position).toInt64) + (-9223372036854775808 : Int64)) then (-1 : Int32) else (if (v9 + (-9223372036854775808 : Int64)) = (((w_m - w6_position).toInt64) + (-9223372036854775808 : Int64)) then (0 : Int32) else (1 : Int32)))) := by
    rw [hv9]
    exact own_cmpU _ _ (by rw [c_i2l]; exact hV.2.2.2.2.1) (by rw [c_i2l, c_i2l, hw6_position, hF.2.2.2.2.1]; exact hV.2.2.2.2.2.2)
  refine own_st (B := Tg21.setTop (mkF m 44 #[.val (.ref r0), .val (.int w_p), .val (.long v9), .second] [(.int (v9.toInt32))])) (fun target kt => ?_) ?_
  · show Steps p.tables e below (Tg21.setTop (mkF m 24 #[.val (.ref r0), .val (.int w_p), .val (.long v9), .second] [(.int (if (v9 + (-9223372036854775808 : Int64)) < (((w_m - w6_position).toInt64) + (-9223372036854775808 : Int64)) then (-1 : Int32) else (if (v9 + (-9223372036854775808 : Int64)) = (((w_m - w6_position).toInt64) + (-9223372036854775808 : Int64)) then (0 : Int32) else (1 : Int32))))])) target
    refine XS.ifYes Xg21.here hx rfl (pc0 := 24) (pc' := 42) rfl (hb hby own_d7_24) rfl ((if0 _ _).trans (flt c24).2.2.2) (by decide) (by decide) ?_
    show Steps p.tables e below (Tg21.setTop (mkF m 42 #[.val (.ref r0), .val (.int w_p), .val (.long v9), .second] [])) target
    refine XS.lloadN Xg21.here hx rfl (hb hby own_d7_42) rfl ?_
    show Steps p.tables e below (Tg21.setTop (mkF m 43 #[.val (.ref r0), .val (.int w_p), .val (.long v9), .second] [(.long v9)])) target
    refine XS.l2i Xg21.here hx rfl (hb hby own_d7_43) rfl ?_
    exact kt
  obtain ⟨fs, hr, hrun, hended, hW, hsame⟩ := Xg21.leave (v := some (.int (v9.toInt32))) (fun h => by rw [Bd.returns] at h; cases h)
  have hend : Steps p.tables e below (Tg21.setTop (mkF m 44 #[.val (.ref r0), .val (.int w_p), .val (.long v9), .second] [(.int (v9.toInt32))])) (Tg21.setFrames fs) := by
    exact retI Xg21 hx Bd.returns (hb hby own_d7_44) hr
  refine own_fin hend ⟨_, hrun, hended, _, _, rfl, ?_, ⟨_, rfl⟩, hW, hsame.mono (by decide) (by decide)⟩
  show own_Q7 Z r0 b_b w_e b_n w_m w_p g_b h0 n0 _ Tg21.heap _
  rw [eg21]
  subst hw6_position hv9
  exact ⟨(congrArg (fun z => some (Value.int z)) (by exact own_li _)), Ng21, Kc, F, F_1, F_2, F_3, F_4, F_7⟩
theorem own_pd2 : parseMethodDescriptor "()I" = some ⟨[], some .int⟩ := by decide +kernel
theorem own_d6_0 : decode prog_71_method_12_code 0 = .ok (.aload_n 0, 1) := by decide +kernel
theorem own_d6_1 : decode prog_71_method_12_code 1 = .ok (.invokevirtual 108, 3) := by decide +kernel
theorem own_d6_4 : decode prog_71_method_12_code 4 = .ok (.istore_n 1, 1) := by decide +kernel
theorem own_d6_5 : decode prog_71_method_12_code 5 = .ok (.aload_n 0, 1) := by decide +kernel
theorem own_d6_6 : decode prog_71_method_12_code 6 = .ok (.getfield 40, 3) := by decide +kernel
theorem own_d6_9 : decode prog_71_method_12_code 9 = .ok (.istore_n 2, 1) := by decide +kernel
theorem own_d6_10 : decode prog_71_method_12_code 10 = .ok (.aload_n 0, 1) := by decide +kernel
theorem own_d6_11 : decode prog_71_method_12_code 11 = .ok (.aload_n 0, 1) := by decide +kernel
theorem own_d6_12 : decode prog_71_method_12_code 12 = .ok (.getfield 43, 3) := by decide +kernel
theorem own_d6_15 : decode prog_71_method_12_code 15 = .ok (.iload_n 1, 1) := by decide +kernel
theorem own_d6_16 : decode prog_71_method_12_code 16 = .ok (.iadd, 1) := by decide +kernel
theorem own_d6_17 : decode prog_71_method_12_code 17 = .ok (.putfield 40, 3) := by decide +kernel
theorem own_d6_20 : decode prog_71_method_12_code 20 = .ok (.iload_n 2, 1) := by decide +kernel
theorem own_d6_21 : decode prog_71_method_12_code 21 = .ok (.ireturn, 1) := by decide +kernel
theorem own_ef6 (m : MethodId) (r0 : Addr) : entryFrame m #[(.ref r0)] 3 = mkF m 0 #[.val (.ref r0), .unset, .unset] [] := by first | (simp [entryFrame, mkF, argsToLocals, Value.category]; done) | rfl
def own_Q6 (Z : State) (r0 : Addr) (b_b : Addr) (w_e : Int32) (b_n : Addr) (w_m : Int32) (w_p : Int32) (g_b : Nat → Int32) (h0 : Heap) (n0 : Nat) (v : Option Value) (h : Heap) (L : List Loc) : Prop := (v = some (.int w_m)) ∧ (Fr n0 L) ∧ (Keep h0 h [r0]) ∧ (Exa Z h r0 "com/example/wireform/wireform/wire/WireReader") ∧ (Fld Z h r0 "com/example/wireform/wireform/wire/WireReader" "bytes" "[B" (.ref b_b)) ∧ (Fld Z h r0 "com/example/wireform/wireform/wire/WireReader" "end" "I" (.int w_e)) ∧ (Fld Z h r0 "com/example/wireform/wireform/wire/WireReader" "nesting" "Lcom/example/wireform/wireform/wire/Nesting;" (.ref b_n)) ∧ (Fld Z h r0 "com/example/wireform/wireform/wire/WireReader" "limit" "I" (.int ((((w_p + (1 : Int32))) + ((g_b (w_p).toNatClampNeg)))))) ∧ (Fld Z h r0 "com/example/wireform/wireform/wire/WireReader" "position" "I" (.int ((w_p + (1 : Int32)))))
set_option maxRecDepth 65536 in
set_option maxHeartbeats 40000000 in
theorem own_rm6 (l : Launch) (Z : State) (a0 : Array Value) (hw : ∀ d ∈ tables_1, d.before a0 Z = true) (ws : List Jvm.Cond) (r0 : Addr) (b_b : Addr) (w_e : Int32) (b_n : Addr) (w_m : Int32) (w_p : Int32) (g_b : Nat → Int32) (h0 : Heap) (n0 : Nat) (Z0 : n0 ≤ h0.size) (E_r0 : Exa Z h0 r0 "com/example/wireform/wireform/wire/WireReader") (F_r0_bytes : Fld Z h0 r0 "com/example/wireform/wireform/wire/WireReader" "bytes" "[B" (.ref b_b)) (F_r0_end : Fld Z h0 r0 "com/example/wireform/wireform/wire/WireReader" "end" "I" (.int w_e)) (F_r0_nesting : Fld Z h0 r0 "com/example/wireform/wireform/wire/WireReader" "nesting" "Lcom/example/wireform/wireform/wire/Nesting;" (.ref b_n)) (F_r0_limit : Fld Z h0 r0 "com/example/wireform/wireform/wire/WireReader" "limit" "I" (.int w_m)) (F_r0_position : Fld Z h0 r0 "com/example/wireform/wireform/wire/WireReader" "position" "I" (.int w_p)) (R_b_b : own_RayB Z h0 b_b 4 g_b) (g_r0 : n0 ≤ r0) (ne_r0_b_b : r0 ≠ b_b) (hV : own_V w_p w_m (g_b (w_p).toNatClampNeg) 4) :
    MetFree l (⟨"com/example/wireform/wireform/wire/WireReader", "beginLengthDelimited", "()I"⟩ : MethodName) (head1 (Jvm.Cond.code (⟨"com/example/wireform/wireform/wire/WireReader", "beginLengthDelimited", "()I"⟩ : MethodName) prog_71_method_12_code 3 (some .int) :: ws) ({ frames := 3, cells := 0, slots := 0, locals := 45 } : Room)) (fun a U => a = #[(.ref r0)] ∧ Z.Warmed39 U.vm ∧ U.heap = h0) (fun _ _ _ _ _ => True) (fun _ U o U' => ∃ v L, o = .returned v ∧ own_Q6 Z r0 b_b w_e b_n w_m w_p g_b h0 n0 v U'.heap L ∧ FrameEnd U o U' L ({ frames := 3, cells := 0, slots := 0, locals := 45 } : Room).cells ({ frames := 3, cells := 0, slots := 0, locals := 45 } : Room).slots) := by
  refine MetFree.of_bodySF (plainFor_of_name own_pn2) hisR ?_
  intro p e s m args below meth c s₁ Bd hml0 hP hK
  obtain ⟨rfl, hZ, hh⟩ := hP
  have hx := Bd.exec
  have hby := Bd.bytes
  have hml : c.maxLocals = 3 := hml0
  have hown : s.vm.findClass "com/example/wireform/wireform/wire/WireReader" = some m.cls := findClass_of_methodNamed Bd.named
  have hnm := (name_of_methodNamed Bd.named Bd.method).1
  have X0 : Stand p l e ({ frames := 3, cells := 0, slots := 0, locals := 45 } : Room) s m #[(.ref r0)] below meth c s₁ [] 0 0 := Stand.of_body Bd
  have e0 : s₁.heap = h0 := by rw [← hh, Bd.state]; rfl
  have N0 := Fr.nil n0
  have pre0 : ∀ t, Steps p.tables e below (s₁.setTop (mkF m 0 #[.val (.ref r0), .unset, .unset] [])) t → Steps p.tables e below (s₁.setTop (entryFrame m #[(.ref r0)] 3)) t := fun t k => castTop (own_ef6 m r0) k
  refine own_run (own_st pre0 ?_)
  refine own_st (B := s₁.setTop (mkF m 1 #[.val (.ref r0), .unset, .unset] [(.ref r0)])) (fun target kt => ?_) ?_
  · show Steps p.tables e below (s₁.setTop (mkF m 0 #[.val (.ref r0), .unset, .unset] [])) target
    refine XS.aloadN X0.here hx rfl (hb hby own_d6_0) rfl rfl ?_
    exact kt
  obtain ⟨cqg1, qg1, qg1'⟩ := E_r0.cell
  obtain ⟨_, _, ⟨Tg1, Lg1, kg1, ng1⟩, -, Xg1, ⟨Lcg1, hQg1, lg1, yg1, zg1⟩, stg1⟩ := X0.privateBack hx (y := (⟨"com/example/wireform/wireform/wire/WireReader", "readLength", "()I"⟩ : MethodName)) hown (mvT hZ (hw _ (List.mem_of_getElem? (i := 44) rfl))) (mvT hZ (hw _ (List.mem_of_getElem? (i := 45) rfl))) (mvT hZ (own_selPriv (hw _ (List.mem_of_getElem? (i := 46) rfl)) (hw _ (List.mem_of_getElem? (i := 45) rfl)) (hw _ (List.mem_of_getElem? (i := 30) rfl)) rfl (by decide))) (Cond.privateMethod_at (mvP hZ (hw _ (List.mem_of_getElem? (i := 46) rfl)) (args := #[]))) (mvT hZ (hw _ (List.mem_of_getElem? (i := 47) rfl))) (by decide) (backOf (W := 0) (own_rm7 l Z a0 hw [] r0 b_b w_e b_n w_m w_p g_b h0 n0 Z0 E_r0 F_r0_bytes F_r0_end F_r0_nesting F_r0_limit F_r0_position R_b_b g_r0 ne_r0_b_b (show own_V w_p w_m (g_b (w_p).toNatClampNeg) 4 from hV)) hZ (hw _ (List.mem_of_getElem? (i := 47) rfl)) (hw _ (List.mem_of_getElem? (i := 14) rfl)) (by decide) (by decide)) (g := (mkF m 1 #[.val (.ref r0), .unset, .unset] [(.ref r0)])) rfl (by rw [hml]; rfl) (Steps.refl _) (a := r0) (by rw [e0]; exact qg1) qg1' (argsL := []) (rest := []) (lenOf own_pd2 rfl) rfl (by show 2 * 0 + _ ≤ _; exact Nat.le_of_eq rfl) (hb hby own_d6_1) (fun _ _ => ⟨rfl, e0, (by decide : 0 + 0 ≤ _), (by decide : 0 + 0 ≤ _)⟩)
  dsimp only [Pt.U, Pt.locs, Pt.cells, Pt.slots] at Xg1 lg1 yg1 zg1 stg1 hQg1
  subst lg1 yg1 zg1
  obtain ⟨rfl, Ng1q, Kg1, F, F_1, F_2, F_3, F_4, F_5⟩ := hQg1
  have F_6 := R_b_b.keep Kg1 (ninS (Ne.symm ne_r0_b_b) nin0)
  have Zz : n0 ≤ Tg1.heap.size := Nat.le_trans Z0 Kg1.1
  have Kc := (Keep.refl h0 [r0]).trans Kg1 (allS (Or.inl (List.mem_of_getElem? (i := 0) rfl)) all0)
  obtain ⟨w1_position, hw1_position⟩ : ∃ z : Int32, z = (w_p + (1 : Int32)) := ⟨_, rfl⟩
  have F_7 : Fld Z Tg1.heap r0 "com/example/wireform/wireform/wire/WireReader" "position" "I" (.int w1_position) := by subst hw1_position; exact F_5
  have Ng1 := Fr.app N0 Ng1q
  refine own_st (fun _ k => stg1.trans k) ?_
  obtain ⟨v4, hv4⟩ : ∃ z : Int32, z = (g_b (w_p).toNatClampNeg) := ⟨_, rfl⟩
  refine own_st (B := Tg1.setTop (mkF m 6 #[.val (.ref r0), .val (.int v4), .unset] [(.ref r0)])) (fun target kt => ?_) ?_
  · show Steps p.tables e below (Tg1.setTop (mkF m 4 #[.val (.ref r0), .unset, .unset] [(.int (g_b (w_p).toNatClampNeg))])) target
    refine XS.istoreN Xg1.here hx rfl (hb hby own_d6_4) rfl (l' := #[.val (.ref r0), .val (.int v4), .unset]) (by subst hv4; rfl) ?_
    show Steps p.tables e below (Tg1.setTop (mkF m 5 #[.val (.ref r0), .val (.int v4), .unset] [])) target
    refine XS.aloadN Xg1.here hx rfl (hb hby own_d6_5) rfl rfl ?_
    exact kt
  obtain ⟨Tg6, Xg6, eg6, stg6⟩ := getF Xg1 hx hZ hown (host := "") (Or.inl (hw _ (List.mem_of_getElem? (i := 25) rfl))) Via.refl rfl F_4 (g := (mkF m 6 #[.val (.ref r0), .val (.int v4), .unset] [(.ref r0)])) rfl rfl (hb hby own_d6_6)
  refine own_st stg6 ?_
  refine own_st (B := Tg6.setTop (mkF m 12 #[.val (.ref r0), .val (.int v4), .val (.int w_m)] [(.ref r0), (.ref r0)])) (fun target kt => ?_) ?_
  · show Steps p.tables e below (Tg6.setTop (mkF m 9 #[.val (.ref r0), .val (.int v4), .unset] [(.int w_m)])) target
    refine XS.istoreN Xg6.here hx rfl (hb hby own_d6_9) rfl (l' := #[.val (.ref r0), .val (.int v4), .val (.int w_m)]) rfl ?_
    show Steps p.tables e below (Tg6.setTop (mkF m 10 #[.val (.ref r0), .val (.int v4), .val (.int w_m)] [])) target
    refine XS.aloadN Xg6.here hx rfl (hb hby own_d6_10) rfl rfl ?_
    show Steps p.tables e below (Tg6.setTop (mkF m 11 #[.val (.ref r0), .val (.int v4), .val (.int w_m)] [(.ref r0)])) target
    refine XS.aloadN Xg6.here hx rfl (hb hby own_d6_11) rfl rfl ?_
    exact kt
  obtain ⟨Tg12, Xg12, eg12, stg12⟩ := getF Xg6 hx hZ hown (host := "") (Or.inl (hw _ (List.mem_of_getElem? (i := 48) rfl))) Via.refl eg6 F_7 (g := (mkF m 12 #[.val (.ref r0), .val (.int v4), .val (.int w_m)] [(.ref r0), (.ref r0)])) rfl rfl (hb hby own_d6_12)
  refine own_st stg12 ?_
  refine own_st (B := Tg12.setTop (mkF m 17 #[.val (.ref r0), .val (.int v4), .val (.int w_m)] [(.int (w1_position + v4)), (.ref r0)])) (fun target kt => ?_) ?_
  · show Steps p.tables e below (Tg12.setTop (mkF m 15 #[.val (.ref r0), .val (.int v4), .val (.int w_m)] [(.int w1_position), (.ref r0)])) target
    refine XS.iloadN Xg12.here hx rfl (hb hby own_d6_15) rfl ?_
    show Steps p.tables e below (Tg12.setTop (mkF m 16 #[.val (.ref r0), .val (.int v4), .val (.int w_m)] [(.int v4), (.int w1_position), (.ref r0)])) target
    refine XS.iadd Xg12.here hx rfl (hb hby own_d6_16) rfl ?_
    exact kt
  obtain ⟨Tg17, hg17, Xg17, eg17, Wg17, stg17⟩ := putF Xg12 hx hZ hown (host := "") (Or.inl (hw _ (List.mem_of_getElem? (i := 25) rfl))) Via.refl eg12 F_4 F (Or.inl (hw _ (List.mem_of_getElem? (i := 26) rfl))) (hw _ (List.mem_of_getElem? (i := 13) rfl)) (ty := .int) (by decide) rfl rfl (g := (mkF m 17 #[.val (.ref r0), .val (.int v4), .val (.int w_m)] [(.int (w1_position + v4)), (.ref r0)])) rfl rfl (hb hby own_d6_17)
  refine own_st stg17 ?_
  have Ng17 := Fr.snoc Xg17 Ng1 g_r0
  have F_8 := F.wr Wg17
  have F_9 := F_1.other Wg17 (Or.inr (slot_ne (Or.inr (hw _ (List.mem_of_getElem? (i := 20) rfl))) (Or.inl (hw _ (List.mem_of_getElem? (i := 26) rfl))) (by decide) (t := (.array .byte)) (t' := .int) (by decide) (by decide)))
  have F_10 := F_2.other Wg17 (Or.inr (slot_ne (Or.inr (hw _ (List.mem_of_getElem? (i := 22) rfl))) (Or.inl (hw _ (List.mem_of_getElem? (i := 26) rfl))) (by decide) (t := .int) (t' := .int) (by decide) (by decide)))
  have F_11 := F_3.other Wg17 (Or.inr (slot_ne (Or.inr (hw _ (List.mem_of_getElem? (i := 24) rfl))) (Or.inl (hw _ (List.mem_of_getElem? (i := 26) rfl))) (by decide) (t := (.object "com/example/wireform/wireform/wire/Nesting")) (t' := .int) (by decide) (by decide)))
  have F_12 := F_4.same Wg17
  have F_13 := F_7.other Wg17 (Or.inr (slot_ne (Or.inl (hw _ (List.mem_of_getElem? (i := 49) rfl))) (Or.inl (hw _ (List.mem_of_getElem? (i := 26) rfl))) (by decide) (t := .int) (t' := .int) (by decide) (by decide)))
  have F_14 := F_6.other Wg17 (Ne.symm ne_r0_b_b)
  have Zz_1 : n0 ≤ hg17.size := Nat.le_trans Zz (Keep.of_wr Wg17).1
  have Kc_1 := Kc.wr Wg17 (Or.inl (List.mem_of_getElem? (i := 0) rfl))
  obtain ⟨v17, hv17⟩ : ∃ z : Int32, z = (w1_position + v4) := ⟨_, rfl⟩
  have F_15 : Fld Z hg17 r0 "com/example/wireform/wireform/wire/WireReader" "limit" "I" (.int v17) := by subst hv17; exact F_12
  refine own_st (B := Tg17.setTop (mkF m 21 #[.val (.ref r0), .val (.int v4), .val (.int w_m)] [(.int w_m)])) (fun target kt => ?_) ?_
  · show Steps p.tables e below (Tg17.setTop (mkF m 20 #[.val (.ref r0), .val (.int v4), .val (.int w_m)] [])) target
    refine XS.iloadN Xg17.here hx rfl (hb hby own_d6_20) rfl ?_
    exact kt
  obtain ⟨fs, hr, hrun, hended, hW, hsame⟩ := Xg17.leave (v := some (.int w_m)) (fun h => by rw [Bd.returns] at h; cases h)
  have hend : Steps p.tables e below (Tg17.setTop (mkF m 21 #[.val (.ref r0), .val (.int v4), .val (.int w_m)] [(.int w_m)])) (Tg17.setFrames fs) := by
    exact retI Xg17 hx Bd.returns (hb hby own_d6_21) hr
  refine own_fin hend ⟨_, hrun, hended, _, _, rfl, ?_, ⟨_, rfl⟩, hW, hsame.mono (by decide) (by decide)⟩
  show own_Q6 Z r0 b_b w_e b_n w_m w_p g_b h0 n0 _ Tg17.heap _
  rw [eg17]
  subst hw1_position hv4 hv17
  exact ⟨(congrArg (fun z => some (Value.int z)) rfl), Ng17, Kc_1, F_8, F_9, F_10, F_11, F_15, F_13⟩
theorem own_d12_0 : decode prog_71_method_13_code 0 = .ok (.aload_n 0, 1) := by decide +kernel
theorem own_d12_1 : decode prog_71_method_13_code 1 = .ok (.iload_n 1, 1) := by decide +kernel
theorem own_d12_2 : decode prog_71_method_13_code 2 = .ok (.putfield 40, 3) := by decide +kernel
theorem own_d12_5 : decode prog_71_method_13_code 5 = .ok (.return_, 1) := by decide +kernel
theorem own_ef12 (m : MethodId) (r0 : Addr) (p1 : Int32) : entryFrame m #[(.ref r0), (.int p1)] 2 = mkF m 0 #[.val (.ref r0), .val (.int p1)] [] := by first | (simp [entryFrame, mkF, argsToLocals, Value.category]; done) | rfl
def own_Q12 (Z : State) (r0 : Addr) (p1 : Int32) (b_b : Addr) (w_e : Int32) (b_n : Addr) (w_m : Int32) (w_p : Int32) (h0 : Heap) (n0 : Nat) (v : Option Value) (h : Heap) (L : List Loc) : Prop := (v = none) ∧ (Fr n0 L) ∧ (Keep h0 h [r0]) ∧ (Exa Z h r0 "com/example/wireform/wireform/wire/WireReader") ∧ (Fld Z h r0 "com/example/wireform/wireform/wire/WireReader" "bytes" "[B" (.ref b_b)) ∧ (Fld Z h r0 "com/example/wireform/wireform/wire/WireReader" "end" "I" (.int w_e)) ∧ (Fld Z h r0 "com/example/wireform/wireform/wire/WireReader" "nesting" "Lcom/example/wireform/wireform/wire/Nesting;" (.ref b_n)) ∧ (Fld Z h r0 "com/example/wireform/wireform/wire/WireReader" "limit" "I" (.int p1)) ∧ (Fld Z h r0 "com/example/wireform/wireform/wire/WireReader" "position" "I" (.int w_p))
set_option maxRecDepth 65536 in
set_option maxHeartbeats 40000000 in
theorem own_rm12 (l : Launch) (Z : State) (a0 : Array Value) (hw : ∀ d ∈ tables_1, d.before a0 Z = true) (ws : List Jvm.Cond) (r0 : Addr) (p1 : Int32) (b_b : Addr) (w_e : Int32) (b_n : Addr) (w_m : Int32) (w_p : Int32) (h0 : Heap) (n0 : Nat) (Z0 : n0 ≤ h0.size) (E_r0 : Exa Z h0 r0 "com/example/wireform/wireform/wire/WireReader") (F_r0_bytes : Fld Z h0 r0 "com/example/wireform/wireform/wire/WireReader" "bytes" "[B" (.ref b_b)) (F_r0_end : Fld Z h0 r0 "com/example/wireform/wireform/wire/WireReader" "end" "I" (.int w_e)) (F_r0_nesting : Fld Z h0 r0 "com/example/wireform/wireform/wire/WireReader" "nesting" "Lcom/example/wireform/wireform/wire/Nesting;" (.ref b_n)) (F_r0_limit : Fld Z h0 r0 "com/example/wireform/wireform/wire/WireReader" "limit" "I" (.int w_m)) (F_r0_position : Fld Z h0 r0 "com/example/wireform/wireform/wire/WireReader" "position" "I" (.int w_p)) (g_r0 : n0 ≤ r0) :
    MetFree l (⟨"com/example/wireform/wireform/wire/WireReader", "endLengthDelimited", "(I)V"⟩ : MethodName) (head1 (Jvm.Cond.code (⟨"com/example/wireform/wireform/wire/WireReader", "endLengthDelimited", "(I)V"⟩ : MethodName) prog_71_method_13_code 2 none :: ws) ({ frames := 0, cells := 0, slots := 0, locals := 0 } : Room)) (fun a U => a = #[(.ref r0), (.int p1)] ∧ Z.Warmed39 U.vm ∧ U.heap = h0) (fun _ _ _ _ _ => True) (fun _ U o U' => ∃ v L, o = .returned v ∧ own_Q12 Z r0 p1 b_b w_e b_n w_m w_p h0 n0 v U'.heap L ∧ FrameEnd U o U' L ({ frames := 0, cells := 0, slots := 0, locals := 0 } : Room).cells ({ frames := 0, cells := 0, slots := 0, locals := 0 } : Room).slots) := by
  refine MetFree.of_bodySF (plainFor_of_name own_pn2) hisR ?_
  intro p e s m args below meth c s₁ Bd hml0 hP hK
  obtain ⟨rfl, hZ, hh⟩ := hP
  have hx := Bd.exec
  have hby := Bd.bytes
  have hml : c.maxLocals = 2 := hml0
  have hown : s.vm.findClass "com/example/wireform/wireform/wire/WireReader" = some m.cls := findClass_of_methodNamed Bd.named
  have hnm := (name_of_methodNamed Bd.named Bd.method).1
  have X0 : Stand p l e ({ frames := 0, cells := 0, slots := 0, locals := 0 } : Room) s m #[(.ref r0), (.int p1)] below meth c s₁ [] 0 0 := Stand.of_body Bd
  have e0 : s₁.heap = h0 := by rw [← hh, Bd.state]; rfl
  have N0 := Fr.nil n0
  have pre0 : ∀ t, Steps p.tables e below (s₁.setTop (mkF m 0 #[.val (.ref r0), .val (.int p1)] [])) t → Steps p.tables e below (s₁.setTop (entryFrame m #[(.ref r0), (.int p1)] 2)) t := fun t k => castTop (own_ef12 m r0 p1) k
  refine own_run (own_st pre0 ?_)
  refine own_st (B := s₁.setTop (mkF m 2 #[.val (.ref r0), .val (.int p1)] [(.int p1), (.ref r0)])) (fun target kt => ?_) ?_
  · show Steps p.tables e below (s₁.setTop (mkF m 0 #[.val (.ref r0), .val (.int p1)] [])) target
    refine XS.aloadN X0.here hx rfl (hb hby own_d12_0) rfl rfl ?_
    show Steps p.tables e below (s₁.setTop (mkF m 1 #[.val (.ref r0), .val (.int p1)] [(.ref r0)])) target
    refine XS.iloadN X0.here hx rfl (hb hby own_d12_1) rfl ?_
    exact kt
  obtain ⟨Tg2, hg2, Xg2, eg2, Wg2, stg2⟩ := putF X0 hx hZ hown (host := "") (Or.inl (hw _ (List.mem_of_getElem? (i := 25) rfl))) Via.refl e0 F_r0_limit E_r0 (Or.inl (hw _ (List.mem_of_getElem? (i := 26) rfl))) (hw _ (List.mem_of_getElem? (i := 13) rfl)) (ty := .int) (by decide) rfl rfl (g := (mkF m 2 #[.val (.ref r0), .val (.int p1)] [(.int p1), (.ref r0)])) rfl rfl (hb hby own_d12_2)
  refine own_st stg2 ?_
  have Ng2 := Fr.snoc Xg2 N0 g_r0
  have F := E_r0.wr Wg2
  have F_1 := F_r0_bytes.other Wg2 (Or.inr (slot_ne (Or.inr (hw _ (List.mem_of_getElem? (i := 20) rfl))) (Or.inl (hw _ (List.mem_of_getElem? (i := 26) rfl))) (by decide) (t := (.array .byte)) (t' := .int) (by decide) (by decide)))
  have F_2 := F_r0_end.other Wg2 (Or.inr (slot_ne (Or.inr (hw _ (List.mem_of_getElem? (i := 22) rfl))) (Or.inl (hw _ (List.mem_of_getElem? (i := 26) rfl))) (by decide) (t := .int) (t' := .int) (by decide) (by decide)))
  have F_3 := F_r0_nesting.other Wg2 (Or.inr (slot_ne (Or.inr (hw _ (List.mem_of_getElem? (i := 24) rfl))) (Or.inl (hw _ (List.mem_of_getElem? (i := 26) rfl))) (by decide) (t := (.object "com/example/wireform/wireform/wire/Nesting")) (t' := .int) (by decide) (by decide)))
  have F_4 := F_r0_limit.same Wg2
  have F_5 := F_r0_position.other Wg2 (Or.inr (slot_ne (Or.inl (hw _ (List.mem_of_getElem? (i := 49) rfl))) (Or.inl (hw _ (List.mem_of_getElem? (i := 26) rfl))) (by decide) (t := .int) (t' := .int) (by decide) (by decide)))
  have Zz : n0 ≤ hg2.size := Nat.le_trans Z0 (Keep.of_wr Wg2).1
  have Kc := (Keep.refl h0 [r0]).wr Wg2 (Or.inl (List.mem_of_getElem? (i := 0) rfl))
  obtain ⟨fs, hr, hrun, hended, hW, hsame⟩ := Xg2.leave (v := none) (fun _ => rfl)
  have hend : Steps p.tables e below (Tg2.setTop (mkF m 5 #[.val (.ref r0), .val (.int p1)] [])) (Tg2.setFrames fs) := by
    exact Xg2.returnOut hx Bd.returns (hb hby own_d12_5) hr
  refine own_fin hend ⟨_, hrun, hended, _, _, rfl, ?_, ⟨_, rfl⟩, hW, hsame.mono (by decide) (by decide)⟩
  show own_Q12 Z r0 p1 b_b w_e b_n w_m w_p h0 n0 _ Tg2.heap _
  rw [eg2]
  exact ⟨rfl, Ng2, Kc, F, F_1, F_2, F_3, F_4, F_5⟩
theorem own_pd3 : parseMethodDescriptor "()Z" = some ⟨[], some .boolean⟩ := by decide +kernel
theorem own_d4_0 : decode prog_71_method_14_code 0 = .ok (.aload_n 0, 1) := by decide +kernel
theorem own_d4_1 : decode prog_71_method_14_code 1 = .ok (.getfield 36, 3) := by decide +kernel
theorem own_d4_4 : decode prog_71_method_14_code 4 = .ok (.invokevirtual 162, 3) := by decide +kernel
theorem own_d4_7 : decode prog_71_method_14_code 7 = .ok (.ifCond .ne 14, 3) := by decide +kernel
theorem own_d4_21 : decode prog_71_method_14_code 21 = .ok (.aload_n 0, 1) := by decide +kernel
theorem own_d4_22 : decode prog_71_method_14_code 22 = .ok (.invokevirtual 171, 3) := by decide +kernel
theorem own_d4_25 : decode prog_71_method_14_code 25 = .ok (.ireturn, 1) := by decide +kernel
theorem own_ef4 (m : MethodId) (r0 : Addr) : entryFrame m #[(.ref r0)] 1 = mkF m 0 #[.val (.ref r0)] [] := by first | (simp [entryFrame, mkF, argsToLocals, Value.category]; done) | rfl
def own_Q4 (Z : State) (r0 : Addr) (b_b : Addr) (w_e : Int32) (b_n : Addr) (w_m : Int32) (w_p : Int32) (w_l : Int32) (w_d : Int32) (g_b : Nat → Int32) (h0 : Heap) (n0 : Nat) (v : Option Value) (h : Heap) (L : List Loc) : Prop := (v = some (.int w_m)) ∧ (Fr n0 L) ∧ (Keep h0 h [r0, b_n]) ∧ (Exa Z h r0 "com/example/wireform/wireform/wire/WireReader") ∧ (Fld Z h r0 "com/example/wireform/wireform/wire/WireReader" "bytes" "[B" (.ref b_b)) ∧ (Fld Z h r0 "com/example/wireform/wireform/wire/WireReader" "end" "I" (.int w_e)) ∧ (Fld Z h r0 "com/example/wireform/wireform/wire/WireReader" "nesting" "Lcom/example/wireform/wireform/wire/Nesting;" (.ref b_n)) ∧ (Fld Z h r0 "com/example/wireform/wireform/wire/WireReader" "limit" "I" (.int ((((w_p + (1 : Int32))) + (g_b (w_p).toNatClampNeg))))) ∧ (Fld Z h r0 "com/example/wireform/wireform/wire/WireReader" "position" "I" (.int ((w_p + (1 : Int32))))) ∧ (Exa Z h b_n "com/example/wireform/wireform/wire/Nesting") ∧ (Fld Z h b_n "com/example/wireform/wireform/wire/Nesting" "limit" "I" (.int w_l)) ∧ (Fld Z h b_n "com/example/wireform/wireform/wire/Nesting" "depth" "I" (.int ((if w_d = w_l then w_d else (w_d + (1 : Int32))))))
set_option maxRecDepth 65536 in
set_option maxHeartbeats 40000000 in
theorem own_rm4 (l : Launch) (Z : State) (a0 : Array Value) (hw : ∀ d ∈ tables_1, d.before a0 Z = true) (ws : List Jvm.Cond) (r0 : Addr) (b_b : Addr) (w_e : Int32) (b_n : Addr) (w_m : Int32) (w_p : Int32) (w_l : Int32) (w_d : Int32) (g_b : Nat → Int32) (h0 : Heap) (n0 : Nat) (Z0 : n0 ≤ h0.size) (E_r0 : Exa Z h0 r0 "com/example/wireform/wireform/wire/WireReader") (F_r0_bytes : Fld Z h0 r0 "com/example/wireform/wireform/wire/WireReader" "bytes" "[B" (.ref b_b)) (F_r0_end : Fld Z h0 r0 "com/example/wireform/wireform/wire/WireReader" "end" "I" (.int w_e)) (F_r0_nesting : Fld Z h0 r0 "com/example/wireform/wireform/wire/WireReader" "nesting" "Lcom/example/wireform/wireform/wire/Nesting;" (.ref b_n)) (F_r0_limit : Fld Z h0 r0 "com/example/wireform/wireform/wire/WireReader" "limit" "I" (.int w_m)) (F_r0_position : Fld Z h0 r0 "com/example/wireform/wireform/wire/WireReader" "position" "I" (.int w_p)) (E_b_n : Exa Z h0 b_n "com/example/wireform/wireform/wire/Nesting") (F_b_n_limit : Fld Z h0 b_n "com/example/wireform/wireform/wire/Nesting" "limit" "I" (.int w_l)) (F_b_n_depth : Fld Z h0 b_n "com/example/wireform/wireform/wire/Nesting" "depth" "I" (.int w_d)) (R_b_b : own_RayB Z h0 b_b 4 g_b) (g_r0 : n0 ≤ r0) (g_b_n : n0 ≤ b_n) (ne_r0_b_b : r0 ≠ b_b) (ne_r0_b_n : r0 ≠ b_n) (ne_b_n_b_b : b_n ≠ b_b) (hV : own_V w_p w_m (g_b (w_p).toNatClampNeg) 4) (hN : ¬ (w_d = w_l)) :
    MetFree l (⟨"com/example/wireform/wireform/wire/WireReader", "beginMessage", "()I"⟩ : MethodName) (head1 (Jvm.Cond.code (⟨"com/example/wireform/wireform/wire/WireReader", "beginMessage", "()I"⟩ : MethodName) prog_71_method_14_code 1 (some .int) :: ws) ({ frames := 4, cells := 0, slots := 0, locals := 59 } : Room)) (fun a U => a = #[(.ref r0)] ∧ Z.Warmed39 U.vm ∧ U.heap = h0) (fun _ _ _ _ _ => True) (fun _ U o U' => ∃ v L, o = .returned v ∧ own_Q4 Z r0 b_b w_e b_n w_m w_p w_l w_d g_b h0 n0 v U'.heap L ∧ FrameEnd U o U' L ({ frames := 4, cells := 0, slots := 0, locals := 59 } : Room).cells ({ frames := 4, cells := 0, slots := 0, locals := 59 } : Room).slots) := by
  refine MetFree.of_bodySF (plainFor_of_name own_pn2) hisR ?_
  intro p e s m args below meth c s₁ Bd hml0 hP hK
  obtain ⟨rfl, hZ, hh⟩ := hP
  have hx := Bd.exec
  have hby := Bd.bytes
  have hml : c.maxLocals = 1 := hml0
  have hown : s.vm.findClass "com/example/wireform/wireform/wire/WireReader" = some m.cls := findClass_of_methodNamed Bd.named
  have hnm := (name_of_methodNamed Bd.named Bd.method).1
  have X0 : Stand p l e ({ frames := 4, cells := 0, slots := 0, locals := 59 } : Room) s m #[(.ref r0)] below meth c s₁ [] 0 0 := Stand.of_body Bd
  have e0 : s₁.heap = h0 := by rw [← hh, Bd.state]; rfl
  have N0 := Fr.nil n0
  have pre0 : ∀ t, Steps p.tables e below (s₁.setTop (mkF m 0 #[.val (.ref r0)] [])) t → Steps p.tables e below (s₁.setTop (entryFrame m #[(.ref r0)] 1)) t := fun t k => castTop (own_ef4 m r0) k
  refine own_run (own_st pre0 ?_)
  refine own_st (B := s₁.setTop (mkF m 1 #[.val (.ref r0)] [(.ref r0)])) (fun target kt => ?_) ?_
  · show Steps p.tables e below (s₁.setTop (mkF m 0 #[.val (.ref r0)] [])) target
    refine XS.aloadN X0.here hx rfl (hb hby own_d4_0) rfl rfl ?_
    exact kt
  obtain ⟨Tg1, Xg1, eg1, stg1⟩ := getF X0 hx hZ hown (host := "") (Or.inl (hw _ (List.mem_of_getElem? (i := 23) rfl))) Via.refl e0 F_r0_nesting (g := (mkF m 1 #[.val (.ref r0)] [(.ref r0)])) rfl rfl (hb hby own_d4_1)
  refine own_st stg1 ?_
  obtain ⟨cqg4, kqg4, qg4a, qg4b, qg4c⟩ := isOf hZ eg1 E_b_n
  obtain ⟨_, _, ⟨Tg4, Lg4, kg4, ng4⟩, -, Xg4, ⟨Lcg4, hQg4, lg4, yg4, zg4⟩, stg4⟩ := Xg1.virtualBack hx (y := (⟨"com/example/wireform/wireform/wire/Nesting", "enter", "()Z"⟩ : MethodName)) (z := (⟨"com/example/wireform/wireform/wire/Nesting", "enter", "()Z"⟩ : MethodName)) hown (mvT hZ (hw _ (List.mem_of_getElem? (i := 32) rfl))) (mvT hZ (hw _ (List.mem_of_getElem? (i := 33) rfl))) (notFace_of_selects (args := #[]) (mvT hZ (hw _ (List.mem_of_getElem? (i := 35) rfl)))) (mvT hZ (hw _ (List.mem_of_getElem? (i := 35) rfl))) (mvT hZ (hw _ (List.mem_of_getElem? (i := 34) rfl))) (by decide) (backOf (W := 0) (own_rm5 l Z a0 hw [] b_n w_l w_d h0 n0 Z0 E_b_n F_b_n_limit F_b_n_depth g_b_n) hZ (hw _ (List.mem_of_getElem? (i := 36) rfl)) (hw _ (List.mem_of_getElem? (i := 3) rfl)) (by decide) (by decide)) qg4a qg4c (g := (mkF m 4 #[.val (.ref r0)] [(.ref b_n)])) rfl (by rw [hml]; rfl) (Steps.refl _) (argsL := []) (rest := []) (lenOf own_pd3 rfl) rfl (by show 2 * 0 + _ ≤ _; exact Nat.le_of_eq rfl) (hb hby own_d4_4) (fun _ _ => ⟨rfl, eg1, (by decide : 0 + 0 ≤ _), (by decide : 0 + 0 ≤ _)⟩)
  dsimp only [Pt.U, Pt.locs, Pt.cells, Pt.slots] at Xg4 lg4 yg4 zg4 stg4 hQg4
  subst lg4 yg4 zg4
  obtain ⟨rfl, Ng4q, Kg4, F, F_1, F_2⟩ := hQg4
  have F_3 := E_r0.keep Kg4
  have F_4 := F_r0_bytes.keep Kg4 (ninS ne_r0_b_n nin0)
  have F_5 := F_r0_end.keep Kg4 (ninS ne_r0_b_n nin0)
  have F_6 := F_r0_nesting.keep Kg4 (ninS ne_r0_b_n nin0)
  have F_7 := F_r0_limit.keep Kg4 (ninS ne_r0_b_n nin0)
  have F_8 := F_r0_position.keep Kg4 (ninS ne_r0_b_n nin0)
  have F_9 := R_b_b.keep Kg4 (ninS (Ne.symm ne_b_n_b_b) nin0)
  have Zz : n0 ≤ Tg4.heap.size := Nat.le_trans Z0 Kg4.1
  have Kc := (Keep.refl h0 [r0, b_n]).trans Kg4 (allS (Or.inl (List.mem_of_getElem? (i := 1) rfl)) all0)
  obtain ⟨w4_depth, hw4_depth⟩ : ∃ z : Int32, z = (if w_d = w_l then w_d else (w_d + (1 : Int32))) := ⟨_, rfl⟩
  have F_10 : Fld Z Tg4.heap b_n "com/example/wireform/wireform/wire/Nesting" "depth" "I" (.int w4_depth) := by subst hw4_depth; exact F_2
  have Ng4 := Fr.app N0 Ng4q
  refine own_st (fun _ k => stg4.trans k) ?_
  have c7 : ¬ (w_d = w_l) := by
    exact hN
  refine own_st (B := Tg4.setTop (mkF m 22 #[.val (.ref r0)] [(.ref r0)])) (fun target kt => ?_) ?_
  · show Steps p.tables e below (Tg4.setTop (mkF m 7 #[.val (.ref r0)] [(.int (own_b (¬ (w_d = w_l))))])) target
    refine XS.ifYes Xg4.here hx rfl (pc0 := 7) (pc' := 21) rfl (hb hby own_d4_7) rfl ((if0 _ _).trans (feq (own_bn0 rfl c7)).2) (by decide) (by decide) ?_
    show Steps p.tables e below (Tg4.setTop (mkF m 21 #[.val (.ref r0)] [])) target
    refine XS.aloadN Xg4.here hx rfl (hb hby own_d4_21) rfl rfl ?_
    exact kt
  obtain ⟨cqg22, kqg22, qg22a, qg22b, qg22c⟩ := isOf hZ rfl F_3
  obtain ⟨_, _, ⟨Tg22, Lg22, kg22, ng22⟩, -, Xg22, ⟨Lcg22, hQg22, lg22, yg22, zg22⟩, stg22⟩ := Xg4.virtualBack hx (y := (⟨"com/example/wireform/wireform/wire/WireReader", "beginLengthDelimited", "()I"⟩ : MethodName)) (z := (⟨"com/example/wireform/wireform/wire/WireReader", "beginLengthDelimited", "()I"⟩ : MethodName)) hown (mvT hZ (hw _ (List.mem_of_getElem? (i := 39) rfl))) (mvT hZ (hw _ (List.mem_of_getElem? (i := 40) rfl))) (notFace_of_selects (args := #[]) (mvT hZ (hw _ (List.mem_of_getElem? (i := 42) rfl)))) (mvT hZ (hw _ (List.mem_of_getElem? (i := 42) rfl))) (mvT hZ (hw _ (List.mem_of_getElem? (i := 41) rfl))) (by decide) (backOf (W := 0) (own_rm6 l Z a0 hw [] r0 b_b w_e b_n w_m w_p g_b Tg4.heap n0 Zz F_3 F_4 F_5 F_6 F_7 F_8 F_9 g_r0 ne_r0_b_b (show own_V w_p w_m (g_b (w_p).toNatClampNeg) 4 from hV)) hZ (hw _ (List.mem_of_getElem? (i := 43) rfl)) (hw _ (List.mem_of_getElem? (i := 14) rfl)) (by decide) (by decide)) qg22a qg22c (g := (mkF m 22 #[.val (.ref r0)] [(.ref r0)])) rfl (by rw [hml]; rfl) (Steps.refl _) (argsL := []) (rest := []) (lenOf own_pd2 rfl) rfl (by show 2 * 0 + _ ≤ _; exact Nat.le_of_eq rfl) (hb hby own_d4_22) (fun _ _ => ⟨rfl, rfl, (by decide : 0 + 0 ≤ _), (by decide : 0 + 0 ≤ _)⟩)
  dsimp only [Pt.U, Pt.locs, Pt.cells, Pt.slots] at Xg22 lg22 yg22 zg22 stg22 hQg22
  subst lg22 yg22 zg22
  obtain ⟨rfl, Ng22q, Kg22, F_11, F_12, F_13, F_14, F_15, F_16⟩ := hQg22
  have F_17 := F.keep Kg22
  have F_18 := F_1.keep Kg22 (ninS (Ne.symm ne_r0_b_n) nin0)
  have F_19 := F_10.keep Kg22 (ninS (Ne.symm ne_r0_b_n) nin0)
  have F_20 := F_9.keep Kg22 (ninS (Ne.symm ne_r0_b_b) nin0)
  have Zz_1 : n0 ≤ Tg22.heap.size := Nat.le_trans Zz Kg22.1
  have Kc_1 := Kc.trans Kg22 (allS (Or.inl (List.mem_of_getElem? (i := 0) rfl)) all0)
  obtain ⟨w22_limit, hw22_limit⟩ : ∃ z : Int32, z = (((w_p + (1 : Int32))) + (g_b (w_p).toNatClampNeg)) := ⟨_, rfl⟩
  have F_21 : Fld Z Tg22.heap r0 "com/example/wireform/wireform/wire/WireReader" "limit" "I" (.int w22_limit) := by subst hw22_limit; exact F_15
  obtain ⟨w22_position, hw22_position⟩ : ∃ z : Int32, z = (w_p + (1 : Int32)) := ⟨_, rfl⟩
  have F_22 : Fld Z Tg22.heap r0 "com/example/wireform/wireform/wire/WireReader" "position" "I" (.int w22_position) := by subst hw22_position; exact F_16
  have Ng22 := Fr.app Ng4 Ng22q
  refine own_st (fun _ k => stg22.trans k) ?_
  obtain ⟨fs, hr, hrun, hended, hW, hsame⟩ := Xg22.leave (v := some (.int w_m)) (fun h => by rw [Bd.returns] at h; cases h)
  have hend : Steps p.tables e below (Tg22.setTop (mkF m 25 #[.val (.ref r0)] [(.int w_m)])) (Tg22.setFrames fs) := by
    exact retI Xg22 hx Bd.returns (hb hby own_d4_25) hr
  refine own_fin hend ⟨_, hrun, hended, _, _, rfl, ?_, ⟨_, rfl⟩, hW, hsame.mono (by decide) (by decide)⟩
  show own_Q4 Z r0 b_b w_e b_n w_m w_p w_l w_d g_b h0 n0 _ Tg22.heap _
  subst hw4_depth hw22_limit hw22_position
  exact ⟨(congrArg (fun z => some (Value.int z)) rfl), Ng22, Kc_1, F_11, F_12, F_13, F_14, F_21, F_22, F_17, F_18, F_19⟩
theorem own_pd4 : parseMethodDescriptor "(I)V" = some ⟨[.int], none⟩ := by decide +kernel
theorem own_pd5 : parseMethodDescriptor "()V" = some ⟨[], none⟩ := by decide +kernel
theorem own_d11_0 : decode prog_71_method_15_code 0 = .ok (.aload_n 0, 1) := by decide +kernel
theorem own_d11_1 : decode prog_71_method_15_code 1 = .ok (.iload_n 1, 1) := by decide +kernel
theorem own_d11_2 : decode prog_71_method_15_code 2 = .ok (.invokevirtual 174, 3) := by decide +kernel
theorem own_d11_5 : decode prog_71_method_15_code 5 = .ok (.aload_n 0, 1) := by decide +kernel
theorem own_d11_6 : decode prog_71_method_15_code 6 = .ok (.getfield 36, 3) := by decide +kernel
theorem own_d11_9 : decode prog_71_method_15_code 9 = .ok (.invokevirtual 177, 3) := by decide +kernel
theorem own_d11_12 : decode prog_71_method_15_code 12 = .ok (.return_, 1) := by decide +kernel
theorem own_ef11 (m : MethodId) (r0 : Addr) (p1 : Int32) : entryFrame m #[(.ref r0), (.int p1)] 2 = mkF m 0 #[.val (.ref r0), .val (.int p1)] [] := by first | (simp [entryFrame, mkF, argsToLocals, Value.category]; done) | rfl
def own_Q11 (Z : State) (r0 : Addr) (p1 : Int32) (b_b : Addr) (w_e : Int32) (b_n : Addr) (w_m : Int32) (w_p : Int32) (w_l : Int32) (w_d : Int32) (h0 : Heap) (n0 : Nat) (v : Option Value) (h : Heap) (L : List Loc) : Prop := (v = none) ∧ (Fr n0 L) ∧ (Keep h0 h [r0, b_n]) ∧ (Exa Z h r0 "com/example/wireform/wireform/wire/WireReader") ∧ (Fld Z h r0 "com/example/wireform/wireform/wire/WireReader" "bytes" "[B" (.ref b_b)) ∧ (Fld Z h r0 "com/example/wireform/wireform/wire/WireReader" "end" "I" (.int w_e)) ∧ (Fld Z h r0 "com/example/wireform/wireform/wire/WireReader" "nesting" "Lcom/example/wireform/wireform/wire/Nesting;" (.ref b_n)) ∧ (Fld Z h r0 "com/example/wireform/wireform/wire/WireReader" "limit" "I" (.int p1)) ∧ (Fld Z h r0 "com/example/wireform/wireform/wire/WireReader" "position" "I" (.int w_p)) ∧ (Exa Z h b_n "com/example/wireform/wireform/wire/Nesting") ∧ (Fld Z h b_n "com/example/wireform/wireform/wire/Nesting" "limit" "I" (.int w_l)) ∧ (Fld Z h b_n "com/example/wireform/wireform/wire/Nesting" "depth" "I" (.int ((w_d - (1 : Int32)))))
set_option maxRecDepth 65536 in
set_option maxHeartbeats 40000000 in
theorem own_rm11 (l : Launch) (Z : State) (a0 : Array Value) (hw : ∀ d ∈ tables_1, d.before a0 Z = true) (ws : List Jvm.Cond) (r0 : Addr) (p1 : Int32) (b_b : Addr) (w_e : Int32) (b_n : Addr) (w_m : Int32) (w_p : Int32) (w_l : Int32) (w_d : Int32) (h0 : Heap) (n0 : Nat) (Z0 : n0 ≤ h0.size) (E_r0 : Exa Z h0 r0 "com/example/wireform/wireform/wire/WireReader") (F_r0_bytes : Fld Z h0 r0 "com/example/wireform/wireform/wire/WireReader" "bytes" "[B" (.ref b_b)) (F_r0_end : Fld Z h0 r0 "com/example/wireform/wireform/wire/WireReader" "end" "I" (.int w_e)) (F_r0_nesting : Fld Z h0 r0 "com/example/wireform/wireform/wire/WireReader" "nesting" "Lcom/example/wireform/wireform/wire/Nesting;" (.ref b_n)) (F_r0_limit : Fld Z h0 r0 "com/example/wireform/wireform/wire/WireReader" "limit" "I" (.int w_m)) (F_r0_position : Fld Z h0 r0 "com/example/wireform/wireform/wire/WireReader" "position" "I" (.int w_p)) (E_b_n : Exa Z h0 b_n "com/example/wireform/wireform/wire/Nesting") (F_b_n_limit : Fld Z h0 b_n "com/example/wireform/wireform/wire/Nesting" "limit" "I" (.int w_l)) (F_b_n_depth : Fld Z h0 b_n "com/example/wireform/wireform/wire/Nesting" "depth" "I" (.int w_d)) (g_r0 : n0 ≤ r0) (g_b_n : n0 ≤ b_n) (ne_r0_b_n : r0 ≠ b_n) :
    MetFree l (⟨"com/example/wireform/wireform/wire/WireReader", "endMessage", "(I)V"⟩ : MethodName) (head1 (Jvm.Cond.code (⟨"com/example/wireform/wireform/wire/WireReader", "endMessage", "(I)V"⟩ : MethodName) prog_71_method_15_code 2 none :: ws) ({ frames := 1, cells := 0, slots := 0, locals := 13 } : Room)) (fun a U => a = #[(.ref r0), (.int p1)] ∧ Z.Warmed39 U.vm ∧ U.heap = h0) (fun _ _ _ _ _ => True) (fun _ U o U' => ∃ v L, o = .returned v ∧ own_Q11 Z r0 p1 b_b w_e b_n w_m w_p w_l w_d h0 n0 v U'.heap L ∧ FrameEnd U o U' L ({ frames := 1, cells := 0, slots := 0, locals := 13 } : Room).cells ({ frames := 1, cells := 0, slots := 0, locals := 13 } : Room).slots) := by
  refine MetFree.of_bodySF (plainFor_of_name own_pn2) hisR ?_
  intro p e s m args below meth c s₁ Bd hml0 hP hK
  obtain ⟨rfl, hZ, hh⟩ := hP
  have hx := Bd.exec
  have hby := Bd.bytes
  have hml : c.maxLocals = 2 := hml0
  have hown : s.vm.findClass "com/example/wireform/wireform/wire/WireReader" = some m.cls := findClass_of_methodNamed Bd.named
  have hnm := (name_of_methodNamed Bd.named Bd.method).1
  have X0 : Stand p l e ({ frames := 1, cells := 0, slots := 0, locals := 13 } : Room) s m #[(.ref r0), (.int p1)] below meth c s₁ [] 0 0 := Stand.of_body Bd
  have e0 : s₁.heap = h0 := by rw [← hh, Bd.state]; rfl
  have N0 := Fr.nil n0
  have pre0 : ∀ t, Steps p.tables e below (s₁.setTop (mkF m 0 #[.val (.ref r0), .val (.int p1)] [])) t → Steps p.tables e below (s₁.setTop (entryFrame m #[(.ref r0), (.int p1)] 2)) t := fun t k => castTop (own_ef11 m r0 p1) k
  refine own_run (own_st pre0 ?_)
  refine own_st (B := s₁.setTop (mkF m 2 #[.val (.ref r0), .val (.int p1)] [(.int p1), (.ref r0)])) (fun target kt => ?_) ?_
  · show Steps p.tables e below (s₁.setTop (mkF m 0 #[.val (.ref r0), .val (.int p1)] [])) target
    refine XS.aloadN X0.here hx rfl (hb hby own_d11_0) rfl rfl ?_
    show Steps p.tables e below (s₁.setTop (mkF m 1 #[.val (.ref r0), .val (.int p1)] [(.ref r0)])) target
    refine XS.iloadN X0.here hx rfl (hb hby own_d11_1) rfl ?_
    exact kt
  obtain ⟨cqg2, kqg2, qg2a, qg2b, qg2c⟩ := isOf hZ e0 E_r0
  obtain ⟨_, _, ⟨Tg2, Lg2, kg2, ng2⟩, -, Xg2, ⟨Lcg2, hQg2, lg2, yg2, zg2⟩, stg2⟩ := X0.virtualBack hx (y := (⟨"com/example/wireform/wireform/wire/WireReader", "endLengthDelimited", "(I)V"⟩ : MethodName)) (z := (⟨"com/example/wireform/wireform/wire/WireReader", "endLengthDelimited", "(I)V"⟩ : MethodName)) hown (mvT hZ (hw _ (List.mem_of_getElem? (i := 68) rfl))) (mvT hZ (hw _ (List.mem_of_getElem? (i := 69) rfl))) (notFace_of_selects (args := #[]) (mvT hZ (hw _ (List.mem_of_getElem? (i := 71) rfl)))) (mvT hZ (hw _ (List.mem_of_getElem? (i := 71) rfl))) (mvT hZ (hw _ (List.mem_of_getElem? (i := 70) rfl))) (by decide) (backOf (W := 0) (own_rm12 l Z a0 hw [] r0 p1 b_b w_e b_n w_m w_p h0 n0 Z0 E_r0 F_r0_bytes F_r0_end F_r0_nesting F_r0_limit F_r0_position g_r0) hZ (hw _ (List.mem_of_getElem? (i := 72) rfl)) (hw _ (List.mem_of_getElem? (i := 14) rfl)) (by decide) (by decide)) qg2a qg2c (g := (mkF m 2 #[.val (.ref r0), .val (.int p1)] [(.int p1), (.ref r0)])) rfl (by rw [hml]; rfl) (Steps.refl _) (argsL := [(.int p1)]) (rest := []) (lenOf own_pd4 rfl) rfl (by show 2 * 0 + _ ≤ _; exact Nat.le_of_eq rfl) (hb hby own_d11_2) (fun _ _ => ⟨rfl, e0, (by decide : 0 + 0 ≤ _), (by decide : 0 + 0 ≤ _)⟩)
  dsimp only [Pt.U, Pt.locs, Pt.cells, Pt.slots] at Xg2 lg2 yg2 zg2 stg2 hQg2
  subst lg2 yg2 zg2
  obtain ⟨rfl, Ng2q, Kg2, F, F_1, F_2, F_3, F_4, F_5⟩ := hQg2
  have F_6 := E_b_n.keep Kg2
  have F_7 := F_b_n_limit.keep Kg2 (ninS (Ne.symm ne_r0_b_n) nin0)
  have F_8 := F_b_n_depth.keep Kg2 (ninS (Ne.symm ne_r0_b_n) nin0)
  have Zz : n0 ≤ Tg2.heap.size := Nat.le_trans Z0 Kg2.1
  have Kc := (Keep.refl h0 [r0, b_n]).trans Kg2 (allS (Or.inl (List.mem_of_getElem? (i := 0) rfl)) all0)
  have Ng2 := Fr.app N0 Ng2q
  refine own_st (fun _ k => stg2.trans k) ?_
  refine own_st (B := Tg2.setTop (mkF m 6 #[.val (.ref r0), .val (.int p1)] [(.ref r0)])) (fun target kt => ?_) ?_
  · show Steps p.tables e below (Tg2.setTop (mkF m 5 #[.val (.ref r0), .val (.int p1)] [])) target
    refine XS.aloadN Xg2.here hx rfl (hb hby own_d11_5) rfl rfl ?_
    exact kt
  obtain ⟨Tg6, Xg6, eg6, stg6⟩ := getF Xg2 hx hZ hown (host := "") (Or.inl (hw _ (List.mem_of_getElem? (i := 23) rfl))) Via.refl rfl F_3 (g := (mkF m 6 #[.val (.ref r0), .val (.int p1)] [(.ref r0)])) rfl rfl (hb hby own_d11_6)
  refine own_st stg6 ?_
  obtain ⟨cqg9, kqg9, qg9a, qg9b, qg9c⟩ := isOf hZ eg6 F_6
  obtain ⟨_, _, ⟨Tg9, Lg9, kg9, ng9⟩, -, Xg9, ⟨Lcg9, hQg9, lg9, yg9, zg9⟩, stg9⟩ := Xg6.virtualBack hx (y := (⟨"com/example/wireform/wireform/wire/Nesting", "exit", "()V"⟩ : MethodName)) (z := (⟨"com/example/wireform/wireform/wire/Nesting", "exit", "()V"⟩ : MethodName)) hown (mvT hZ (hw _ (List.mem_of_getElem? (i := 73) rfl))) (mvT hZ (hw _ (List.mem_of_getElem? (i := 74) rfl))) (notFace_of_selects (args := #[]) (mvT hZ (hw _ (List.mem_of_getElem? (i := 76) rfl)))) (mvT hZ (hw _ (List.mem_of_getElem? (i := 76) rfl))) (mvT hZ (hw _ (List.mem_of_getElem? (i := 75) rfl))) (by decide) (backOf (W := 0) (own_rm13 l Z a0 hw [] b_n w_l w_d Tg2.heap n0 Zz F_6 F_7 F_8 g_b_n) hZ (hw _ (List.mem_of_getElem? (i := 77) rfl)) (hw _ (List.mem_of_getElem? (i := 3) rfl)) (by decide) (by decide)) qg9a qg9c (g := (mkF m 9 #[.val (.ref r0), .val (.int p1)] [(.ref b_n)])) rfl (by rw [hml]; rfl) (Steps.refl _) (argsL := []) (rest := []) (lenOf own_pd5 rfl) rfl (by show 2 * 0 + _ ≤ _; exact Nat.le_of_eq rfl) (hb hby own_d11_9) (fun _ _ => ⟨rfl, eg6, (by decide : 0 + 0 ≤ _), (by decide : 0 + 0 ≤ _)⟩)
  dsimp only [Pt.U, Pt.locs, Pt.cells, Pt.slots] at Xg9 lg9 yg9 zg9 stg9 hQg9
  subst lg9 yg9 zg9
  obtain ⟨rfl, Ng9q, Kg9, F_9, F_10, F_11⟩ := hQg9
  have F_12 := F.keep Kg9
  have F_13 := F_1.keep Kg9 (ninS ne_r0_b_n nin0)
  have F_14 := F_2.keep Kg9 (ninS ne_r0_b_n nin0)
  have F_15 := F_3.keep Kg9 (ninS ne_r0_b_n nin0)
  have F_16 := F_4.keep Kg9 (ninS ne_r0_b_n nin0)
  have F_17 := F_5.keep Kg9 (ninS ne_r0_b_n nin0)
  have Zz_1 : n0 ≤ Tg9.heap.size := Nat.le_trans Zz Kg9.1
  have Kc_1 := Kc.trans Kg9 (allS (Or.inl (List.mem_of_getElem? (i := 1) rfl)) all0)
  obtain ⟨w9_depth, hw9_depth⟩ : ∃ z : Int32, z = (w_d - (1 : Int32)) := ⟨_, rfl⟩
  have F_18 : Fld Z Tg9.heap b_n "com/example/wireform/wireform/wire/Nesting" "depth" "I" (.int w9_depth) := by subst hw9_depth; exact F_11
  have Ng9 := Fr.app Ng2 Ng9q
  refine own_st (fun _ k => stg9.trans k) ?_
  obtain ⟨fs, hr, hrun, hended, hW, hsame⟩ := Xg9.leave (v := none) (fun _ => rfl)
  have hend : Steps p.tables e below (Tg9.setTop (mkF m 12 #[.val (.ref r0), .val (.int p1)] [])) (Tg9.setFrames fs) := by
    exact Xg9.returnOut hx Bd.returns (hb hby own_d11_12) hr
  refine own_fin hend ⟨_, hrun, hended, _, _, rfl, ?_, ⟨_, rfl⟩, hW, hsame.mono (by decide) (by decide)⟩
  show own_Q11 Z r0 p1 b_b w_e b_n w_m w_p w_l w_d h0 n0 _ Tg9.heap _
  subst hw9_depth
  exact ⟨rfl, Ng9, Kc_1, F_12, F_13, F_14, F_15, F_16, F_17, F_9, F_10, F_18⟩
theorem own_12 (a v : Int32) (h : v = (1 : Int32) + (a &&& (1 : Int32))) : v = (1 : Int32) ∨ v = (2 : Int32) := by
  have h1 := c_mask a 1 1 (by decide) (by decide)
  have h2 := c_iadd 1 (a &&& 1)
  have e1 : (1 : Int32).toInt = 1 := by decide
  have e2 : (2 : Int32).toInt = 2 := by decide
  have r := rng32 (1 + (a &&& 1))
  rw [h1, e1] at h2
  simp only [h, ← Int32.toInt_inj, e1, e2]
  omega
theorem own_14 (a : Int32) : 1 ≤ ((1 : Int32) + (a &&& (3 : Int32))).toInt ∧ ((1 : Int32) + (a &&& (3 : Int32))).toInt ≤ 4 := by
  have h1 := c_mask a 3 2 (by decide) (by decide)
  have h2 := c_iadd 1 (a &&& 3)
  have e1 : (1 : Int32).toInt = 1 := by decide
  have r := rng32 (1 + (a &&& 3))
  rw [h1, e1] at h2
  omega
theorem own_m (a t : Int32) (h : 1 ≤ t.toInt) (h4 : t.toInt ≤ 4) : 0 ≤ ((a &&& (3 : Int32)) % t).toInt ∧ ((a &&& (3 : Int32)) % t).toInt < t.toInt := by
  have h1 := c_mask a 3 2 (by decide) (by decide)
  have h2 := (c_iremV (a &&& 3) t).1 (by rw [h1]; omega) (by omega)
  exact ⟨h2.1, h2.2.1⟩
theorem own_nb (x : Int32) (h0 : 0 ≤ x.toInt) (h1 : x.toInt < 128) : nar .byte (x.toInt8.toInt32) = x := by
  have h2 := c_i2b x
  have h3 := c_i2b (x.toInt8.toInt32)
  show (x.toInt8.toInt32).toInt8.toInt32 = x
  apply Int32.toInt_inj.mp
  omega
theorem own_V1 (v : Int32) (h : ¬ v < (1 : Int32)) (h0 : 0 ≤ v.toInt) (h1 : v.toInt < 4) : own_V (1 : Int32) ((1 : Int32) + v) (0 : Int32) 4 := by
  have e0 : (0 : Int32).toInt = 0 := by decide
  have e1 : (1 : Int32).toInt = 1 := by decide
  have k := c_iadd 1 v
  have r := rng32 (1 + v)
  rw [Int32.lt_iff_toInt_lt, e1] at h
  rw [e1] at k
  unfold own_V
  omega
theorem own_pd6 : parseMethodDescriptor "([BILcom/example/wireform/wireform/wire/Nesting;)V" = some ⟨[(.array .byte), .int, (.object "com/example/wireform/wireform/wire/Nesting")], none⟩ := by decide +kernel
theorem own_pn3 : plainName "com/example/wireform/wireform/wire/WireReaderEndMessagePinLaw" = true := by first | (simp [plainName, overriddenIn]; done) | decide +kernel
theorem own_ef0 (m : MethodId) (p0 : Int32) (p1 : Int32) (p2 : Int32) (p3 : Int32) (p4 : Int32) : entryFrame m #[(.int p0), (.int p1), (.int p2), (.int p3), (.int p4)] maxLocals = mkF m 0 #[.val (.int p0), .val (.int p1), .val (.int p2), .val (.int p3), .val (.int p4), .unset, .unset, .unset, .unset, .unset, .unset, .unset, .unset, .unset, .unset, .unset, .unset, .unset, .unset, .unset] [] := by first | (simp [entryFrame, mkF, argsToLocals, Value.category, maxLocals]; done) | rfl
def own_Q0 (Z : State) (p0 : Int32) (p1 : Int32) (p2 : Int32) (p3 : Int32) (p4 : Int32) (h0 : Heap) (n0 : Nat) (v : Option Value) (h : Heap) (L : List Loc) : Prop := (v = some (.int (1 : Int32))) ∧ (Fr n0 L)
set_option maxRecDepth 65536 in
set_option maxHeartbeats 40000000 in
theorem own_rm0 (l : Launch) (Z : State) (a0 : Array Value) (hw : ∀ d ∈ tables_1, d.before a0 Z = true) (ws : List Jvm.Cond) (p0 : Int32) (p1 : Int32) (p2 : Int32) (p3 : Int32) (p4 : Int32) (h0 : Heap) (n0 : Nat) (Z0 : n0 ≤ h0.size) :
    MetFree l x (head1 (Jvm.Cond.code x code maxLocals ret :: ws) room_1) (fun a U => a = #[(.int p0), (.int p1), (.int p2), (.int p3), (.int p4)] ∧ Z.Warmed39 U.vm ∧ U.heap = h0) (fun _ _ _ _ _ => True) (fun _ U o U' => ∃ v L, o = .returned v ∧ own_Q0 Z p0 p1 p2 p3 p4 h0 n0 v U'.heap L ∧ FrameEnd U o U' L room_1.cells room_1.slots) := by
  refine MetFree.of_bodySF (plainFor_of_name own_pn3) hisR ?_
  intro p e s m args below meth c s₁ Bd hml0 hP hK
  obtain ⟨rfl, hZ, hh⟩ := hP
  have hx := Bd.exec
  have hby := Bd.bytes
  have hml : c.maxLocals = 20 := hml0
  have hown : s.vm.findClass "com/example/wireform/wireform/wire/WireReaderEndMessagePinLaw" = some m.cls := findClass_of_methodNamed Bd.named
  have hnm := (name_of_methodNamed Bd.named Bd.method).1
  have X0 : Stand p l e room_1 s m #[(.int p0), (.int p1), (.int p2), (.int p3), (.int p4)] below meth c s₁ [] 0 0 := Stand.of_body Bd
  have e0 : s₁.heap = h0 := by rw [← hh, Bd.state]; rfl
  have N0 := Fr.nil n0
  have pre0 : ∀ t, Steps p.tables e below (s₁.setTop (mkF m 0 #[.val (.int p0), .val (.int p1), .val (.int p2), .val (.int p3), .val (.int p4), .unset, .unset, .unset, .unset, .unset, .unset, .unset, .unset, .unset, .unset, .unset, .unset, .unset, .unset, .unset] [])) t → Steps p.tables e below (s₁.setTop (entryFrame m #[(.int p0), (.int p1), (.int p2), (.int p3), (.int p4)] maxLocals)) t := fun t k => castTop (own_ef0 m p0 p1 p2 p3 p4) k
  refine own_run (own_st pre0 ?_)
  obtain ⟨v5, hv5⟩ : ∃ z : Int32, z = ((1 : Int32) + (p0 &&& (1 : Int32))) := ⟨_, rfl⟩
  refine own_st (B := s₁.setTop (mkF m 7 #[.val (.int p0), .val (.int p1), .val (.int p2), .val (.int p3), .val (.int p4), .val (.int v5), .unset, .unset, .unset, .unset, .unset, .unset, .unset, .unset, .unset, .unset, .unset, .unset, .unset, .unset] [])) (fun target kt => ?_) ?_
  · show Steps p.tables e below (s₁.setTop (mkF m 0 #[.val (.int p0), .val (.int p1), .val (.int p2), .val (.int p3), .val (.int p4), .unset, .unset, .unset, .unset, .unset, .unset, .unset, .unset, .unset, .unset, .unset, .unset, .unset, .unset, .unset] [])) target
    refine XS.iconst X0.here hx rfl (hb hby at_0) ?_
    show Steps p.tables e below (s₁.setTop (mkF m 1 #[.val (.int p0), .val (.int p1), .val (.int p2), .val (.int p3), .val (.int p4), .unset, .unset, .unset, .unset, .unset, .unset, .unset, .unset, .unset, .unset, .unset, .unset, .unset, .unset, .unset] [(.int (1 : Int32))])) target
    refine XS.iloadN X0.here hx rfl (hb hby at_1) rfl ?_
    show Steps p.tables e below (s₁.setTop (mkF m 2 #[.val (.int p0), .val (.int p1), .val (.int p2), .val (.int p3), .val (.int p4), .unset, .unset, .unset, .unset, .unset, .unset, .unset, .unset, .unset, .unset, .unset, .unset, .unset, .unset, .unset] [(.int p0), (.int (1 : Int32))])) target
    refine XS.iconst X0.here hx rfl (hb hby at_2) ?_
    show Steps p.tables e below (s₁.setTop (mkF m 3 #[.val (.int p0), .val (.int p1), .val (.int p2), .val (.int p3), .val (.int p4), .unset, .unset, .unset, .unset, .unset, .unset, .unset, .unset, .unset, .unset, .unset, .unset, .unset, .unset, .unset] [(.int (1 : Int32)), (.int p0), (.int (1 : Int32))])) target
    refine XS.iand X0.here hx rfl (hb hby at_3) rfl ?_
    show Steps p.tables e below (s₁.setTop (mkF m 4 #[.val (.int p0), .val (.int p1), .val (.int p2), .val (.int p3), .val (.int p4), .unset, .unset, .unset, .unset, .unset, .unset, .unset, .unset, .unset, .unset, .unset, .unset, .unset, .unset, .unset] [(.int (p0 &&& (1 : Int32))), (.int (1 : Int32))])) target
    refine XS.iadd X0.here hx rfl (hb hby at_4) rfl ?_
    show Steps p.tables e below (s₁.setTop (mkF m 5 #[.val (.int p0), .val (.int p1), .val (.int p2), .val (.int p3), .val (.int p4), .unset, .unset, .unset, .unset, .unset, .unset, .unset, .unset, .unset, .unset, .unset, .unset, .unset, .unset, .unset] [(.int ((1 : Int32) + (p0 &&& (1 : Int32))))])) target
    refine XS.istore X0.here hx rfl (hb hby at_5) rfl (l' := #[.val (.int p0), .val (.int p1), .val (.int p2), .val (.int p3), .val (.int p4), .val (.int v5), .unset, .unset, .unset, .unset, .unset, .unset, .unset, .unset, .unset, .unset, .unset, .unset, .unset, .unset]) (by subst hv5; rfl) ?_
    exact kt
  rcases own_12 p0 v5 hv5 with hs7 | hs7
  · subst hs7
    refine own_st (B := s₁.setTop (mkF m 10 #[.val (.int p0), .val (.int p1), .val (.int p2), .val (.int p3), .val (.int p4), .val (.int (1 : Int32)), .unset, .unset, .unset, .unset, .unset, .unset, .unset, .unset, .unset, .unset, .unset, .unset, .unset, .unset] [(.int (p1 &&& (1 : Int32)))])) (fun target kt => ?_) ?_
    · show Steps p.tables e below (s₁.setTop (mkF m 7 #[.val (.int p0), .val (.int p1), .val (.int p2), .val (.int p3), .val (.int p4), .val (.int (1 : Int32)), .unset, .unset, .unset, .unset, .unset, .unset, .unset, .unset, .unset, .unset, .unset, .unset, .unset, .unset] [])) target
      refine XS.iloadN X0.here hx rfl (hb hby at_7) rfl ?_
      show Steps p.tables e below (s₁.setTop (mkF m 8 #[.val (.int p0), .val (.int p1), .val (.int p2), .val (.int p3), .val (.int p4), .val (.int (1 : Int32)), .unset, .unset, .unset, .unset, .unset, .unset, .unset, .unset, .unset, .unset, .unset, .unset, .unset, .unset] [(.int p1)])) target
      refine XS.iconst X0.here hx rfl (hb hby at_8) ?_
      show Steps p.tables e below (s₁.setTop (mkF m 9 #[.val (.int p0), .val (.int p1), .val (.int p2), .val (.int p3), .val (.int p4), .val (.int (1 : Int32)), .unset, .unset, .unset, .unset, .unset, .unset, .unset, .unset, .unset, .unset, .unset, .unset, .unset, .unset] [(.int (1 : Int32)), (.int p1)])) target
      refine XS.iand X0.here hx rfl (hb hby at_9) rfl ?_
      exact kt
    obtain ⟨_, ⟨rfl⟩, st_M24⟩ : own_Lead p.tables e below (s₁.setTop (mkF m 10 #[.val (.int p0), .val (.int p1), .val (.int p2), .val (.int p3), .val (.int p4), .val (.int (1 : Int32)), .unset, .unset, .unset, .unset, .unset, .unset, .unset, .unset, .unset, .unset, .unset, .unset, .unset, .unset] [(.int (p1 &&& (1 : Int32)))])) (fun B => B = s₁.setTop (mkF m 24 #[.val (.int p0), .val (.int p1), .val (.int p2), .val (.int p3), .val (.int p4), .val (.int (1 : Int32)), .unset, .unset, .unset, .unset, .unset, .unset, .unset, .unset, .unset, .unset, .unset, .unset, .unset, .unset] [(.int (0 : Int32))])) := by
      by_cases c10 : (p1 &&& (1 : Int32)) = (0 : Int32)
      · refine own_st (B := s₁.setTop (mkF m 24 #[.val (.int p0), .val (.int p1), .val (.int p2), .val (.int p3), .val (.int p4), .val (.int (1 : Int32)), .unset, .unset, .unset, .unset, .unset, .unset, .unset, .unset, .unset, .unset, .unset, .unset, .unset, .unset] [(.int (0 : Int32))])) (fun target kt => ?_) ?_
        · show Steps p.tables e below (s₁.setTop (mkF m 10 #[.val (.int p0), .val (.int p1), .val (.int p2), .val (.int p3), .val (.int p4), .val (.int (1 : Int32)), .unset, .unset, .unset, .unset, .unset, .unset, .unset, .unset, .unset, .unset, .unset, .unset, .unset, .unset] [(.int (p1 &&& (1 : Int32)))])) target
          refine XS.ifYes X0.here hx rfl (pc0 := 10) (pc' := 23) rfl (hb hby at_10) rfl ((if0 _ _).trans (teq c10).1) (by decide) (by decide) ?_
          show Steps p.tables e below (s₁.setTop (mkF m 23 #[.val (.int p0), .val (.int p1), .val (.int p2), .val (.int p3), .val (.int p4), .val (.int (1 : Int32)), .unset, .unset, .unset, .unset, .unset, .unset, .unset, .unset, .unset, .unset, .unset, .unset, .unset, .unset] [])) target
          refine XS.iconst X0.here hx rfl (hb hby at_23) ?_
          exact kt
        exact ⟨_, rfl, fun _ k => k⟩
      · refine own_st (B := s₁.setTop (mkF m 24 #[.val (.int p0), .val (.int p1), .val (.int p2), .val (.int p3), .val (.int p4), .val (.int (1 : Int32)), .unset, .unset, .unset, .unset, .unset, .unset, .unset, .unset, .unset, .unset, .unset, .unset, .unset, .unset] [(.int (0 : Int32))])) (fun target kt => ?_) ?_
        · show Steps p.tables e below (s₁.setTop (mkF m 10 #[.val (.int p0), .val (.int p1), .val (.int p2), .val (.int p3), .val (.int p4), .val (.int (1 : Int32)), .unset, .unset, .unset, .unset, .unset, .unset, .unset, .unset, .unset, .unset, .unset, .unset, .unset, .unset] [(.int (p1 &&& (1 : Int32)))])) target
          refine XS.ifNo X0.here hx rfl (hb hby at_10) rfl ((if0 _ _).trans (feq c10).1) ?_
          show Steps p.tables e below (s₁.setTop (mkF m 13 #[.val (.int p0), .val (.int p1), .val (.int p2), .val (.int p3), .val (.int p4), .val (.int (1 : Int32)), .unset, .unset, .unset, .unset, .unset, .unset, .unset, .unset, .unset, .unset, .unset, .unset, .unset, .unset] [])) target
          refine XS.iload X0.here hx rfl (hb hby at_13) rfl ?_
          show Steps p.tables e below (s₁.setTop (mkF m 15 #[.val (.int p0), .val (.int p1), .val (.int p2), .val (.int p3), .val (.int p4), .val (.int (1 : Int32)), .unset, .unset, .unset, .unset, .unset, .unset, .unset, .unset, .unset, .unset, .unset, .unset, .unset, .unset] [(.int (1 : Int32))])) target
          refine XS.iconst X0.here hx rfl (hb hby at_15) ?_
          show Steps p.tables e below (s₁.setTop (mkF m 16 #[.val (.int p0), .val (.int p1), .val (.int p2), .val (.int p3), .val (.int p4), .val (.int (1 : Int32)), .unset, .unset, .unset, .unset, .unset, .unset, .unset, .unset, .unset, .unset, .unset, .unset, .unset, .unset] [(.int (1 : Int32)), (.int (1 : Int32))])) target
          refine XS.icmpYes X0.here hx rfl (pc0 := 16) (pc' := 23) rfl (hb hby at_16) rfl (flt (by decide : ¬ ((1 : Int32) < (1 : Int32)))).2.2.2 (by decide) (by decide) ?_
          show Steps p.tables e below (s₁.setTop (mkF m 23 #[.val (.int p0), .val (.int p1), .val (.int p2), .val (.int p3), .val (.int p4), .val (.int (1 : Int32)), .unset, .unset, .unset, .unset, .unset, .unset, .unset, .unset, .unset, .unset, .unset, .unset, .unset, .unset] [])) target
          refine XS.iconst X0.here hx rfl (hb hby at_23) ?_
          exact kt
        exact ⟨_, rfl, fun _ k => k⟩
    refine own_st st_M24 ?_
    obtain ⟨v43, hv43⟩ : ∃ z : Int32, z = ((1 : Int32) + (p2 &&& (3 : Int32))) := ⟨_, rfl⟩
    refine own_st (B := s₁.setTop (mkF m 45 #[.val (.int p0), .val (.int p1), .val (.int p2), .val (.int p3), .val (.int p4), .val (.int (1 : Int32)), .val (.int (0 : Int32)), .val (.int (0 : Int32)), .val (.int v43), .unset, .unset, .unset, .unset, .unset, .unset, .unset, .unset, .unset, .unset, .unset] [])) (fun target kt => ?_) ?_
    · show Steps p.tables e below (s₁.setTop (mkF m 24 #[.val (.int p0), .val (.int p1), .val (.int p2), .val (.int p3), .val (.int p4), .val (.int (1 : Int32)), .unset, .unset, .unset, .unset, .unset, .unset, .unset, .unset, .unset, .unset, .unset, .unset, .unset, .unset] [(.int (0 : Int32))])) target
      refine XS.istore X0.here hx rfl (hb hby at_24) rfl (l' := #[.val (.int p0), .val (.int p1), .val (.int p2), .val (.int p3), .val (.int p4), .val (.int (1 : Int32)), .val (.int (0 : Int32)), .unset, .unset, .unset, .unset, .unset, .unset, .unset, .unset, .unset, .unset, .unset, .unset, .unset]) rfl ?_
      show Steps p.tables e below (s₁.setTop (mkF m 26 #[.val (.int p0), .val (.int p1), .val (.int p2), .val (.int p3), .val (.int p4), .val (.int (1 : Int32)), .val (.int (0 : Int32)), .unset, .unset, .unset, .unset, .unset, .unset, .unset, .unset, .unset, .unset, .unset, .unset, .unset] [])) target
      refine XS.iload X0.here hx rfl (hb hby at_26) rfl ?_
      show Steps p.tables e below (s₁.setTop (mkF m 28 #[.val (.int p0), .val (.int p1), .val (.int p2), .val (.int p3), .val (.int p4), .val (.int (1 : Int32)), .val (.int (0 : Int32)), .unset, .unset, .unset, .unset, .unset, .unset, .unset, .unset, .unset, .unset, .unset, .unset, .unset] [(.int (0 : Int32))])) target
      refine XS.ifYes X0.here hx rfl (pc0 := 28) (pc' := 35) rfl (hb hby at_28) rfl ((if0 _ _).trans (teq (by decide : (0 : Int32) = (0 : Int32))).1) (by decide) (by decide) ?_
      show Steps p.tables e below (s₁.setTop (mkF m 35 #[.val (.int p0), .val (.int p1), .val (.int p2), .val (.int p3), .val (.int p4), .val (.int (1 : Int32)), .val (.int (0 : Int32)), .unset, .unset, .unset, .unset, .unset, .unset, .unset, .unset, .unset, .unset, .unset, .unset, .unset] [])) target
      refine XS.iconst X0.here hx rfl (hb hby at_35) ?_
      show Steps p.tables e below (s₁.setTop (mkF m 36 #[.val (.int p0), .val (.int p1), .val (.int p2), .val (.int p3), .val (.int p4), .val (.int (1 : Int32)), .val (.int (0 : Int32)), .unset, .unset, .unset, .unset, .unset, .unset, .unset, .unset, .unset, .unset, .unset, .unset, .unset] [(.int (0 : Int32))])) target
      refine XS.istore X0.here hx rfl (hb hby at_36) rfl (l' := #[.val (.int p0), .val (.int p1), .val (.int p2), .val (.int p3), .val (.int p4), .val (.int (1 : Int32)), .val (.int (0 : Int32)), .val (.int (0 : Int32)), .unset, .unset, .unset, .unset, .unset, .unset, .unset, .unset, .unset, .unset, .unset, .unset]) rfl ?_
      show Steps p.tables e below (s₁.setTop (mkF m 38 #[.val (.int p0), .val (.int p1), .val (.int p2), .val (.int p3), .val (.int p4), .val (.int (1 : Int32)), .val (.int (0 : Int32)), .val (.int (0 : Int32)), .unset, .unset, .unset, .unset, .unset, .unset, .unset, .unset, .unset, .unset, .unset, .unset] [])) target
      refine XS.iconst X0.here hx rfl (hb hby at_38) ?_
      show Steps p.tables e below (s₁.setTop (mkF m 39 #[.val (.int p0), .val (.int p1), .val (.int p2), .val (.int p3), .val (.int p4), .val (.int (1 : Int32)), .val (.int (0 : Int32)), .val (.int (0 : Int32)), .unset, .unset, .unset, .unset, .unset, .unset, .unset, .unset, .unset, .unset, .unset, .unset] [(.int (1 : Int32))])) target
      refine XS.iloadN X0.here hx rfl (hb hby at_39) rfl ?_
      show Steps p.tables e below (s₁.setTop (mkF m 40 #[.val (.int p0), .val (.int p1), .val (.int p2), .val (.int p3), .val (.int p4), .val (.int (1 : Int32)), .val (.int (0 : Int32)), .val (.int (0 : Int32)), .unset, .unset, .unset, .unset, .unset, .unset, .unset, .unset, .unset, .unset, .unset, .unset] [(.int p2), (.int (1 : Int32))])) target
      refine XS.iconst X0.here hx rfl (hb hby at_40) ?_
      show Steps p.tables e below (s₁.setTop (mkF m 41 #[.val (.int p0), .val (.int p1), .val (.int p2), .val (.int p3), .val (.int p4), .val (.int (1 : Int32)), .val (.int (0 : Int32)), .val (.int (0 : Int32)), .unset, .unset, .unset, .unset, .unset, .unset, .unset, .unset, .unset, .unset, .unset, .unset] [(.int (3 : Int32)), (.int p2), (.int (1 : Int32))])) target
      refine XS.iand X0.here hx rfl (hb hby at_41) rfl ?_
      show Steps p.tables e below (s₁.setTop (mkF m 42 #[.val (.int p0), .val (.int p1), .val (.int p2), .val (.int p3), .val (.int p4), .val (.int (1 : Int32)), .val (.int (0 : Int32)), .val (.int (0 : Int32)), .unset, .unset, .unset, .unset, .unset, .unset, .unset, .unset, .unset, .unset, .unset, .unset] [(.int (p2 &&& (3 : Int32))), (.int (1 : Int32))])) target
      refine XS.iadd X0.here hx rfl (hb hby at_42) rfl ?_
      show Steps p.tables e below (s₁.setTop (mkF m 43 #[.val (.int p0), .val (.int p1), .val (.int p2), .val (.int p3), .val (.int p4), .val (.int (1 : Int32)), .val (.int (0 : Int32)), .val (.int (0 : Int32)), .unset, .unset, .unset, .unset, .unset, .unset, .unset, .unset, .unset, .unset, .unset, .unset] [(.int ((1 : Int32) + (p2 &&& (3 : Int32))))])) target
      refine XS.istore X0.here hx rfl (hb hby at_43) rfl (l' := #[.val (.int p0), .val (.int p1), .val (.int p2), .val (.int p3), .val (.int p4), .val (.int (1 : Int32)), .val (.int (0 : Int32)), .val (.int (0 : Int32)), .val (.int v43), .unset, .unset, .unset, .unset, .unset, .unset, .unset, .unset, .unset, .unset, .unset]) (by subst hv43; rfl) ?_
      exact kt
    have hL := own_14 p2
    rw [← hv43] at hL
    have hL0 : v43 ≠ 0 := fun q => by have h := congrArg Int32.toInt q; rw [show (0 : Int32).toInt = 0 by decide] at h; omega
    obtain ⟨v51, hv51⟩ : ∃ z : Int32, z = ((p3 &&& (3 : Int32)) % v43) := ⟨_, rfl⟩
    refine own_st (B := s₁.setTop (mkF m 53 #[.val (.int p0), .val (.int p1), .val (.int p2), .val (.int p3), .val (.int p4), .val (.int (1 : Int32)), .val (.int (0 : Int32)), .val (.int (0 : Int32)), .val (.int v43), .val (.int v51), .unset, .unset, .unset, .unset, .unset, .unset, .unset, .unset, .unset, .unset] [])) (fun target kt => ?_) ?_
    · show Steps p.tables e below (s₁.setTop (mkF m 45 #[.val (.int p0), .val (.int p1), .val (.int p2), .val (.int p3), .val (.int p4), .val (.int (1 : Int32)), .val (.int (0 : Int32)), .val (.int (0 : Int32)), .val (.int v43), .unset, .unset, .unset, .unset, .unset, .unset, .unset, .unset, .unset, .unset, .unset] [])) target
      refine XS.iloadN X0.here hx rfl (hb hby at_45) rfl ?_
      show Steps p.tables e below (s₁.setTop (mkF m 46 #[.val (.int p0), .val (.int p1), .val (.int p2), .val (.int p3), .val (.int p4), .val (.int (1 : Int32)), .val (.int (0 : Int32)), .val (.int (0 : Int32)), .val (.int v43), .unset, .unset, .unset, .unset, .unset, .unset, .unset, .unset, .unset, .unset, .unset] [(.int p3)])) target
      refine XS.iconst X0.here hx rfl (hb hby at_46) ?_
      show Steps p.tables e below (s₁.setTop (mkF m 47 #[.val (.int p0), .val (.int p1), .val (.int p2), .val (.int p3), .val (.int p4), .val (.int (1 : Int32)), .val (.int (0 : Int32)), .val (.int (0 : Int32)), .val (.int v43), .unset, .unset, .unset, .unset, .unset, .unset, .unset, .unset, .unset, .unset, .unset] [(.int (3 : Int32)), (.int p3)])) target
      refine XS.iand X0.here hx rfl (hb hby at_47) rfl ?_
      show Steps p.tables e below (s₁.setTop (mkF m 48 #[.val (.int p0), .val (.int p1), .val (.int p2), .val (.int p3), .val (.int p4), .val (.int (1 : Int32)), .val (.int (0 : Int32)), .val (.int (0 : Int32)), .val (.int v43), .unset, .unset, .unset, .unset, .unset, .unset, .unset, .unset, .unset, .unset, .unset] [(.int (p3 &&& (3 : Int32)))])) target
      refine XS.iload X0.here hx rfl (hb hby at_48) rfl ?_
      show Steps p.tables e below (s₁.setTop (mkF m 50 #[.val (.int p0), .val (.int p1), .val (.int p2), .val (.int p3), .val (.int p4), .val (.int (1 : Int32)), .val (.int (0 : Int32)), .val (.int (0 : Int32)), .val (.int v43), .unset, .unset, .unset, .unset, .unset, .unset, .unset, .unset, .unset, .unset, .unset] [(.int v43), (.int (p3 &&& (3 : Int32)))])) target
      refine iremM X0 hx rfl (hb hby at_50) rfl hL0 ?_
      show Steps p.tables e below (s₁.setTop (mkF m 51 #[.val (.int p0), .val (.int p1), .val (.int p2), .val (.int p3), .val (.int p4), .val (.int (1 : Int32)), .val (.int (0 : Int32)), .val (.int (0 : Int32)), .val (.int v43), .unset, .unset, .unset, .unset, .unset, .unset, .unset, .unset, .unset, .unset, .unset] [(.int ((p3 &&& (3 : Int32)) % v43))])) target
      refine XS.istore X0.here hx rfl (hb hby at_51) rfl (l' := #[.val (.int p0), .val (.int p1), .val (.int p2), .val (.int p3), .val (.int p4), .val (.int (1 : Int32)), .val (.int (0 : Int32)), .val (.int (0 : Int32)), .val (.int v43), .val (.int v51), .unset, .unset, .unset, .unset, .unset, .unset, .unset, .unset, .unset, .unset]) (by subst hv51; rfl) ?_
      exact kt
    have hM := own_m p3 v43 (by omega) (by omega)
    rw [← hv51] at hM
    refine own_st (B := s₁.setTop (mkF m 57 #[.val (.int p0), .val (.int p1), .val (.int p2), .val (.int p3), .val (.int p4), .val (.int (1 : Int32)), .val (.int (0 : Int32)), .val (.int (0 : Int32)), .val (.int v43), .val (.int v51), .unset, .unset, .unset, .unset, .unset, .unset, .unset, .unset, .unset, .unset] [(.int (p4 &&& (1 : Int32)))])) (fun target kt => ?_) ?_
    · show Steps p.tables e below (s₁.setTop (mkF m 53 #[.val (.int p0), .val (.int p1), .val (.int p2), .val (.int p3), .val (.int p4), .val (.int (1 : Int32)), .val (.int (0 : Int32)), .val (.int (0 : Int32)), .val (.int v43), .val (.int v51), .unset, .unset, .unset, .unset, .unset, .unset, .unset, .unset, .unset, .unset] [])) target
      refine XS.iload X0.here hx rfl (hb hby at_53) rfl ?_
      show Steps p.tables e below (s₁.setTop (mkF m 55 #[.val (.int p0), .val (.int p1), .val (.int p2), .val (.int p3), .val (.int p4), .val (.int (1 : Int32)), .val (.int (0 : Int32)), .val (.int (0 : Int32)), .val (.int v43), .val (.int v51), .unset, .unset, .unset, .unset, .unset, .unset, .unset, .unset, .unset, .unset] [(.int p4)])) target
      refine XS.iconst X0.here hx rfl (hb hby at_55) ?_
      show Steps p.tables e below (s₁.setTop (mkF m 56 #[.val (.int p0), .val (.int p1), .val (.int p2), .val (.int p3), .val (.int p4), .val (.int (1 : Int32)), .val (.int (0 : Int32)), .val (.int (0 : Int32)), .val (.int v43), .val (.int v51), .unset, .unset, .unset, .unset, .unset, .unset, .unset, .unset, .unset, .unset] [(.int (1 : Int32)), (.int p4)])) target
      refine XS.iand X0.here hx rfl (hb hby at_56) rfl ?_
      exact kt
    obtain ⟨_, ⟨j71_s0, rfl, rfl⟩, st_M71⟩ : own_Lead p.tables e below (s₁.setTop (mkF m 57 #[.val (.int p0), .val (.int p1), .val (.int p2), .val (.int p3), .val (.int p4), .val (.int (1 : Int32)), .val (.int (0 : Int32)), .val (.int (0 : Int32)), .val (.int v43), .val (.int v51), .unset, .unset, .unset, .unset, .unset, .unset, .unset, .unset, .unset, .unset] [(.int (p4 &&& (1 : Int32)))])) (fun B => ∃ (j71_s0 : Int32), B = s₁.setTop (mkF m 71 #[.val (.int p0), .val (.int p1), .val (.int p2), .val (.int p3), .val (.int p4), .val (.int (1 : Int32)), .val (.int (0 : Int32)), .val (.int (0 : Int32)), .val (.int v43), .val (.int v51), .unset, .unset, .unset, .unset, .unset, .unset, .unset, .unset, .unset, .unset] [(.int j71_s0)]) ∧ j71_s0 = own_b ((¬ ((p4 &&& (1 : Int32)) = (0 : Int32)) ∧ (¬ (v51 < (1 : Int32)))))) := by
      by_cases c57 : (p4 &&& (1 : Int32)) = (0 : Int32)
      · refine own_st (B := s₁.setTop (mkF m 71 #[.val (.int p0), .val (.int p1), .val (.int p2), .val (.int p3), .val (.int p4), .val (.int (1 : Int32)), .val (.int (0 : Int32)), .val (.int (0 : Int32)), .val (.int v43), .val (.int v51), .unset, .unset, .unset, .unset, .unset, .unset, .unset, .unset, .unset, .unset] [(.int (0 : Int32))])) (fun target kt => ?_) ?_
        · show Steps p.tables e below (s₁.setTop (mkF m 57 #[.val (.int p0), .val (.int p1), .val (.int p2), .val (.int p3), .val (.int p4), .val (.int (1 : Int32)), .val (.int (0 : Int32)), .val (.int (0 : Int32)), .val (.int v43), .val (.int v51), .unset, .unset, .unset, .unset, .unset, .unset, .unset, .unset, .unset, .unset] [(.int (p4 &&& (1 : Int32)))])) target
          refine XS.ifYes X0.here hx rfl (pc0 := 57) (pc' := 70) rfl (hb hby at_57) rfl ((if0 _ _).trans (teq c57).1) (by decide) (by decide) ?_
          show Steps p.tables e below (s₁.setTop (mkF m 70 #[.val (.int p0), .val (.int p1), .val (.int p2), .val (.int p3), .val (.int p4), .val (.int (1 : Int32)), .val (.int (0 : Int32)), .val (.int (0 : Int32)), .val (.int v43), .val (.int v51), .unset, .unset, .unset, .unset, .unset, .unset, .unset, .unset, .unset, .unset] [])) target
          refine XS.iconst X0.here hx rfl (hb hby at_70) ?_
          exact kt
        exact ⟨_, ⟨(0 : Int32), rfl, (own_b0 (fun w => w.1 c57)).symm⟩, fun _ k => k⟩
      · refine own_st (B := s₁.setTop (mkF m 63 #[.val (.int p0), .val (.int p1), .val (.int p2), .val (.int p3), .val (.int p4), .val (.int (1 : Int32)), .val (.int (0 : Int32)), .val (.int (0 : Int32)), .val (.int v43), .val (.int v51), .unset, .unset, .unset, .unset, .unset, .unset, .unset, .unset, .unset, .unset] [(.int (1 : Int32)), (.int v51)])) (fun target kt => ?_) ?_
        · show Steps p.tables e below (s₁.setTop (mkF m 57 #[.val (.int p0), .val (.int p1), .val (.int p2), .val (.int p3), .val (.int p4), .val (.int (1 : Int32)), .val (.int (0 : Int32)), .val (.int (0 : Int32)), .val (.int v43), .val (.int v51), .unset, .unset, .unset, .unset, .unset, .unset, .unset, .unset, .unset, .unset] [(.int (p4 &&& (1 : Int32)))])) target
          refine XS.ifNo X0.here hx rfl (hb hby at_57) rfl ((if0 _ _).trans (feq c57).1) ?_
          show Steps p.tables e below (s₁.setTop (mkF m 60 #[.val (.int p0), .val (.int p1), .val (.int p2), .val (.int p3), .val (.int p4), .val (.int (1 : Int32)), .val (.int (0 : Int32)), .val (.int (0 : Int32)), .val (.int v43), .val (.int v51), .unset, .unset, .unset, .unset, .unset, .unset, .unset, .unset, .unset, .unset] [])) target
          refine XS.iload X0.here hx rfl (hb hby at_60) rfl ?_
          show Steps p.tables e below (s₁.setTop (mkF m 62 #[.val (.int p0), .val (.int p1), .val (.int p2), .val (.int p3), .val (.int p4), .val (.int (1 : Int32)), .val (.int (0 : Int32)), .val (.int (0 : Int32)), .val (.int v43), .val (.int v51), .unset, .unset, .unset, .unset, .unset, .unset, .unset, .unset, .unset, .unset] [(.int v51)])) target
          refine XS.iconst X0.here hx rfl (hb hby at_62) ?_
          exact kt
        by_cases c63 : v51 < (1 : Int32)
        · refine own_st (B := s₁.setTop (mkF m 71 #[.val (.int p0), .val (.int p1), .val (.int p2), .val (.int p3), .val (.int p4), .val (.int (1 : Int32)), .val (.int (0 : Int32)), .val (.int (0 : Int32)), .val (.int v43), .val (.int v51), .unset, .unset, .unset, .unset, .unset, .unset, .unset, .unset, .unset, .unset] [(.int (0 : Int32))])) (fun target kt => ?_) ?_
          · show Steps p.tables e below (s₁.setTop (mkF m 63 #[.val (.int p0), .val (.int p1), .val (.int p2), .val (.int p3), .val (.int p4), .val (.int (1 : Int32)), .val (.int (0 : Int32)), .val (.int (0 : Int32)), .val (.int v43), .val (.int v51), .unset, .unset, .unset, .unset, .unset, .unset, .unset, .unset, .unset, .unset] [(.int (1 : Int32)), (.int v51)])) target
            refine XS.icmpYes X0.here hx rfl (pc0 := 63) (pc' := 70) rfl (hb hby at_63) rfl (tlt c63).1 (by decide) (by decide) ?_
            show Steps p.tables e below (s₁.setTop (mkF m 70 #[.val (.int p0), .val (.int p1), .val (.int p2), .val (.int p3), .val (.int p4), .val (.int (1 : Int32)), .val (.int (0 : Int32)), .val (.int (0 : Int32)), .val (.int v43), .val (.int v51), .unset, .unset, .unset, .unset, .unset, .unset, .unset, .unset, .unset, .unset] [])) target
            refine XS.iconst X0.here hx rfl (hb hby at_70) ?_
            exact kt
          exact ⟨_, ⟨(0 : Int32), rfl, (own_b0 (fun w => (fun w => w c63) w.2)).symm⟩, fun _ k => k⟩
        · refine own_st (B := s₁.setTop (mkF m 71 #[.val (.int p0), .val (.int p1), .val (.int p2), .val (.int p3), .val (.int p4), .val (.int (1 : Int32)), .val (.int (0 : Int32)), .val (.int (0 : Int32)), .val (.int v43), .val (.int v51), .unset, .unset, .unset, .unset, .unset, .unset, .unset, .unset, .unset, .unset] [(.int (1 : Int32))])) (fun target kt => ?_) ?_
          · show Steps p.tables e below (s₁.setTop (mkF m 63 #[.val (.int p0), .val (.int p1), .val (.int p2), .val (.int p3), .val (.int p4), .val (.int (1 : Int32)), .val (.int (0 : Int32)), .val (.int (0 : Int32)), .val (.int v43), .val (.int v51), .unset, .unset, .unset, .unset, .unset, .unset, .unset, .unset, .unset, .unset] [(.int (1 : Int32)), (.int v51)])) target
            refine XS.icmpNo X0.here hx rfl (hb hby at_63) rfl (flt c63).1 ?_
            show Steps p.tables e below (s₁.setTop (mkF m 66 #[.val (.int p0), .val (.int p1), .val (.int p2), .val (.int p3), .val (.int p4), .val (.int (1 : Int32)), .val (.int (0 : Int32)), .val (.int (0 : Int32)), .val (.int v43), .val (.int v51), .unset, .unset, .unset, .unset, .unset, .unset, .unset, .unset, .unset, .unset] [])) target
            refine XS.iconst X0.here hx rfl (hb hby at_66) ?_
            show Steps p.tables e below (s₁.setTop (mkF m 67 #[.val (.int p0), .val (.int p1), .val (.int p2), .val (.int p3), .val (.int p4), .val (.int (1 : Int32)), .val (.int (0 : Int32)), .val (.int (0 : Int32)), .val (.int v43), .val (.int v51), .unset, .unset, .unset, .unset, .unset, .unset, .unset, .unset, .unset, .unset] [(.int (1 : Int32))])) target
            refine XS.goto X0.here hx rfl (pc0 := 67) (pc' := 71) rfl (hb hby at_67) (by decide) (by decide) ?_
            exact kt
          exact ⟨_, ⟨(1 : Int32), rfl, (own_b1 ⟨c57, c63⟩).symm⟩, fun _ k => k⟩
    refine own_st st_M71 ?_
    refine own_st (B := s₁.setTop (mkF m 74 #[.val (.int p0), .val (.int p1), .val (.int p2), .val (.int p3), .val (.int p4), .val (.int (1 : Int32)), .val (.int (0 : Int32)), .val (.int (0 : Int32)), .val (.int v43), .val (.int v51), .val (.int (own_b (¬ ((p4 &&& (1 : Int32)) = (0 : Int32)) ∧ (¬ (v51 < (1 : Int32)))))), .unset, .unset, .unset, .unset, .unset, .unset, .unset, .unset, .unset] [(.int (4 : Int32))])) (fun target kt => ?_) ?_
    · show Steps p.tables e below (s₁.setTop (mkF m 71 #[.val (.int p0), .val (.int p1), .val (.int p2), .val (.int p3), .val (.int p4), .val (.int (1 : Int32)), .val (.int (0 : Int32)), .val (.int (0 : Int32)), .val (.int v43), .val (.int v51), .unset, .unset, .unset, .unset, .unset, .unset, .unset, .unset, .unset, .unset] [(.int (own_b (¬ ((p4 &&& (1 : Int32)) = (0 : Int32)) ∧ (¬ (v51 < (1 : Int32))))))])) target
      refine XS.istore X0.here hx rfl (hb hby at_71) rfl (l' := #[.val (.int p0), .val (.int p1), .val (.int p2), .val (.int p3), .val (.int p4), .val (.int (1 : Int32)), .val (.int (0 : Int32)), .val (.int (0 : Int32)), .val (.int v43), .val (.int v51), .val (.int (own_b (¬ ((p4 &&& (1 : Int32)) = (0 : Int32)) ∧ (¬ (v51 < (1 : Int32)))))), .unset, .unset, .unset, .unset, .unset, .unset, .unset, .unset, .unset]) rfl ?_
      show Steps p.tables e below (s₁.setTop (mkF m 73 #[.val (.int p0), .val (.int p1), .val (.int p2), .val (.int p3), .val (.int p4), .val (.int (1 : Int32)), .val (.int (0 : Int32)), .val (.int (0 : Int32)), .val (.int v43), .val (.int v51), .val (.int (own_b (¬ ((p4 &&& (1 : Int32)) = (0 : Int32)) ∧ (¬ (v51 < (1 : Int32)))))), .unset, .unset, .unset, .unset, .unset, .unset, .unset, .unset, .unset] [])) target
      refine XS.iconst X0.here hx rfl (hb hby at_73) ?_
      exact kt
    obtain ⟨Tg74, hg74, kg74, Xg74, eg74, Eg74, Ag74, stg74⟩ := newP X0 hx hZ (hw _ (List.mem_of_getElem? (i := 0) rfl)) e0 (g := (mkF m 74 #[.val (.int p0), .val (.int p1), .val (.int p2), .val (.int p3), .val (.int p4), .val (.int (1 : Int32)), .val (.int (0 : Int32)), .val (.int (0 : Int32)), .val (.int v43), .val (.int v51), .val (.int (own_b (¬ ((p4 &&& (1 : Int32)) = (0 : Int32)) ∧ (¬ (v51 < (1 : Int32)))))), .unset, .unset, .unset, .unset, .unset, .unset, .unset, .unset, .unset] [(.int (4 : Int32))])) rfl (hb hby at_74) rfl (by decide) (cap := 4) (by decide) (by decide) (by decide) (by decide)
    obtain ⟨b74, gg74⟩ : ∃ z, z = h0.size := ⟨_, rfl⟩
    rw [← gg74] at Ag74 stg74
    refine own_st stg74 ?_
    have g_b74 : n0 ≤ b74 := Nat.le_trans Z0 (Nat.le_of_eq gg74.symm)
    have Zz : n0 ≤ hg74.size := Nat.le_trans Z0 Eg74.1
    have F : own_RayB Z hg74 b74 4 (fun _ => (0 : Int32)) := own_RayB_new Ag74 (by decide) (by decide)
    refine own_st (B := Tg74.setTop (mkF m 84 #[.val (.int p0), .val (.int p1), .val (.int p2), .val (.int p3), .val (.int p4), .val (.int (1 : Int32)), .val (.int (0 : Int32)), .val (.int (0 : Int32)), .val (.int v43), .val (.int v51), .val (.int (own_b (¬ ((p4 &&& (1 : Int32)) = (0 : Int32)) ∧ (¬ (v51 < (1 : Int32)))))), .val (.ref b74), .unset, .unset, .unset, .unset, .unset, .unset, .unset, .unset] [(.int (v51.toInt8.toInt32)), (.int (0 : Int32)), (.ref b74)])) (fun target kt => ?_) ?_
    · show Steps p.tables e below (Tg74.setTop (mkF m 76 #[.val (.int p0), .val (.int p1), .val (.int p2), .val (.int p3), .val (.int p4), .val (.int (1 : Int32)), .val (.int (0 : Int32)), .val (.int (0 : Int32)), .val (.int v43), .val (.int v51), .val (.int (own_b (¬ ((p4 &&& (1 : Int32)) = (0 : Int32)) ∧ (¬ (v51 < (1 : Int32)))))), .unset, .unset, .unset, .unset, .unset, .unset, .unset, .unset, .unset] [(.ref b74)])) target
      refine XS.astore Xg74.here hx rfl (hb hby at_76) rfl rfl (l' := #[.val (.int p0), .val (.int p1), .val (.int p2), .val (.int p3), .val (.int p4), .val (.int (1 : Int32)), .val (.int (0 : Int32)), .val (.int (0 : Int32)), .val (.int v43), .val (.int v51), .val (.int (own_b (¬ ((p4 &&& (1 : Int32)) = (0 : Int32)) ∧ (¬ (v51 < (1 : Int32)))))), .val (.ref b74), .unset, .unset, .unset, .unset, .unset, .unset, .unset, .unset]) rfl ?_
      show Steps p.tables e below (Tg74.setTop (mkF m 78 #[.val (.int p0), .val (.int p1), .val (.int p2), .val (.int p3), .val (.int p4), .val (.int (1 : Int32)), .val (.int (0 : Int32)), .val (.int (0 : Int32)), .val (.int v43), .val (.int v51), .val (.int (own_b (¬ ((p4 &&& (1 : Int32)) = (0 : Int32)) ∧ (¬ (v51 < (1 : Int32)))))), .val (.ref b74), .unset, .unset, .unset, .unset, .unset, .unset, .unset, .unset] [])) target
      refine XS.aload Xg74.here hx rfl (hb hby at_78) rfl rfl ?_
      show Steps p.tables e below (Tg74.setTop (mkF m 80 #[.val (.int p0), .val (.int p1), .val (.int p2), .val (.int p3), .val (.int p4), .val (.int (1 : Int32)), .val (.int (0 : Int32)), .val (.int (0 : Int32)), .val (.int v43), .val (.int v51), .val (.int (own_b (¬ ((p4 &&& (1 : Int32)) = (0 : Int32)) ∧ (¬ (v51 < (1 : Int32)))))), .val (.ref b74), .unset, .unset, .unset, .unset, .unset, .unset, .unset, .unset] [(.ref b74)])) target
      refine XS.iconst Xg74.here hx rfl (hb hby at_80) ?_
      show Steps p.tables e below (Tg74.setTop (mkF m 81 #[.val (.int p0), .val (.int p1), .val (.int p2), .val (.int p3), .val (.int p4), .val (.int (1 : Int32)), .val (.int (0 : Int32)), .val (.int (0 : Int32)), .val (.int v43), .val (.int v51), .val (.int (own_b (¬ ((p4 &&& (1 : Int32)) = (0 : Int32)) ∧ (¬ (v51 < (1 : Int32)))))), .val (.ref b74), .unset, .unset, .unset, .unset, .unset, .unset, .unset, .unset] [(.int (0 : Int32)), (.ref b74)])) target
      refine XS.iload Xg74.here hx rfl (hb hby at_81) rfl ?_
      show Steps p.tables e below (Tg74.setTop (mkF m 83 #[.val (.int p0), .val (.int p1), .val (.int p2), .val (.int p3), .val (.int p4), .val (.int (1 : Int32)), .val (.int (0 : Int32)), .val (.int (0 : Int32)), .val (.int v43), .val (.int v51), .val (.int (own_b (¬ ((p4 &&& (1 : Int32)) = (0 : Int32)) ∧ (¬ (v51 < (1 : Int32)))))), .val (.ref b74), .unset, .unset, .unset, .unset, .unset, .unset, .unset, .unset] [(.int v51), (.int (0 : Int32)), (.ref b74)])) target
      refine XS.i2b Xg74.here hx rfl (hb hby at_83) rfl ?_
      exact kt
    obtain ⟨clg84, Arg84, Szg84, -⟩ := id F
    have hing84 : ¬ ((0 : Int32) < 0 ∨ clg84.slots.size ≤ ((0 : Int32)).toNatClampNeg) := own_inb Szg84 (by decide)
    obtain ⟨Tg84, hg84, Xg84, eg84, Wg84, stg84⟩ := stB Xg74 hx hZ eg74 Arg84 (j := (0 : Int32)) hing84 (g := (mkF m 84 #[.val (.int p0), .val (.int p1), .val (.int p2), .val (.int p3), .val (.int p4), .val (.int (1 : Int32)), .val (.int (0 : Int32)), .val (.int (0 : Int32)), .val (.int v43), .val (.int v51), .val (.int (own_b (¬ ((p4 &&& (1 : Int32)) = (0 : Int32)) ∧ (¬ (v51 < (1 : Int32)))))), .val (.ref b74), .unset, .unset, .unset, .unset, .unset, .unset, .unset, .unset] [(.int (v51.toInt8.toInt32)), (.int (0 : Int32)), (.ref b74)])) rfl rfl (hb hby at_84)
    refine own_st stg84 ?_
    have Ng84 := Fr.snoc Xg84 N0 g_b74
    obtain ⟨a84, ha84⟩ : ∃ gz : Nat → Int32, gz = fun i => if i = 0 then (nar .byte (v51.toInt8.toInt32)) else (fun _ => (0 : Int32)) i := ⟨_, rfl⟩
    have Zz_1 : n0 ≤ hg84.size := Nat.le_trans Zz (Keep.of_wr Wg84).1
    have F_2 : own_RayB Z hg84 b74 4 a84 := by rw [ha84]; exact own_RayB_set F Wg84 (by decide) (fits_nar_byte _)
    have hA0 : a84 (0 : Int32).toNatClampNeg = v51 := by rw [ha84]; exact own_nb v51 (by omega) (by omega)
    have hV0 : own_V (0 : Int32) v43 (a84 (0 : Int32).toNatClampNeg) 4 := by
      rw [hA0]
      have e0 : (0 : Int32).toInt = 0 := by decide
      unfold own_V
      omega
    obtain ⟨Tg85, hg85, Xg85, eg85, Eg85, Ag85, Dg85, -, stg85⟩ := newO Xg84 hx hZ hown (hw _ (List.mem_of_getElem? (i := 1) rfl)) (hw _ (List.mem_of_getElem? (i := 2) rfl)) (hw _ (List.mem_of_getElem? (i := 3) rfl)) eg84 (g := (mkF m 85 #[.val (.int p0), .val (.int p1), .val (.int p2), .val (.int p3), .val (.int p4), .val (.int (1 : Int32)), .val (.int (0 : Int32)), .val (.int (0 : Int32)), .val (.int v43), .val (.int v51), .val (.int (own_b (¬ ((p4 &&& (1 : Int32)) = (0 : Int32)) ∧ (¬ (v51 < (1 : Int32)))))), .val (.ref b74), .unset, .unset, .unset, .unset, .unset, .unset, .unset, .unset] [])) rfl (hb hby at_85) (by decide) (by decide)
    obtain ⟨b85, gg85⟩ : ∃ z, z = hg84.size := ⟨_, rfl⟩
    rw [← gg85] at Ag85 Dg85 stg85
    refine own_st stg85 ?_
    have ne_b74_b85 : b74 ≠ b85 := Nat.ne_of_lt (Nat.lt_of_lt_of_le F_2.lt (Nat.le_of_eq gg85.symm))
    have g_b85 : n0 ≤ b85 := Nat.le_trans Zz_1 (Nat.le_of_eq gg85.symm)
    have F_3 := F_2.ext Eg85
    have Zz_2 : n0 ≤ hg85.size := Nat.le_trans Zz_1 Eg85.1
    have F_4 : Fld Z hg85 b85 "com/example/wireform/wireform/wire/Nesting" "limit" "I" (.int (0 : Int32)) := Dg85 (Or.inr (hw _ (List.mem_of_getElem? (i := 11) rfl))) (ty := .int) (by decide)
    have F_5 : Fld Z hg85 b85 "com/example/wireform/wireform/wire/Nesting" "depth" "I" (.int (0 : Int32)) := Dg85 (Or.inl (hw _ (List.mem_of_getElem? (i := 38) rfl))) (ty := .int) (by decide)
    refine own_st (B := Tg85.setTop (mkF m 91 #[.val (.int p0), .val (.int p1), .val (.int p2), .val (.int p3), .val (.int p4), .val (.int (1 : Int32)), .val (.int (0 : Int32)), .val (.int (0 : Int32)), .val (.int v43), .val (.int v51), .val (.int (own_b (¬ ((p4 &&& (1 : Int32)) = (0 : Int32)) ∧ (¬ (v51 < (1 : Int32)))))), .val (.ref b74), .unset, .unset, .unset, .unset, .unset, .unset, .unset, .unset] [(.int (1 : Int32)), (.ref b85), (.ref b85)])) (fun target kt => ?_) ?_
    · show Steps p.tables e below (Tg85.setTop (mkF m 88 #[.val (.int p0), .val (.int p1), .val (.int p2), .val (.int p3), .val (.int p4), .val (.int (1 : Int32)), .val (.int (0 : Int32)), .val (.int (0 : Int32)), .val (.int v43), .val (.int v51), .val (.int (own_b (¬ ((p4 &&& (1 : Int32)) = (0 : Int32)) ∧ (¬ (v51 < (1 : Int32)))))), .val (.ref b74), .unset, .unset, .unset, .unset, .unset, .unset, .unset, .unset] [(.ref b85)])) target
      refine XS.dup Xg85.here hx rfl (hb hby at_88) rfl rfl ?_
      show Steps p.tables e below (Tg85.setTop (mkF m 89 #[.val (.int p0), .val (.int p1), .val (.int p2), .val (.int p3), .val (.int p4), .val (.int (1 : Int32)), .val (.int (0 : Int32)), .val (.int (0 : Int32)), .val (.int v43), .val (.int v51), .val (.int (own_b (¬ ((p4 &&& (1 : Int32)) = (0 : Int32)) ∧ (¬ (v51 < (1 : Int32)))))), .val (.ref b74), .unset, .unset, .unset, .unset, .unset, .unset, .unset, .unset] [(.ref b85), (.ref b85)])) target
      refine XS.iload Xg85.here hx rfl (hb hby at_89) rfl ?_
      exact kt
    obtain ⟨_, _, ⟨Tg91, Lg91, kg91, ng91⟩, -, Xg91, ⟨Lcg91, hQg91, lg91, yg91, zg91⟩, stg91⟩ := Xg85.specialBack hx (y := (⟨"com/example/wireform/wireform/wire/Nesting", "<init>", "(I)V"⟩ : MethodName)) rfl hown (mvT hZ (hw _ (List.mem_of_getElem? (i := 4) rfl))) (mvT hZ (hw _ (List.mem_of_getElem? (i := 5) rfl))) (mvT hZ (hw _ (List.mem_of_getElem? (i := 6) rfl))) (by decide) (backOf (W := 1) (own_rm1 l Z a0 hw [] b85 (1 : Int32) hg85 n0 Zz_2 Ag85 F_4 F_5 g_b85 (show ¬ ((1 : Int32) < (0 : Int32)) from by decide) (show ¬ ((1000 : Int32) < (1 : Int32)) from by decide)) hZ (hw _ (List.mem_of_getElem? (i := 6) rfl)) (hw _ (List.mem_of_getElem? (i := 3) rfl)) (by decide) (by decide)) (g := (mkF m 91 #[.val (.int p0), .val (.int p1), .val (.int p2), .val (.int p3), .val (.int p4), .val (.int (1 : Int32)), .val (.int (0 : Int32)), .val (.int (0 : Int32)), .val (.int v43), .val (.int v51), .val (.int (own_b (¬ ((p4 &&& (1 : Int32)) = (0 : Int32)) ∧ (¬ (v51 < (1 : Int32)))))), .val (.ref b74), .unset, .unset, .unset, .unset, .unset, .unset, .unset, .unset] [(.int (1 : Int32)), (.ref b85), (.ref b85)])) rfl (by rw [hml]; rfl) (Steps.refl _) (a := b85) (argsL := [(.int (1 : Int32))]) (rest := [(.ref b85)]) (lenOf own_pd4 rfl) rfl (by show 2 * 0 + _ ≤ _; exact Nat.le_of_eq rfl) (hb hby at_91) (fun _ _ => ⟨rfl, eg85, (by decide : 2 + 0 ≤ _), (by decide : 6 + 0 ≤ _)⟩)
    dsimp only [Pt.U, Pt.locs, Pt.cells, Pt.slots] at Xg91 lg91 yg91 zg91 stg91 hQg91
    subst lg91 yg91 zg91
    obtain ⟨rfl, Ng91q, Kg91, F_6, F_7, F_8⟩ := hQg91
    have F_9 := F_3.keep Kg91 (ninS ne_b74_b85 nin0)
    have Zz_3 : n0 ≤ Tg91.heap.size := Nat.le_trans Zz_2 Kg91.1
    have Ng91 := Fr.app Ng84 Ng91q
    refine own_st (fun _ k => stg91.trans k) ?_
    refine own_st (B := Tg91.setTop (mkF m 111 #[.val (.int p0), .val (.int p1), .val (.int p2), .val (.int p3), .val (.int p4), .val (.int (1 : Int32)), .val (.int (0 : Int32)), .val (.int (0 : Int32)), .val (.int v43), .val (.int v51), .val (.int (own_b (¬ ((p4 &&& (1 : Int32)) = (0 : Int32)) ∧ (¬ (v51 < (1 : Int32)))))), .val (.ref b74), .val (.ref b85), .unset, .unset, .unset, .unset, .unset, .unset, .unset] [])) (fun target kt => ?_) ?_
    · show Steps p.tables e below (Tg91.setTop (mkF m 94 #[.val (.int p0), .val (.int p1), .val (.int p2), .val (.int p3), .val (.int p4), .val (.int (1 : Int32)), .val (.int (0 : Int32)), .val (.int (0 : Int32)), .val (.int v43), .val (.int v51), .val (.int (own_b (¬ ((p4 &&& (1 : Int32)) = (0 : Int32)) ∧ (¬ (v51 < (1 : Int32)))))), .val (.ref b74), .unset, .unset, .unset, .unset, .unset, .unset, .unset, .unset] [(.ref b85)])) target
      refine XS.astore Xg91.here hx rfl (hb hby at_94) rfl rfl (l' := #[.val (.int p0), .val (.int p1), .val (.int p2), .val (.int p3), .val (.int p4), .val (.int (1 : Int32)), .val (.int (0 : Int32)), .val (.int (0 : Int32)), .val (.int v43), .val (.int v51), .val (.int (own_b (¬ ((p4 &&& (1 : Int32)) = (0 : Int32)) ∧ (¬ (v51 < (1 : Int32)))))), .val (.ref b74), .val (.ref b85), .unset, .unset, .unset, .unset, .unset, .unset, .unset]) rfl ?_
      show Steps p.tables e below (Tg91.setTop (mkF m 96 #[.val (.int p0), .val (.int p1), .val (.int p2), .val (.int p3), .val (.int p4), .val (.int (1 : Int32)), .val (.int (0 : Int32)), .val (.int (0 : Int32)), .val (.int v43), .val (.int v51), .val (.int (own_b (¬ ((p4 &&& (1 : Int32)) = (0 : Int32)) ∧ (¬ (v51 < (1 : Int32)))))), .val (.ref b74), .val (.ref b85), .unset, .unset, .unset, .unset, .unset, .unset, .unset] [])) target
      refine XS.iload Xg91.here hx rfl (hb hby at_96) rfl ?_
      show Steps p.tables e below (Tg91.setTop (mkF m 98 #[.val (.int p0), .val (.int p1), .val (.int p2), .val (.int p3), .val (.int p4), .val (.int (1 : Int32)), .val (.int (0 : Int32)), .val (.int (0 : Int32)), .val (.int v43), .val (.int v51), .val (.int (own_b (¬ ((p4 &&& (1 : Int32)) = (0 : Int32)) ∧ (¬ (v51 < (1 : Int32)))))), .val (.ref b74), .val (.ref b85), .unset, .unset, .unset, .unset, .unset, .unset, .unset] [(.int (0 : Int32))])) target
      refine XS.ifYes Xg91.here hx rfl (pc0 := 98) (pc' := 111) rfl (hb hby at_98) rfl ((if0 _ _).trans (teq (by decide : (0 : Int32) = (0 : Int32))).1) (by decide) (by decide) ?_
      exact kt
    obtain ⟨Tg111, hg111, Xg111, eg111, Eg111, Ag111, Dg111, -, stg111⟩ := newO Xg91 hx hZ hown (hw _ (List.mem_of_getElem? (i := 12) rfl)) (hw _ (List.mem_of_getElem? (i := 13) rfl)) (hw _ (List.mem_of_getElem? (i := 14) rfl)) rfl (g := (mkF m 111 #[.val (.int p0), .val (.int p1), .val (.int p2), .val (.int p3), .val (.int p4), .val (.int (1 : Int32)), .val (.int (0 : Int32)), .val (.int (0 : Int32)), .val (.int v43), .val (.int v51), .val (.int (own_b (¬ ((p4 &&& (1 : Int32)) = (0 : Int32)) ∧ (¬ (v51 < (1 : Int32)))))), .val (.ref b74), .val (.ref b85), .unset, .unset, .unset, .unset, .unset, .unset, .unset] [])) rfl (hb hby at_111) (by decide) (by decide)
    obtain ⟨b111, gg111⟩ : ∃ z, z = Tg91.heap.size := ⟨_, rfl⟩
    rw [← gg111] at Ag111 Dg111 stg111
    refine own_st stg111 ?_
    have ne_b74_b111 : b74 ≠ b111 := Nat.ne_of_lt (Nat.lt_of_lt_of_le F_9.lt (Nat.le_of_eq gg111.symm))
    have ne_b85_b111 : b85 ≠ b111 := Nat.ne_of_lt (Nat.lt_of_lt_of_le F_6.lt (Nat.le_of_eq gg111.symm))
    have g_b111 : n0 ≤ b111 := Nat.le_trans Zz_3 (Nat.le_of_eq gg111.symm)
    have F_10 := F_9.ext Eg111
    have F_11 := F_6.ext Eg111
    have F_12 := F_7.ext Eg111
    have F_13 := F_8.ext Eg111
    have Zz_4 : n0 ≤ hg111.size := Nat.le_trans Zz_3 Eg111.1
    have F_14 : Fld Z hg111 b111 "com/example/wireform/wireform/wire/WireReader" "bytes" "[B" .null := Dg111 (Or.inr (hw _ (List.mem_of_getElem? (i := 20) rfl))) (ty := (.array .byte)) (by decide)
    have F_15 : Fld Z hg111 b111 "com/example/wireform/wireform/wire/WireReader" "end" "I" (.int (0 : Int32)) := Dg111 (Or.inr (hw _ (List.mem_of_getElem? (i := 22) rfl))) (ty := .int) (by decide)
    have F_16 : Fld Z hg111 b111 "com/example/wireform/wireform/wire/WireReader" "nesting" "Lcom/example/wireform/wireform/wire/Nesting;" .null := Dg111 (Or.inr (hw _ (List.mem_of_getElem? (i := 24) rfl))) (ty := (.object "com/example/wireform/wireform/wire/Nesting")) (by decide)
    have F_17 : Fld Z hg111 b111 "com/example/wireform/wireform/wire/WireReader" "limit" "I" (.int (0 : Int32)) := Dg111 (Or.inl (hw _ (List.mem_of_getElem? (i := 26) rfl))) (ty := .int) (by decide)
    have F_18 : Fld Z hg111 b111 "com/example/wireform/wireform/wire/WireReader" "position" "I" (.int (0 : Int32)) := Dg111 (Or.inl (hw _ (List.mem_of_getElem? (i := 49) rfl))) (ty := .int) (by decide)
    refine own_st (B := Tg111.setTop (mkF m 121 #[.val (.int p0), .val (.int p1), .val (.int p2), .val (.int p3), .val (.int p4), .val (.int (1 : Int32)), .val (.int (0 : Int32)), .val (.int (0 : Int32)), .val (.int v43), .val (.int v51), .val (.int (own_b (¬ ((p4 &&& (1 : Int32)) = (0 : Int32)) ∧ (¬ (v51 < (1 : Int32)))))), .val (.ref b74), .val (.ref b85), .unset, .unset, .unset, .unset, .unset, .unset, .unset] [(.ref b85), (.int v43), (.ref b74), (.ref b111), (.ref b111)])) (fun target kt => ?_) ?_
    · show Steps p.tables e below (Tg111.setTop (mkF m 114 #[.val (.int p0), .val (.int p1), .val (.int p2), .val (.int p3), .val (.int p4), .val (.int (1 : Int32)), .val (.int (0 : Int32)), .val (.int (0 : Int32)), .val (.int v43), .val (.int v51), .val (.int (own_b (¬ ((p4 &&& (1 : Int32)) = (0 : Int32)) ∧ (¬ (v51 < (1 : Int32)))))), .val (.ref b74), .val (.ref b85), .unset, .unset, .unset, .unset, .unset, .unset, .unset] [(.ref b111)])) target
      refine XS.dup Xg111.here hx rfl (hb hby at_114) rfl rfl ?_
      show Steps p.tables e below (Tg111.setTop (mkF m 115 #[.val (.int p0), .val (.int p1), .val (.int p2), .val (.int p3), .val (.int p4), .val (.int (1 : Int32)), .val (.int (0 : Int32)), .val (.int (0 : Int32)), .val (.int v43), .val (.int v51), .val (.int (own_b (¬ ((p4 &&& (1 : Int32)) = (0 : Int32)) ∧ (¬ (v51 < (1 : Int32)))))), .val (.ref b74), .val (.ref b85), .unset, .unset, .unset, .unset, .unset, .unset, .unset] [(.ref b111), (.ref b111)])) target
      refine XS.aload Xg111.here hx rfl (hb hby at_115) rfl rfl ?_
      show Steps p.tables e below (Tg111.setTop (mkF m 117 #[.val (.int p0), .val (.int p1), .val (.int p2), .val (.int p3), .val (.int p4), .val (.int (1 : Int32)), .val (.int (0 : Int32)), .val (.int (0 : Int32)), .val (.int v43), .val (.int v51), .val (.int (own_b (¬ ((p4 &&& (1 : Int32)) = (0 : Int32)) ∧ (¬ (v51 < (1 : Int32)))))), .val (.ref b74), .val (.ref b85), .unset, .unset, .unset, .unset, .unset, .unset, .unset] [(.ref b74), (.ref b111), (.ref b111)])) target
      refine XS.iload Xg111.here hx rfl (hb hby at_117) rfl ?_
      show Steps p.tables e below (Tg111.setTop (mkF m 119 #[.val (.int p0), .val (.int p1), .val (.int p2), .val (.int p3), .val (.int p4), .val (.int (1 : Int32)), .val (.int (0 : Int32)), .val (.int (0 : Int32)), .val (.int v43), .val (.int v51), .val (.int (own_b (¬ ((p4 &&& (1 : Int32)) = (0 : Int32)) ∧ (¬ (v51 < (1 : Int32)))))), .val (.ref b74), .val (.ref b85), .unset, .unset, .unset, .unset, .unset, .unset, .unset] [(.int v43), (.ref b74), (.ref b111), (.ref b111)])) target
      refine XS.aload Xg111.here hx rfl (hb hby at_119) rfl rfl ?_
      exact kt
    obtain ⟨_, _, ⟨Tg121, Lg121, kg121, ng121⟩, -, Xg121, ⟨Lcg121, hQg121, lg121, yg121, zg121⟩, stg121⟩ := Xg111.specialBack hx (y := (⟨"com/example/wireform/wireform/wire/WireReader", "<init>", "([BILcom/example/wireform/wireform/wire/Nesting;)V"⟩ : MethodName)) rfl hown (mvT hZ (hw _ (List.mem_of_getElem? (i := 15) rfl))) (mvT hZ (hw _ (List.mem_of_getElem? (i := 16) rfl))) (mvT hZ (hw _ (List.mem_of_getElem? (i := 17) rfl))) (by decide) (backOf (W := 1) (own_rm3 l Z a0 hw [] b111 b74 v43 b85 hg111 n0 Zz_4 Ag111 F_14 F_15 F_16 F_17 F_18 g_b111) hZ (hw _ (List.mem_of_getElem? (i := 17) rfl)) (hw _ (List.mem_of_getElem? (i := 14) rfl)) (by decide) (by decide)) (g := (mkF m 121 #[.val (.int p0), .val (.int p1), .val (.int p2), .val (.int p3), .val (.int p4), .val (.int (1 : Int32)), .val (.int (0 : Int32)), .val (.int (0 : Int32)), .val (.int v43), .val (.int v51), .val (.int (own_b (¬ ((p4 &&& (1 : Int32)) = (0 : Int32)) ∧ (¬ (v51 < (1 : Int32)))))), .val (.ref b74), .val (.ref b85), .unset, .unset, .unset, .unset, .unset, .unset, .unset] [(.ref b85), (.int v43), (.ref b74), (.ref b111), (.ref b111)])) rfl (by rw [hml]; rfl) (Steps.refl _) (a := b111) (argsL := [(.ref b74), (.int v43), (.ref b85)]) (rest := [(.ref b111)]) (lenOf own_pd6 rfl) rfl (by show 2 * 0 + _ ≤ _; exact Nat.le_of_eq rfl) (hb hby at_121) (fun _ _ => ⟨rfl, eg111, (by decide : 3 + 0 ≤ _), (by decide : 11 + 0 ≤ _)⟩)
    dsimp only [Pt.U, Pt.locs, Pt.cells, Pt.slots] at Xg121 lg121 yg121 zg121 stg121 hQg121
    subst lg121 yg121 zg121
    obtain ⟨rfl, Ng121q, Kg121, F_19, F_20, F_21, F_22, F_23, F_24⟩ := hQg121
    have F_25 := F_10.keep Kg121 (ninS ne_b74_b111 nin0)
    have F_26 := F_11.keep Kg121
    have F_27 := F_12.keep Kg121 (ninS ne_b85_b111 nin0)
    have F_28 := F_13.keep Kg121 (ninS ne_b85_b111 nin0)
    have Zz_5 : n0 ≤ Tg121.heap.size := Nat.le_trans Zz_4 Kg121.1
    have Ng121 := Fr.app Ng91 Ng121q
    refine own_st (fun _ k => stg121.trans k) ?_
    refine own_st (B := Tg121.setTop (mkF m 128 #[.val (.int p0), .val (.int p1), .val (.int p2), .val (.int p3), .val (.int p4), .val (.int (1 : Int32)), .val (.int (0 : Int32)), .val (.int (0 : Int32)), .val (.int v43), .val (.int v51), .val (.int (own_b (¬ ((p4 &&& (1 : Int32)) = (0 : Int32)) ∧ (¬ (v51 < (1 : Int32)))))), .val (.ref b74), .val (.ref b85), .val (.ref b111), .unset, .unset, .unset, .unset, .unset, .unset] [(.ref b111)])) (fun target kt => ?_) ?_
    · show Steps p.tables e below (Tg121.setTop (mkF m 124 #[.val (.int p0), .val (.int p1), .val (.int p2), .val (.int p3), .val (.int p4), .val (.int (1 : Int32)), .val (.int (0 : Int32)), .val (.int (0 : Int32)), .val (.int v43), .val (.int v51), .val (.int (own_b (¬ ((p4 &&& (1 : Int32)) = (0 : Int32)) ∧ (¬ (v51 < (1 : Int32)))))), .val (.ref b74), .val (.ref b85), .unset, .unset, .unset, .unset, .unset, .unset, .unset] [(.ref b111)])) target
      refine XS.astore Xg121.here hx rfl (hb hby at_124) rfl rfl (l' := #[.val (.int p0), .val (.int p1), .val (.int p2), .val (.int p3), .val (.int p4), .val (.int (1 : Int32)), .val (.int (0 : Int32)), .val (.int (0 : Int32)), .val (.int v43), .val (.int v51), .val (.int (own_b (¬ ((p4 &&& (1 : Int32)) = (0 : Int32)) ∧ (¬ (v51 < (1 : Int32)))))), .val (.ref b74), .val (.ref b85), .val (.ref b111), .unset, .unset, .unset, .unset, .unset, .unset]) rfl ?_
      show Steps p.tables e below (Tg121.setTop (mkF m 126 #[.val (.int p0), .val (.int p1), .val (.int p2), .val (.int p3), .val (.int p4), .val (.int (1 : Int32)), .val (.int (0 : Int32)), .val (.int (0 : Int32)), .val (.int v43), .val (.int v51), .val (.int (own_b (¬ ((p4 &&& (1 : Int32)) = (0 : Int32)) ∧ (¬ (v51 < (1 : Int32)))))), .val (.ref b74), .val (.ref b85), .val (.ref b111), .unset, .unset, .unset, .unset, .unset, .unset] [])) target
      refine XS.aload Xg121.here hx rfl (hb hby at_126) rfl rfl ?_
      exact kt
    obtain ⟨cqg128, kqg128, qg128a, qg128b, qg128c⟩ := isOf hZ rfl F_19
    obtain ⟨_, _, ⟨Tg128, Lg128, kg128, ng128⟩, -, Xg128, ⟨Lcg128, hQg128, lg128, yg128, zg128⟩, stg128⟩ := Xg121.virtualBack hx (y := (⟨"com/example/wireform/wireform/wire/WireReader", "beginMessage", "()I"⟩ : MethodName)) (z := (⟨"com/example/wireform/wireform/wire/WireReader", "beginMessage", "()I"⟩ : MethodName)) hown (mvT hZ (hw _ (List.mem_of_getElem? (i := 27) rfl))) (mvT hZ (hw _ (List.mem_of_getElem? (i := 28) rfl))) (notFace_of_selects (args := #[]) (mvT hZ (hw _ (List.mem_of_getElem? (i := 30) rfl)))) (mvT hZ (hw _ (List.mem_of_getElem? (i := 30) rfl))) (mvT hZ (hw _ (List.mem_of_getElem? (i := 29) rfl))) (by decide) (backOf (W := 0) (own_rm4 l Z a0 hw [] b111 b74 v43 b85 v43 (0 : Int32) (1 : Int32) (0 : Int32) a84 Tg121.heap n0 Zz_5 F_19 F_20 F_21 F_22 F_23 F_24 F_26 F_27 F_28 F_25 g_b111 g_b85 (Ne.symm ne_b74_b111) (Ne.symm ne_b85_b111) (Ne.symm ne_b74_b85) (show own_V (0 : Int32) v43 (a84 (0 : Int32).toNatClampNeg) 4 from hV0) (show ¬ ((0 : Int32) = (1 : Int32)) from by decide)) hZ (hw _ (List.mem_of_getElem? (i := 31) rfl)) (hw _ (List.mem_of_getElem? (i := 14) rfl)) (by decide) (by decide)) qg128a qg128c (g := (mkF m 128 #[.val (.int p0), .val (.int p1), .val (.int p2), .val (.int p3), .val (.int p4), .val (.int (1 : Int32)), .val (.int (0 : Int32)), .val (.int (0 : Int32)), .val (.int v43), .val (.int v51), .val (.int (own_b (¬ ((p4 &&& (1 : Int32)) = (0 : Int32)) ∧ (¬ (v51 < (1 : Int32)))))), .val (.ref b74), .val (.ref b85), .val (.ref b111), .unset, .unset, .unset, .unset, .unset, .unset] [(.ref b111)])) rfl (by rw [hml]; rfl) (Steps.refl _) (argsL := []) (rest := []) (lenOf own_pd2 rfl) rfl (by show 2 * 0 + _ ≤ _; exact Nat.le_of_eq rfl) (hb hby at_128) (fun _ _ => ⟨rfl, rfl, (by decide : 3 + 0 ≤ _), (by decide : 11 + 0 ≤ _)⟩)
    dsimp only [Pt.U, Pt.locs, Pt.cells, Pt.slots] at Xg128 lg128 yg128 zg128 stg128 hQg128
    subst lg128 yg128 zg128
    obtain ⟨rfl, Ng128q, Kg128, F_29, F_30, F_31, F_32, F_33, F_34, F_35, F_36, F_37⟩ := hQg128
    have F_38 := F_25.keep Kg128 (ninS ne_b74_b111 (ninS ne_b74_b85 nin0))
    have Zz_6 : n0 ≤ Tg128.heap.size := Nat.le_trans Zz_5 Kg128.1
    obtain ⟨w128_limit, hw128_limit⟩ : ∃ z : Int32, z = ((((0 : Int32) + (1 : Int32))) + (a84 (0 : Int32).toNatClampNeg)) := ⟨_, rfl⟩
    have F_39 : Fld Z Tg128.heap b111 "com/example/wireform/wireform/wire/WireReader" "limit" "I" (.int w128_limit) := by subst hw128_limit; exact F_33
    obtain ⟨w128_position, hw128_position⟩ : ∃ z : Int32, z = ((0 : Int32) + (1 : Int32)) := ⟨_, rfl⟩
    have F_40 : Fld Z Tg128.heap b111 "com/example/wireform/wireform/wire/WireReader" "position" "I" (.int w128_position) := by subst hw128_position; exact F_34
    obtain ⟨w128_depth, hw128_depth⟩ : ∃ z : Int32, z = (if (0 : Int32) = (1 : Int32) then (0 : Int32) else ((0 : Int32) + (1 : Int32))) := ⟨_, rfl⟩
    have F_41 : Fld Z Tg128.heap b85 "com/example/wireform/wireform/wire/Nesting" "depth" "I" (.int w128_depth) := by subst hw128_depth; exact F_37
    have Ng128 := Fr.app Ng121 Ng128q
    refine own_st (fun _ k => stg128.trans k) ?_
    refine own_st (B := Tg128.setTop (mkF m 138 #[.val (.int p0), .val (.int p1), .val (.int p2), .val (.int p3), .val (.int p4), .val (.int (1 : Int32)), .val (.int (0 : Int32)), .val (.int (0 : Int32)), .val (.int v43), .val (.int v51), .val (.int (own_b (¬ ((p4 &&& (1 : Int32)) = (0 : Int32)) ∧ (¬ (v51 < (1 : Int32)))))), .val (.ref b74), .val (.ref b85), .val (.ref b111), .val (.int v43), .val (.int (1 : Int32)), .unset, .unset, .unset, .unset] [(.int (own_b (¬ ((p4 &&& (1 : Int32)) = (0 : Int32)) ∧ (¬ (v51 < (1 : Int32))))))])) (fun target kt => ?_) ?_
    · show Steps p.tables e below (Tg128.setTop (mkF m 131 #[.val (.int p0), .val (.int p1), .val (.int p2), .val (.int p3), .val (.int p4), .val (.int (1 : Int32)), .val (.int (0 : Int32)), .val (.int (0 : Int32)), .val (.int v43), .val (.int v51), .val (.int (own_b (¬ ((p4 &&& (1 : Int32)) = (0 : Int32)) ∧ (¬ (v51 < (1 : Int32)))))), .val (.ref b74), .val (.ref b85), .val (.ref b111), .unset, .unset, .unset, .unset, .unset, .unset] [(.int v43)])) target
      refine XS.istore Xg128.here hx rfl (hb hby at_131) rfl (l' := #[.val (.int p0), .val (.int p1), .val (.int p2), .val (.int p3), .val (.int p4), .val (.int (1 : Int32)), .val (.int (0 : Int32)), .val (.int (0 : Int32)), .val (.int v43), .val (.int v51), .val (.int (own_b (¬ ((p4 &&& (1 : Int32)) = (0 : Int32)) ∧ (¬ (v51 < (1 : Int32)))))), .val (.ref b74), .val (.ref b85), .val (.ref b111), .val (.int v43), .unset, .unset, .unset, .unset, .unset]) rfl ?_
      show Steps p.tables e below (Tg128.setTop (mkF m 133 #[.val (.int p0), .val (.int p1), .val (.int p2), .val (.int p3), .val (.int p4), .val (.int (1 : Int32)), .val (.int (0 : Int32)), .val (.int (0 : Int32)), .val (.int v43), .val (.int v51), .val (.int (own_b (¬ ((p4 &&& (1 : Int32)) = (0 : Int32)) ∧ (¬ (v51 < (1 : Int32)))))), .val (.ref b74), .val (.ref b85), .val (.ref b111), .val (.int v43), .unset, .unset, .unset, .unset, .unset] [])) target
      refine XS.iconst Xg128.here hx rfl (hb hby at_133) ?_
      show Steps p.tables e below (Tg128.setTop (mkF m 134 #[.val (.int p0), .val (.int p1), .val (.int p2), .val (.int p3), .val (.int p4), .val (.int (1 : Int32)), .val (.int (0 : Int32)), .val (.int (0 : Int32)), .val (.int v43), .val (.int v51), .val (.int (own_b (¬ ((p4 &&& (1 : Int32)) = (0 : Int32)) ∧ (¬ (v51 < (1 : Int32)))))), .val (.ref b74), .val (.ref b85), .val (.ref b111), .val (.int v43), .unset, .unset, .unset, .unset, .unset] [(.int (1 : Int32))])) target
      refine XS.istore Xg128.here hx rfl (hb hby at_134) rfl (l' := #[.val (.int p0), .val (.int p1), .val (.int p2), .val (.int p3), .val (.int p4), .val (.int (1 : Int32)), .val (.int (0 : Int32)), .val (.int (0 : Int32)), .val (.int v43), .val (.int v51), .val (.int (own_b (¬ ((p4 &&& (1 : Int32)) = (0 : Int32)) ∧ (¬ (v51 < (1 : Int32)))))), .val (.ref b74), .val (.ref b85), .val (.ref b111), .val (.int v43), .val (.int (1 : Int32)), .unset, .unset, .unset, .unset]) rfl ?_
      show Steps p.tables e below (Tg128.setTop (mkF m 136 #[.val (.int p0), .val (.int p1), .val (.int p2), .val (.int p3), .val (.int p4), .val (.int (1 : Int32)), .val (.int (0 : Int32)), .val (.int (0 : Int32)), .val (.int v43), .val (.int v51), .val (.int (own_b (¬ ((p4 &&& (1 : Int32)) = (0 : Int32)) ∧ (¬ (v51 < (1 : Int32)))))), .val (.ref b74), .val (.ref b85), .val (.ref b111), .val (.int v43), .val (.int (1 : Int32)), .unset, .unset, .unset, .unset] [])) target
      refine XS.iload Xg128.here hx rfl (hb hby at_136) rfl ?_
      exact kt
    obtain ⟨_, ⟨T_M156, h_M156, lc_M156, j156_l15, j156_f_b111_position, rfl, X_M156, e_M156, N_M156, Z_M156, F_53, F_54, F_55, F_56, F_57, F_58, F_59, F_60, F_61, F_62, hj156_l15, hj156_f_b111_position⟩, st_M156⟩ : own_Lead p.tables e below (Tg128.setTop (mkF m 138 #[.val (.int p0), .val (.int p1), .val (.int p2), .val (.int p3), .val (.int p4), .val (.int (1 : Int32)), .val (.int (0 : Int32)), .val (.int (0 : Int32)), .val (.int v43), .val (.int v51), .val (.int (own_b (¬ ((p4 &&& (1 : Int32)) = (0 : Int32)) ∧ (¬ (v51 < (1 : Int32)))))), .val (.ref b74), .val (.ref b85), .val (.ref b111), .val (.int v43), .val (.int (1 : Int32)), .unset, .unset, .unset, .unset] [(.int (own_b (¬ ((p4 &&& (1 : Int32)) = (0 : Int32)) ∧ (¬ (v51 < (1 : Int32))))))])) (fun B => ∃ (T_M156 : State) (h_M156 : Heap) (lc_M156 : List Loc) (j156_l15 : Int32) (j156_f_b111_position : Int32), B = T_M156.setTop (mkF m 156 #[.val (.int p0), .val (.int p1), .val (.int p2), .val (.int p3), .val (.int p4), .val (.int (1 : Int32)), .val (.int (0 : Int32)), .val (.int (0 : Int32)), .val (.int v43), .val (.int v51), .val (.int (own_b (¬ ((p4 &&& (1 : Int32)) = (0 : Int32)) ∧ (¬ (v51 < (1 : Int32)))))), .val (.ref b74), .val (.ref b85), .val (.ref b111), .val (.int v43), .val (.int j156_l15), .unset, .unset, .unset, .unset] []) ∧ Stand p l e room_1 s m #[(.int p0), (.int p1), (.int p2), (.int p3), (.int p4)] below meth c T_M156 lc_M156 3 11 ∧ T_M156.heap = h_M156 ∧ Fr n0 lc_M156 ∧ n0 ≤ h_M156.size ∧ own_RayB Z h_M156 b74 4 a84 ∧ Exa Z h_M156 b85 "com/example/wireform/wireform/wire/Nesting" ∧ Fld Z h_M156 b85 "com/example/wireform/wireform/wire/Nesting" "limit" "I" (.int (1 : Int32)) ∧ Fld Z h_M156 b85 "com/example/wireform/wireform/wire/Nesting" "depth" "I" (.int w128_depth) ∧ Exa Z h_M156 b111 "com/example/wireform/wireform/wire/WireReader" ∧ Fld Z h_M156 b111 "com/example/wireform/wireform/wire/WireReader" "bytes" "[B" (.ref b74) ∧ Fld Z h_M156 b111 "com/example/wireform/wireform/wire/WireReader" "end" "I" (.int v43) ∧ Fld Z h_M156 b111 "com/example/wireform/wireform/wire/WireReader" "nesting" "Lcom/example/wireform/wireform/wire/Nesting;" (.ref b85) ∧ Fld Z h_M156 b111 "com/example/wireform/wireform/wire/WireReader" "limit" "I" (.int w128_limit) ∧ Fld Z h_M156 b111 "com/example/wireform/wireform/wire/WireReader" "position" "I" (.int j156_f_b111_position) ∧ j156_l15 = (if ¬ ((p4 &&& (1 : Int32)) = (0 : Int32)) ∧ (¬ (v51 < (1 : Int32))) then (2 : Int32) else (1 : Int32)) ∧ j156_f_b111_position = (if ¬ ((p4 &&& (1 : Int32)) = (0 : Int32)) ∧ (¬ (v51 < (1 : Int32))) then ((w128_position + (1 : Int32))) else w128_position)) := by
      by_cases c138 : ¬ ((p4 &&& (1 : Int32)) = (0 : Int32)) ∧ (¬ (v51 < (1 : Int32)))
      · refine own_st (B := Tg128.setTop (mkF m 143 #[.val (.int p0), .val (.int p1), .val (.int p2), .val (.int p3), .val (.int p4), .val (.int (1 : Int32)), .val (.int (0 : Int32)), .val (.int (0 : Int32)), .val (.int v43), .val (.int v51), .val (.int (own_b (¬ ((p4 &&& (1 : Int32)) = (0 : Int32)) ∧ (¬ (v51 < (1 : Int32)))))), .val (.ref b74), .val (.ref b85), .val (.ref b111), .val (.int v43), .val (.int (1 : Int32)), .unset, .unset, .unset, .unset] [(.ref b111)])) (fun target kt => ?_) ?_
        · show Steps p.tables e below (Tg128.setTop (mkF m 138 #[.val (.int p0), .val (.int p1), .val (.int p2), .val (.int p3), .val (.int p4), .val (.int (1 : Int32)), .val (.int (0 : Int32)), .val (.int (0 : Int32)), .val (.int v43), .val (.int v51), .val (.int (own_b (¬ ((p4 &&& (1 : Int32)) = (0 : Int32)) ∧ (¬ (v51 < (1 : Int32)))))), .val (.ref b74), .val (.ref b85), .val (.ref b111), .val (.int v43), .val (.int (1 : Int32)), .unset, .unset, .unset, .unset] [(.int (own_b (¬ ((p4 &&& (1 : Int32)) = (0 : Int32)) ∧ (¬ (v51 < (1 : Int32))))))])) target
          refine XS.ifNo Xg128.here hx rfl (hb hby at_138) rfl ((if0 _ _).trans (feq (own_bn0 rfl c138)).1) ?_
          show Steps p.tables e below (Tg128.setTop (mkF m 141 #[.val (.int p0), .val (.int p1), .val (.int p2), .val (.int p3), .val (.int p4), .val (.int (1 : Int32)), .val (.int (0 : Int32)), .val (.int (0 : Int32)), .val (.int v43), .val (.int v51), .val (.int (own_b (¬ ((p4 &&& (1 : Int32)) = (0 : Int32)) ∧ (¬ (v51 < (1 : Int32)))))), .val (.ref b74), .val (.ref b85), .val (.ref b111), .val (.int v43), .val (.int (1 : Int32)), .unset, .unset, .unset, .unset] [])) target
          refine XS.aload Xg128.here hx rfl (hb hby at_141) rfl rfl ?_
          exact kt
        obtain ⟨cqg143, kqg143, qg143a, qg143b, qg143c⟩ := isOf hZ rfl F_29
        obtain ⟨_, _, ⟨Tg143, Lg143, kg143, ng143⟩, -, Xg143, ⟨Lcg143, hQg143, lg143, yg143, zg143⟩, stg143⟩ := Xg128.virtualBack hx (y := (⟨"com/example/wireform/wireform/wire/WireReader", "readVarint", "()J"⟩ : MethodName)) (z := (⟨"com/example/wireform/wireform/wire/WireReader", "readVarint", "()J"⟩ : MethodName)) hown (mvT hZ (hw _ (List.mem_of_getElem? (i := 84) rfl))) (mvT hZ (hw _ (List.mem_of_getElem? (i := 51) rfl))) (notFace_of_selects (args := #[]) (mvT hZ (hw _ (List.mem_of_getElem? (i := 53) rfl)))) (mvT hZ (hw _ (List.mem_of_getElem? (i := 53) rfl))) (mvT hZ (hw _ (List.mem_of_getElem? (i := 52) rfl))) (by decide) (backOf (W := 0) (own_rm8 l Z a0 hw [] b111 b74 v43 b85 w128_limit w128_position a84 Tg128.heap n0 Zz_6 F_29 F_30 F_31 F_32 F_39 F_40 F_38 g_b111 (Ne.symm ne_b74_b111) (show own_V w128_position w128_limit (a84 (w128_position).toNatClampNeg) 4 from (by have hp : w128_position = 1 := by { rw [hw128_position]; decide }; have hl : w128_limit = (1 : Int32) + v51 := by { rw [hw128_limit, hA0]; rfl }; have hx : a84 (w128_position).toNatClampNeg = 0 := by { rw [hp, ha84]; first | rfl | decide | simp }; rw [hx, hp, hl]; exact own_V1 v51 c138.2 (by omega) (by omega)))) hZ (hw _ (List.mem_of_getElem? (i := 54) rfl)) (hw _ (List.mem_of_getElem? (i := 14) rfl)) (by decide) (by decide)) qg143a qg143c (g := (mkF m 143 #[.val (.int p0), .val (.int p1), .val (.int p2), .val (.int p3), .val (.int p4), .val (.int (1 : Int32)), .val (.int (0 : Int32)), .val (.int (0 : Int32)), .val (.int v43), .val (.int v51), .val (.int (own_b (¬ ((p4 &&& (1 : Int32)) = (0 : Int32)) ∧ (¬ (v51 < (1 : Int32)))))), .val (.ref b74), .val (.ref b85), .val (.ref b111), .val (.int v43), .val (.int (1 : Int32)), .unset, .unset, .unset, .unset] [(.ref b111)])) rfl (by rw [hml]; rfl) (Steps.refl _) (argsL := []) (rest := []) (lenOf own_pd1 rfl) rfl (by show 2 * 0 + _ ≤ _; exact Nat.le_of_eq rfl) (hb hby at_143) (fun _ _ => ⟨rfl, rfl, (by decide : 3 + 0 ≤ _), (by decide : 11 + 0 ≤ _)⟩)
        dsimp only [Pt.U, Pt.locs, Pt.cells, Pt.slots] at Xg143 lg143 yg143 zg143 stg143 hQg143
        subst lg143 yg143 zg143
        obtain ⟨rfl, Ng143q, Kg143, F_42, F_43, F_44, F_45, F_46, F_47⟩ := hQg143
        have F_48 := F_38.keep Kg143 (ninS ne_b74_b111 nin0)
        have F_49 := F_35.keep Kg143
        have F_50 := F_36.keep Kg143 (ninS ne_b85_b111 nin0)
        have F_51 := F_41.keep Kg143 (ninS ne_b85_b111 nin0)
        have Zz_7 : n0 ≤ Tg143.heap.size := Nat.le_trans Zz_6 Kg143.1
        obtain ⟨w143_position, hw143_position⟩ : ∃ z : Int32, z = (w128_position + (1 : Int32)) := ⟨_, rfl⟩
        have F_52 : Fld Z Tg143.heap b111 "com/example/wireform/wireform/wire/WireReader" "position" "I" (.int w143_position) := by subst hw143_position; exact F_47
        have Ng143 := Fr.app Ng128 Ng143q
        refine own_st (fun _ k => stg143.trans k) ?_
        refine own_st (B := Tg143.setTop (mkF m 148 #[.val (.int p0), .val (.int p1), .val (.int p2), .val (.int p3), .val (.int p4), .val (.int (1 : Int32)), .val (.int (0 : Int32)), .val (.int (0 : Int32)), .val (.int v43), .val (.int v51), .val (.int (own_b (¬ ((p4 &&& (1 : Int32)) = (0 : Int32)) ∧ (¬ (v51 < (1 : Int32)))))), .val (.ref b74), .val (.ref b85), .val (.ref b111), .val (.int v43), .val (.int (1 : Int32)), .unset, .unset, .unset, .unset] [(.int (lcmpW ((a84 (w128_position).toNatClampNeg).toInt64) (0 : Int64)))])) (fun target kt => ?_) ?_
        · show Steps p.tables e below (Tg143.setTop (mkF m 146 #[.val (.int p0), .val (.int p1), .val (.int p2), .val (.int p3), .val (.int p4), .val (.int (1 : Int32)), .val (.int (0 : Int32)), .val (.int (0 : Int32)), .val (.int v43), .val (.int v51), .val (.int (own_b (¬ ((p4 &&& (1 : Int32)) = (0 : Int32)) ∧ (¬ (v51 < (1 : Int32)))))), .val (.ref b74), .val (.ref b85), .val (.ref b111), .val (.int v43), .val (.int (1 : Int32)), .unset, .unset, .unset, .unset] [(.long ((a84 (w128_position).toNatClampNeg).toInt64))])) target
          refine XS.lconst Xg143.here hx rfl (hb hby at_146) ?_
          show Steps p.tables e below (Tg143.setTop (mkF m 147 #[.val (.int p0), .val (.int p1), .val (.int p2), .val (.int p3), .val (.int p4), .val (.int (1 : Int32)), .val (.int (0 : Int32)), .val (.int (0 : Int32)), .val (.int v43), .val (.int v51), .val (.int (own_b (¬ ((p4 &&& (1 : Int32)) = (0 : Int32)) ∧ (¬ (v51 < (1 : Int32)))))), .val (.ref b74), .val (.ref b85), .val (.ref b111), .val (.int v43), .val (.int (1 : Int32)), .unset, .unset, .unset, .unset] [(.long (0 : Int64)), (.long ((a84 (w128_position).toNatClampNeg).toInt64))])) target
          refine XS.lcmp Xg143.here hx rfl (hb hby at_147) rfl ?_
          exact kt
        have c148 : ((a84 (w128_position).toNatClampNeg).toInt64) = (0 : Int64) := by
          have hp : w128_position = 1 := by rw [hw128_position]; decide
          rw [hp, ha84]
          first | rfl | decide | simp
        refine own_st (B := Tg143.setTop (mkF m 156 #[.val (.int p0), .val (.int p1), .val (.int p2), .val (.int p3), .val (.int p4), .val (.int (1 : Int32)), .val (.int (0 : Int32)), .val (.int (0 : Int32)), .val (.int v43), .val (.int v51), .val (.int (own_b (¬ ((p4 &&& (1 : Int32)) = (0 : Int32)) ∧ (¬ (v51 < (1 : Int32)))))), .val (.ref b74), .val (.ref b85), .val (.ref b111), .val (.int v43), .val (.int (2 : Int32)), .unset, .unset, .unset, .unset] [])) (fun target kt => ?_) ?_
        · show Steps p.tables e below (Tg143.setTop (mkF m 148 #[.val (.int p0), .val (.int p1), .val (.int p2), .val (.int p3), .val (.int p4), .val (.int (1 : Int32)), .val (.int (0 : Int32)), .val (.int (0 : Int32)), .val (.int v43), .val (.int v51), .val (.int (own_b (¬ ((p4 &&& (1 : Int32)) = (0 : Int32)) ∧ (¬ (v51 < (1 : Int32)))))), .val (.ref b74), .val (.ref b85), .val (.ref b111), .val (.int v43), .val (.int (1 : Int32)), .unset, .unset, .unset, .unset] [(.int (lcmpW ((a84 (w128_position).toNatClampNeg).toInt64) (0 : Int64)))])) target
          refine XS.ifYes Xg143.here hx rfl (pc0 := 148) (pc' := 153) rfl (hb hby at_148) rfl ((if0 _ _).trans (teq ((lw_eq ((a84 (w128_position).toNatClampNeg).toInt64) (0 : Int64)).mpr c148)).1) (by decide) (by decide) ?_
          show Steps p.tables e below (Tg143.setTop (mkF m 153 #[.val (.int p0), .val (.int p1), .val (.int p2), .val (.int p3), .val (.int p4), .val (.int (1 : Int32)), .val (.int (0 : Int32)), .val (.int (0 : Int32)), .val (.int v43), .val (.int v51), .val (.int (own_b (¬ ((p4 &&& (1 : Int32)) = (0 : Int32)) ∧ (¬ (v51 < (1 : Int32)))))), .val (.ref b74), .val (.ref b85), .val (.ref b111), .val (.int v43), .val (.int (1 : Int32)), .unset, .unset, .unset, .unset] [])) target
          refine XS.iconst Xg143.here hx rfl (hb hby at_153) ?_
          show Steps p.tables e below (Tg143.setTop (mkF m 154 #[.val (.int p0), .val (.int p1), .val (.int p2), .val (.int p3), .val (.int p4), .val (.int (1 : Int32)), .val (.int (0 : Int32)), .val (.int (0 : Int32)), .val (.int v43), .val (.int v51), .val (.int (own_b (¬ ((p4 &&& (1 : Int32)) = (0 : Int32)) ∧ (¬ (v51 < (1 : Int32)))))), .val (.ref b74), .val (.ref b85), .val (.ref b111), .val (.int v43), .val (.int (1 : Int32)), .unset, .unset, .unset, .unset] [(.int (2 : Int32))])) target
          refine XS.istore Xg143.here hx rfl (hb hby at_154) rfl (l' := #[.val (.int p0), .val (.int p1), .val (.int p2), .val (.int p3), .val (.int p4), .val (.int (1 : Int32)), .val (.int (0 : Int32)), .val (.int (0 : Int32)), .val (.int v43), .val (.int v51), .val (.int (own_b (¬ ((p4 &&& (1 : Int32)) = (0 : Int32)) ∧ (¬ (v51 < (1 : Int32)))))), .val (.ref b74), .val (.ref b85), .val (.ref b111), .val (.int v43), .val (.int (2 : Int32)), .unset, .unset, .unset, .unset]) rfl ?_
          exact kt
        subst hw143_position
        exact ⟨_, ⟨Tg143, Tg143.heap, _, (2 : Int32), ((w128_position + (1 : Int32))), rfl, Xg143, rfl, Ng143, Zz_7, F_48, F_49, F_50, F_51, F_42, F_43, F_44, F_45, F_46, F_52, (if_pos c138).symm, (if_pos c138).symm⟩, fun _ k => k⟩
      · refine own_st (B := Tg128.setTop (mkF m 156 #[.val (.int p0), .val (.int p1), .val (.int p2), .val (.int p3), .val (.int p4), .val (.int (1 : Int32)), .val (.int (0 : Int32)), .val (.int (0 : Int32)), .val (.int v43), .val (.int v51), .val (.int (own_b (¬ ((p4 &&& (1 : Int32)) = (0 : Int32)) ∧ (¬ (v51 < (1 : Int32)))))), .val (.ref b74), .val (.ref b85), .val (.ref b111), .val (.int v43), .val (.int (1 : Int32)), .unset, .unset, .unset, .unset] [])) (fun target kt => ?_) ?_
        · show Steps p.tables e below (Tg128.setTop (mkF m 138 #[.val (.int p0), .val (.int p1), .val (.int p2), .val (.int p3), .val (.int p4), .val (.int (1 : Int32)), .val (.int (0 : Int32)), .val (.int (0 : Int32)), .val (.int v43), .val (.int v51), .val (.int (own_b (¬ ((p4 &&& (1 : Int32)) = (0 : Int32)) ∧ (¬ (v51 < (1 : Int32)))))), .val (.ref b74), .val (.ref b85), .val (.ref b111), .val (.int v43), .val (.int (1 : Int32)), .unset, .unset, .unset, .unset] [(.int (own_b (¬ ((p4 &&& (1 : Int32)) = (0 : Int32)) ∧ (¬ (v51 < (1 : Int32))))))])) target
          refine XS.ifYes Xg128.here hx rfl (pc0 := 138) (pc' := 156) rfl (hb hby at_138) rfl ((if0 _ _).trans (teq (own_b00 rfl c138)).1) (by decide) (by decide) ?_
          exact kt
        exact ⟨_, ⟨Tg128, Tg128.heap, _, (1 : Int32), w128_position, rfl, Xg128, rfl, Ng128, Zz_6, F_38, F_35, F_36, F_41, F_29, F_30, F_31, F_32, F_39, F_40, (if_neg c138).symm, (if_neg c138).symm⟩, fun _ k => k⟩
    refine own_st st_M156 ?_
    refine own_st (B := T_M156.setTop (mkF m 160 #[.val (.int p0), .val (.int p1), .val (.int p2), .val (.int p3), .val (.int p4), .val (.int (1 : Int32)), .val (.int (0 : Int32)), .val (.int (0 : Int32)), .val (.int v43), .val (.int v51), .val (.int (own_b (¬ ((p4 &&& (1 : Int32)) = (0 : Int32)) ∧ (¬ (v51 < (1 : Int32)))))), .val (.ref b74), .val (.ref b85), .val (.ref b111), .val (.int v43), .val (.int j156_l15), .unset, .unset, .unset, .unset] [(.int v43), (.ref b111)])) (fun target kt => ?_) ?_
    · show Steps p.tables e below (T_M156.setTop (mkF m 156 #[.val (.int p0), .val (.int p1), .val (.int p2), .val (.int p3), .val (.int p4), .val (.int (1 : Int32)), .val (.int (0 : Int32)), .val (.int (0 : Int32)), .val (.int v43), .val (.int v51), .val (.int (own_b (¬ ((p4 &&& (1 : Int32)) = (0 : Int32)) ∧ (¬ (v51 < (1 : Int32)))))), .val (.ref b74), .val (.ref b85), .val (.ref b111), .val (.int v43), .val (.int j156_l15), .unset, .unset, .unset, .unset] [])) target
      refine XS.aload X_M156.here hx rfl (hb hby at_156) rfl rfl ?_
      show Steps p.tables e below (T_M156.setTop (mkF m 158 #[.val (.int p0), .val (.int p1), .val (.int p2), .val (.int p3), .val (.int p4), .val (.int (1 : Int32)), .val (.int (0 : Int32)), .val (.int (0 : Int32)), .val (.int v43), .val (.int v51), .val (.int (own_b (¬ ((p4 &&& (1 : Int32)) = (0 : Int32)) ∧ (¬ (v51 < (1 : Int32)))))), .val (.ref b74), .val (.ref b85), .val (.ref b111), .val (.int v43), .val (.int j156_l15), .unset, .unset, .unset, .unset] [(.ref b111)])) target
      refine XS.iload X_M156.here hx rfl (hb hby at_158) rfl ?_
      exact kt
    obtain ⟨cqg160, kqg160, qg160a, qg160b, qg160c⟩ := isOf hZ e_M156 F_57
    obtain ⟨_, _, ⟨Tg160, Lg160, kg160, ng160⟩, -, Xg160, ⟨Lcg160, hQg160, lg160, yg160, zg160⟩, stg160⟩ := X_M156.virtualBack hx (y := (⟨"com/example/wireform/wireform/wire/WireReader", "endMessage", "(I)V"⟩ : MethodName)) (z := (⟨"com/example/wireform/wireform/wire/WireReader", "endMessage", "(I)V"⟩ : MethodName)) hown (mvT hZ (hw _ (List.mem_of_getElem? (i := 63) rfl))) (mvT hZ (hw _ (List.mem_of_getElem? (i := 64) rfl))) (notFace_of_selects (args := #[]) (mvT hZ (hw _ (List.mem_of_getElem? (i := 66) rfl)))) (mvT hZ (hw _ (List.mem_of_getElem? (i := 66) rfl))) (mvT hZ (hw _ (List.mem_of_getElem? (i := 65) rfl))) (by decide) (backOf (W := 0) (own_rm11 l Z a0 hw [] b111 v43 b74 v43 b85 w128_limit j156_f_b111_position (1 : Int32) w128_depth h_M156 n0 Z_M156 F_57 F_58 F_59 F_60 F_61 F_62 F_54 F_55 F_56 g_b111 g_b85 (Ne.symm ne_b85_b111)) hZ (hw _ (List.mem_of_getElem? (i := 67) rfl)) (hw _ (List.mem_of_getElem? (i := 14) rfl)) (by decide) (by decide)) qg160a qg160c (g := (mkF m 160 #[.val (.int p0), .val (.int p1), .val (.int p2), .val (.int p3), .val (.int p4), .val (.int (1 : Int32)), .val (.int (0 : Int32)), .val (.int (0 : Int32)), .val (.int v43), .val (.int v51), .val (.int (own_b (¬ ((p4 &&& (1 : Int32)) = (0 : Int32)) ∧ (¬ (v51 < (1 : Int32)))))), .val (.ref b74), .val (.ref b85), .val (.ref b111), .val (.int v43), .val (.int j156_l15), .unset, .unset, .unset, .unset] [(.int v43), (.ref b111)])) rfl (by rw [hml]; rfl) (Steps.refl _) (argsL := [(.int v43)]) (rest := []) (lenOf own_pd4 rfl) rfl (by show 2 * 0 + _ ≤ _; exact Nat.le_of_eq rfl) (hb hby at_160) (fun _ _ => ⟨rfl, e_M156, (by decide : 3 + 0 ≤ _), (by decide : 11 + 0 ≤ _)⟩)
    dsimp only [Pt.U, Pt.locs, Pt.cells, Pt.slots] at Xg160 lg160 yg160 zg160 stg160 hQg160
    subst lg160 yg160 zg160
    obtain ⟨rfl, Ng160q, Kg160, F_63, F_64, F_65, F_66, F_67, F_68, F_69, F_70, F_71⟩ := hQg160
    have F_72 := F_53.keep Kg160 (ninS ne_b74_b111 (ninS ne_b74_b85 nin0))
    have Zz_8 : n0 ≤ Tg160.heap.size := Nat.le_trans Z_M156 Kg160.1
    obtain ⟨w160_depth, hw160_depth⟩ : ∃ z : Int32, z = (w128_depth - (1 : Int32)) := ⟨_, rfl⟩
    have F_73 : Fld Z Tg160.heap b85 "com/example/wireform/wireform/wire/Nesting" "depth" "I" (.int w160_depth) := by subst hw160_depth; exact F_71
    have Ng160 := Fr.app N_M156 Ng160q
    refine own_st (fun _ k => stg160.trans k) ?_
    refine own_st (B := Tg160.setTop (mkF m 165 #[.val (.int p0), .val (.int p1), .val (.int p2), .val (.int p3), .val (.int p4), .val (.int (1 : Int32)), .val (.int (0 : Int32)), .val (.int (0 : Int32)), .val (.int v43), .val (.int v51), .val (.int (own_b (¬ ((p4 &&& (1 : Int32)) = (0 : Int32)) ∧ (¬ (v51 < (1 : Int32)))))), .val (.ref b74), .val (.ref b85), .val (.ref b111), .val (.int v43), .val (.int j156_l15), .unset, .unset, .unset, .unset] [(.ref b111)])) (fun target kt => ?_) ?_
    · show Steps p.tables e below (Tg160.setTop (mkF m 163 #[.val (.int p0), .val (.int p1), .val (.int p2), .val (.int p3), .val (.int p4), .val (.int (1 : Int32)), .val (.int (0 : Int32)), .val (.int (0 : Int32)), .val (.int v43), .val (.int v51), .val (.int (own_b (¬ ((p4 &&& (1 : Int32)) = (0 : Int32)) ∧ (¬ (v51 < (1 : Int32)))))), .val (.ref b74), .val (.ref b85), .val (.ref b111), .val (.int v43), .val (.int j156_l15), .unset, .unset, .unset, .unset] [])) target
      refine XS.aload Xg160.here hx rfl (hb hby at_163) rfl rfl ?_
      exact kt
    obtain ⟨cqg165, kqg165, qg165a, qg165b, qg165c⟩ := isOf hZ rfl F_63
    obtain ⟨_, _, ⟨Tg165, Lg165, kg165, ng165⟩, -, Xg165, ⟨Lcg165, hQg165, lg165, yg165, zg165⟩, stg165⟩ := Xg160.virtualBack hx (y := (⟨"com/example/wireform/wireform/wire/WireReader", "isAtEnd", "()Z"⟩ : MethodName)) (z := (⟨"com/example/wireform/wireform/wire/WireReader", "isAtEnd", "()Z"⟩ : MethodName)) hown (mvT hZ (hw _ (List.mem_of_getElem? (i := 78) rfl))) (mvT hZ (hw _ (List.mem_of_getElem? (i := 79) rfl))) (notFace_of_selects (args := #[]) (mvT hZ (hw _ (List.mem_of_getElem? (i := 81) rfl)))) (mvT hZ (hw _ (List.mem_of_getElem? (i := 81) rfl))) (mvT hZ (hw _ (List.mem_of_getElem? (i := 80) rfl))) (by decide) (backOf (W := 0) (own_rm14 l Z a0 hw [] b111 v43 j156_f_b111_position Tg160.heap n0 Zz_8 F_67 F_68) hZ (hw _ (List.mem_of_getElem? (i := 82) rfl)) (hw _ (List.mem_of_getElem? (i := 14) rfl)) (by decide) (by decide)) qg165a qg165c (g := (mkF m 165 #[.val (.int p0), .val (.int p1), .val (.int p2), .val (.int p3), .val (.int p4), .val (.int (1 : Int32)), .val (.int (0 : Int32)), .val (.int (0 : Int32)), .val (.int v43), .val (.int v51), .val (.int (own_b (¬ ((p4 &&& (1 : Int32)) = (0 : Int32)) ∧ (¬ (v51 < (1 : Int32)))))), .val (.ref b74), .val (.ref b85), .val (.ref b111), .val (.int v43), .val (.int j156_l15), .unset, .unset, .unset, .unset] [(.ref b111)])) rfl (by rw [hml]; rfl) (Steps.refl _) (argsL := []) (rest := []) (lenOf own_pd3 rfl) rfl (by show 2 * 0 + _ ≤ _; exact Nat.le_of_eq rfl) (hb hby at_165) (fun _ _ => ⟨rfl, rfl, (by decide : 3 + 0 ≤ _), (by decide : 11 + 0 ≤ _)⟩)
    dsimp only [Pt.U, Pt.locs, Pt.cells, Pt.slots] at Xg165 lg165 yg165 zg165 stg165 hQg165
    subst lg165 yg165 zg165
    obtain ⟨rfl, Ng165q, eg165⟩ := hQg165
    have Ng165 := Fr.app Ng160 Ng165q
    refine own_st (fun _ k => stg165.trans k) ?_
    refine own_st (B := Tg165.setTop (mkF m 172 #[.val (.int p0), .val (.int p1), .val (.int p2), .val (.int p3), .val (.int p4), .val (.int (1 : Int32)), .val (.int (0 : Int32)), .val (.int (0 : Int32)), .val (.int v43), .val (.int v51), .val (.int (own_b (¬ ((p4 &&& (1 : Int32)) = (0 : Int32)) ∧ (¬ (v51 < (1 : Int32)))))), .val (.ref b74), .val (.ref b85), .val (.ref b111), .val (.int v43), .val (.int j156_l15), .val (.int (own_b (j156_f_b111_position = v43))), .unset, .unset, .unset] [(.ref b85)])) (fun target kt => ?_) ?_
    · show Steps p.tables e below (Tg165.setTop (mkF m 168 #[.val (.int p0), .val (.int p1), .val (.int p2), .val (.int p3), .val (.int p4), .val (.int (1 : Int32)), .val (.int (0 : Int32)), .val (.int (0 : Int32)), .val (.int v43), .val (.int v51), .val (.int (own_b (¬ ((p4 &&& (1 : Int32)) = (0 : Int32)) ∧ (¬ (v51 < (1 : Int32)))))), .val (.ref b74), .val (.ref b85), .val (.ref b111), .val (.int v43), .val (.int j156_l15), .unset, .unset, .unset, .unset] [(.int (own_b (j156_f_b111_position = v43)))])) target
      refine XS.istore Xg165.here hx rfl (hb hby at_168) rfl (l' := #[.val (.int p0), .val (.int p1), .val (.int p2), .val (.int p3), .val (.int p4), .val (.int (1 : Int32)), .val (.int (0 : Int32)), .val (.int (0 : Int32)), .val (.int v43), .val (.int v51), .val (.int (own_b (¬ ((p4 &&& (1 : Int32)) = (0 : Int32)) ∧ (¬ (v51 < (1 : Int32)))))), .val (.ref b74), .val (.ref b85), .val (.ref b111), .val (.int v43), .val (.int j156_l15), .val (.int (own_b (j156_f_b111_position = v43))), .unset, .unset, .unset]) rfl ?_
      show Steps p.tables e below (Tg165.setTop (mkF m 170 #[.val (.int p0), .val (.int p1), .val (.int p2), .val (.int p3), .val (.int p4), .val (.int (1 : Int32)), .val (.int (0 : Int32)), .val (.int (0 : Int32)), .val (.int v43), .val (.int v51), .val (.int (own_b (¬ ((p4 &&& (1 : Int32)) = (0 : Int32)) ∧ (¬ (v51 < (1 : Int32)))))), .val (.ref b74), .val (.ref b85), .val (.ref b111), .val (.int v43), .val (.int j156_l15), .val (.int (own_b (j156_f_b111_position = v43))), .unset, .unset, .unset] [])) target
      refine XS.aload Xg165.here hx rfl (hb hby at_170) rfl rfl ?_
      exact kt
    obtain ⟨cqg172, kqg172, qg172a, qg172b, qg172c⟩ := isOf hZ eg165 F_69
    obtain ⟨_, _, ⟨Tg172, Lg172, kg172, ng172⟩, -, Xg172, ⟨Lcg172, hQg172, lg172, yg172, zg172⟩, stg172⟩ := Xg165.virtualBack hx (y := (⟨"com/example/wireform/wireform/wire/Nesting", "enter", "()Z"⟩ : MethodName)) (z := (⟨"com/example/wireform/wireform/wire/Nesting", "enter", "()Z"⟩ : MethodName)) hown (mvT hZ (hw _ (List.mem_of_getElem? (i := 83) rfl))) (mvT hZ (hw _ (List.mem_of_getElem? (i := 33) rfl))) (notFace_of_selects (args := #[]) (mvT hZ (hw _ (List.mem_of_getElem? (i := 35) rfl)))) (mvT hZ (hw _ (List.mem_of_getElem? (i := 35) rfl))) (mvT hZ (hw _ (List.mem_of_getElem? (i := 34) rfl))) (by decide) (backOf (W := 0) (own_rm5 l Z a0 hw [] b85 (1 : Int32) w160_depth Tg160.heap n0 Zz_8 F_69 F_70 F_73 g_b85) hZ (hw _ (List.mem_of_getElem? (i := 36) rfl)) (hw _ (List.mem_of_getElem? (i := 3) rfl)) (by decide) (by decide)) qg172a qg172c (g := (mkF m 172 #[.val (.int p0), .val (.int p1), .val (.int p2), .val (.int p3), .val (.int p4), .val (.int (1 : Int32)), .val (.int (0 : Int32)), .val (.int (0 : Int32)), .val (.int v43), .val (.int v51), .val (.int (own_b (¬ ((p4 &&& (1 : Int32)) = (0 : Int32)) ∧ (¬ (v51 < (1 : Int32)))))), .val (.ref b74), .val (.ref b85), .val (.ref b111), .val (.int v43), .val (.int j156_l15), .val (.int (own_b (j156_f_b111_position = v43))), .unset, .unset, .unset] [(.ref b85)])) rfl (by rw [hml]; rfl) (Steps.refl _) (argsL := []) (rest := []) (lenOf own_pd3 rfl) rfl (by show 2 * 0 + _ ≤ _; exact Nat.le_of_eq rfl) (hb hby at_172) (fun _ _ => ⟨rfl, eg165, (by decide : 3 + 0 ≤ _), (by decide : 11 + 0 ≤ _)⟩)
    dsimp only [Pt.U, Pt.locs, Pt.cells, Pt.slots] at Xg172 lg172 yg172 zg172 stg172 hQg172
    subst lg172 yg172 zg172
    obtain ⟨rfl, Ng172q, Kg172, F_74, F_75, F_76⟩ := hQg172
    have F_77 := F_72.keep Kg172 (ninS ne_b74_b85 nin0)
    have F_78 := F_63.keep Kg172
    have F_79 := F_64.keep Kg172 (ninS (Ne.symm ne_b85_b111) nin0)
    have F_80 := F_65.keep Kg172 (ninS (Ne.symm ne_b85_b111) nin0)
    have F_81 := F_66.keep Kg172 (ninS (Ne.symm ne_b85_b111) nin0)
    have F_82 := F_67.keep Kg172 (ninS (Ne.symm ne_b85_b111) nin0)
    have F_83 := F_68.keep Kg172 (ninS (Ne.symm ne_b85_b111) nin0)
    have Zz_9 : n0 ≤ Tg172.heap.size := Nat.le_trans Zz_8 Kg172.1
    obtain ⟨w172_depth, hw172_depth⟩ : ∃ z : Int32, z = (if w160_depth = (1 : Int32) then w160_depth else (w160_depth + (1 : Int32))) := ⟨_, rfl⟩
    have F_84 : Fld Z Tg172.heap b85 "com/example/wireform/wireform/wire/Nesting" "depth" "I" (.int w172_depth) := by subst hw172_depth; exact F_76
    have Ng172 := Fr.app Ng165 Ng172q
    refine own_st (fun _ k => stg172.trans k) ?_
    refine own_st (B := Tg172.setTop (mkF m 179 #[.val (.int p0), .val (.int p1), .val (.int p2), .val (.int p3), .val (.int p4), .val (.int (1 : Int32)), .val (.int (0 : Int32)), .val (.int (0 : Int32)), .val (.int v43), .val (.int v51), .val (.int (own_b (¬ ((p4 &&& (1 : Int32)) = (0 : Int32)) ∧ (¬ (v51 < (1 : Int32)))))), .val (.ref b74), .val (.ref b85), .val (.ref b111), .val (.int v43), .val (.int j156_l15), .val (.int (own_b (j156_f_b111_position = v43))), .val (.int (own_b (¬ (w160_depth = (1 : Int32))))), .unset, .unset] [(.ref b85)])) (fun target kt => ?_) ?_
    · show Steps p.tables e below (Tg172.setTop (mkF m 175 #[.val (.int p0), .val (.int p1), .val (.int p2), .val (.int p3), .val (.int p4), .val (.int (1 : Int32)), .val (.int (0 : Int32)), .val (.int (0 : Int32)), .val (.int v43), .val (.int v51), .val (.int (own_b (¬ ((p4 &&& (1 : Int32)) = (0 : Int32)) ∧ (¬ (v51 < (1 : Int32)))))), .val (.ref b74), .val (.ref b85), .val (.ref b111), .val (.int v43), .val (.int j156_l15), .val (.int (own_b (j156_f_b111_position = v43))), .unset, .unset, .unset] [(.int (own_b (¬ (w160_depth = (1 : Int32)))))])) target
      refine XS.istore Xg172.here hx rfl (hb hby at_175) rfl (l' := #[.val (.int p0), .val (.int p1), .val (.int p2), .val (.int p3), .val (.int p4), .val (.int (1 : Int32)), .val (.int (0 : Int32)), .val (.int (0 : Int32)), .val (.int v43), .val (.int v51), .val (.int (own_b (¬ ((p4 &&& (1 : Int32)) = (0 : Int32)) ∧ (¬ (v51 < (1 : Int32)))))), .val (.ref b74), .val (.ref b85), .val (.ref b111), .val (.int v43), .val (.int j156_l15), .val (.int (own_b (j156_f_b111_position = v43))), .val (.int (own_b (¬ (w160_depth = (1 : Int32))))), .unset, .unset]) rfl ?_
      show Steps p.tables e below (Tg172.setTop (mkF m 177 #[.val (.int p0), .val (.int p1), .val (.int p2), .val (.int p3), .val (.int p4), .val (.int (1 : Int32)), .val (.int (0 : Int32)), .val (.int (0 : Int32)), .val (.int v43), .val (.int v51), .val (.int (own_b (¬ ((p4 &&& (1 : Int32)) = (0 : Int32)) ∧ (¬ (v51 < (1 : Int32)))))), .val (.ref b74), .val (.ref b85), .val (.ref b111), .val (.int v43), .val (.int j156_l15), .val (.int (own_b (j156_f_b111_position = v43))), .val (.int (own_b (¬ (w160_depth = (1 : Int32))))), .unset, .unset] [])) target
      refine XS.aload Xg172.here hx rfl (hb hby at_177) rfl rfl ?_
      exact kt
    obtain ⟨cqg179, kqg179, qg179a, qg179b, qg179c⟩ := isOf hZ rfl F_74
    obtain ⟨_, _, ⟨Tg179, Lg179, kg179, ng179⟩, -, Xg179, ⟨Lcg179, hQg179, lg179, yg179, zg179⟩, stg179⟩ := Xg172.virtualBack hx (y := (⟨"com/example/wireform/wireform/wire/Nesting", "enter", "()Z"⟩ : MethodName)) (z := (⟨"com/example/wireform/wireform/wire/Nesting", "enter", "()Z"⟩ : MethodName)) hown (mvT hZ (hw _ (List.mem_of_getElem? (i := 83) rfl))) (mvT hZ (hw _ (List.mem_of_getElem? (i := 33) rfl))) (notFace_of_selects (args := #[]) (mvT hZ (hw _ (List.mem_of_getElem? (i := 35) rfl)))) (mvT hZ (hw _ (List.mem_of_getElem? (i := 35) rfl))) (mvT hZ (hw _ (List.mem_of_getElem? (i := 34) rfl))) (by decide) (backOf (W := 0) (own_rm5 l Z a0 hw [] b85 (1 : Int32) w172_depth Tg172.heap n0 Zz_9 F_74 F_75 F_84 g_b85) hZ (hw _ (List.mem_of_getElem? (i := 36) rfl)) (hw _ (List.mem_of_getElem? (i := 3) rfl)) (by decide) (by decide)) qg179a qg179c (g := (mkF m 179 #[.val (.int p0), .val (.int p1), .val (.int p2), .val (.int p3), .val (.int p4), .val (.int (1 : Int32)), .val (.int (0 : Int32)), .val (.int (0 : Int32)), .val (.int v43), .val (.int v51), .val (.int (own_b (¬ ((p4 &&& (1 : Int32)) = (0 : Int32)) ∧ (¬ (v51 < (1 : Int32)))))), .val (.ref b74), .val (.ref b85), .val (.ref b111), .val (.int v43), .val (.int j156_l15), .val (.int (own_b (j156_f_b111_position = v43))), .val (.int (own_b (¬ (w160_depth = (1 : Int32))))), .unset, .unset] [(.ref b85)])) rfl (by rw [hml]; rfl) (Steps.refl _) (argsL := []) (rest := []) (lenOf own_pd3 rfl) rfl (by show 2 * 0 + _ ≤ _; exact Nat.le_of_eq rfl) (hb hby at_179) (fun _ _ => ⟨rfl, rfl, (by decide : 3 + 0 ≤ _), (by decide : 11 + 0 ≤ _)⟩)
    dsimp only [Pt.U, Pt.locs, Pt.cells, Pt.slots] at Xg179 lg179 yg179 zg179 stg179 hQg179
    subst lg179 yg179 zg179
    obtain ⟨rfl, Ng179q, Kg179, F_85, F_86, F_87⟩ := hQg179
    have F_88 := F_77.keep Kg179 (ninS ne_b74_b85 nin0)
    have F_89 := F_78.keep Kg179
    have F_90 := F_79.keep Kg179 (ninS (Ne.symm ne_b85_b111) nin0)
    have F_91 := F_80.keep Kg179 (ninS (Ne.symm ne_b85_b111) nin0)
    have F_92 := F_81.keep Kg179 (ninS (Ne.symm ne_b85_b111) nin0)
    have F_93 := F_82.keep Kg179 (ninS (Ne.symm ne_b85_b111) nin0)
    have F_94 := F_83.keep Kg179 (ninS (Ne.symm ne_b85_b111) nin0)
    have Zz_10 : n0 ≤ Tg179.heap.size := Nat.le_trans Zz_9 Kg179.1
    obtain ⟨w179_depth, hw179_depth⟩ : ∃ z : Int32, z = (if w172_depth = (1 : Int32) then w172_depth else (w172_depth + (1 : Int32))) := ⟨_, rfl⟩
    have F_95 : Fld Z Tg179.heap b85 "com/example/wireform/wireform/wire/Nesting" "depth" "I" (.int w179_depth) := by subst hw179_depth; exact F_87
    have Ng179 := Fr.app Ng172 Ng179q
    refine own_st (fun _ k => stg179.trans k) ?_
    refine own_st (B := Tg179.setTop (mkF m 186 #[.val (.int p0), .val (.int p1), .val (.int p2), .val (.int p3), .val (.int p4), .val (.int (1 : Int32)), .val (.int (0 : Int32)), .val (.int (0 : Int32)), .val (.int v43), .val (.int v51), .val (.int (own_b (¬ ((p4 &&& (1 : Int32)) = (0 : Int32)) ∧ (¬ (v51 < (1 : Int32)))))), .val (.ref b74), .val (.ref b85), .val (.ref b111), .val (.int v43), .val (.int j156_l15), .val (.int (own_b (j156_f_b111_position = v43))), .val (.int (own_b (¬ (w160_depth = (1 : Int32))))), .val (.int (own_b (¬ (w172_depth = (1 : Int32))))), .unset] [(.ref b85)])) (fun target kt => ?_) ?_
    · show Steps p.tables e below (Tg179.setTop (mkF m 182 #[.val (.int p0), .val (.int p1), .val (.int p2), .val (.int p3), .val (.int p4), .val (.int (1 : Int32)), .val (.int (0 : Int32)), .val (.int (0 : Int32)), .val (.int v43), .val (.int v51), .val (.int (own_b (¬ ((p4 &&& (1 : Int32)) = (0 : Int32)) ∧ (¬ (v51 < (1 : Int32)))))), .val (.ref b74), .val (.ref b85), .val (.ref b111), .val (.int v43), .val (.int j156_l15), .val (.int (own_b (j156_f_b111_position = v43))), .val (.int (own_b (¬ (w160_depth = (1 : Int32))))), .unset, .unset] [(.int (own_b (¬ (w172_depth = (1 : Int32)))))])) target
      refine XS.istore Xg179.here hx rfl (hb hby at_182) rfl (l' := #[.val (.int p0), .val (.int p1), .val (.int p2), .val (.int p3), .val (.int p4), .val (.int (1 : Int32)), .val (.int (0 : Int32)), .val (.int (0 : Int32)), .val (.int v43), .val (.int v51), .val (.int (own_b (¬ ((p4 &&& (1 : Int32)) = (0 : Int32)) ∧ (¬ (v51 < (1 : Int32)))))), .val (.ref b74), .val (.ref b85), .val (.ref b111), .val (.int v43), .val (.int j156_l15), .val (.int (own_b (j156_f_b111_position = v43))), .val (.int (own_b (¬ (w160_depth = (1 : Int32))))), .val (.int (own_b (¬ (w172_depth = (1 : Int32))))), .unset]) rfl ?_
      show Steps p.tables e below (Tg179.setTop (mkF m 184 #[.val (.int p0), .val (.int p1), .val (.int p2), .val (.int p3), .val (.int p4), .val (.int (1 : Int32)), .val (.int (0 : Int32)), .val (.int (0 : Int32)), .val (.int v43), .val (.int v51), .val (.int (own_b (¬ ((p4 &&& (1 : Int32)) = (0 : Int32)) ∧ (¬ (v51 < (1 : Int32)))))), .val (.ref b74), .val (.ref b85), .val (.ref b111), .val (.int v43), .val (.int j156_l15), .val (.int (own_b (j156_f_b111_position = v43))), .val (.int (own_b (¬ (w160_depth = (1 : Int32))))), .val (.int (own_b (¬ (w172_depth = (1 : Int32))))), .unset] [])) target
      refine XS.aload Xg179.here hx rfl (hb hby at_184) rfl rfl ?_
      exact kt
    obtain ⟨cqg186, kqg186, qg186a, qg186b, qg186c⟩ := isOf hZ rfl F_85
    obtain ⟨_, _, ⟨Tg186, Lg186, kg186, ng186⟩, -, Xg186, ⟨Lcg186, hQg186, lg186, yg186, zg186⟩, stg186⟩ := Xg179.virtualBack hx (y := (⟨"com/example/wireform/wireform/wire/Nesting", "enter", "()Z"⟩ : MethodName)) (z := (⟨"com/example/wireform/wireform/wire/Nesting", "enter", "()Z"⟩ : MethodName)) hown (mvT hZ (hw _ (List.mem_of_getElem? (i := 83) rfl))) (mvT hZ (hw _ (List.mem_of_getElem? (i := 33) rfl))) (notFace_of_selects (args := #[]) (mvT hZ (hw _ (List.mem_of_getElem? (i := 35) rfl)))) (mvT hZ (hw _ (List.mem_of_getElem? (i := 35) rfl))) (mvT hZ (hw _ (List.mem_of_getElem? (i := 34) rfl))) (by decide) (backOf (W := 0) (own_rm5 l Z a0 hw [] b85 (1 : Int32) w179_depth Tg179.heap n0 Zz_10 F_85 F_86 F_95 g_b85) hZ (hw _ (List.mem_of_getElem? (i := 36) rfl)) (hw _ (List.mem_of_getElem? (i := 3) rfl)) (by decide) (by decide)) qg186a qg186c (g := (mkF m 186 #[.val (.int p0), .val (.int p1), .val (.int p2), .val (.int p3), .val (.int p4), .val (.int (1 : Int32)), .val (.int (0 : Int32)), .val (.int (0 : Int32)), .val (.int v43), .val (.int v51), .val (.int (own_b (¬ ((p4 &&& (1 : Int32)) = (0 : Int32)) ∧ (¬ (v51 < (1 : Int32)))))), .val (.ref b74), .val (.ref b85), .val (.ref b111), .val (.int v43), .val (.int j156_l15), .val (.int (own_b (j156_f_b111_position = v43))), .val (.int (own_b (¬ (w160_depth = (1 : Int32))))), .val (.int (own_b (¬ (w172_depth = (1 : Int32))))), .unset] [(.ref b85)])) rfl (by rw [hml]; rfl) (Steps.refl _) (argsL := []) (rest := []) (lenOf own_pd3 rfl) rfl (by show 2 * 0 + _ ≤ _; exact Nat.le_of_eq rfl) (hb hby at_186) (fun _ _ => ⟨rfl, rfl, (by decide : 3 + 0 ≤ _), (by decide : 11 + 0 ≤ _)⟩)
    dsimp only [Pt.U, Pt.locs, Pt.cells, Pt.slots] at Xg186 lg186 yg186 zg186 stg186 hQg186
    subst lg186 yg186 zg186
    obtain ⟨rfl, Ng186q, Kg186, F_96, F_97, F_98⟩ := hQg186
    have F_99 := F_88.keep Kg186 (ninS ne_b74_b85 nin0)
    have F_100 := F_89.keep Kg186
    have F_101 := F_90.keep Kg186 (ninS (Ne.symm ne_b85_b111) nin0)
    have F_102 := F_91.keep Kg186 (ninS (Ne.symm ne_b85_b111) nin0)
    have F_103 := F_92.keep Kg186 (ninS (Ne.symm ne_b85_b111) nin0)
    have F_104 := F_93.keep Kg186 (ninS (Ne.symm ne_b85_b111) nin0)
    have F_105 := F_94.keep Kg186 (ninS (Ne.symm ne_b85_b111) nin0)
    have Zz_11 : n0 ≤ Tg186.heap.size := Nat.le_trans Zz_10 Kg186.1
    obtain ⟨w186_depth, hw186_depth⟩ : ∃ z : Int32, z = (if w179_depth = (1 : Int32) then w179_depth else (w179_depth + (1 : Int32))) := ⟨_, rfl⟩
    have F_106 : Fld Z Tg186.heap b85 "com/example/wireform/wireform/wire/Nesting" "depth" "I" (.int w186_depth) := by subst hw186_depth; exact F_98
    have Ng186 := Fr.app Ng179 Ng186q
    refine own_st (fun _ k => stg186.trans k) ?_
    refine own_st (B := Tg186.setTop (mkF m 197 #[.val (.int p0), .val (.int p1), .val (.int p2), .val (.int p3), .val (.int p4), .val (.int (1 : Int32)), .val (.int (0 : Int32)), .val (.int (0 : Int32)), .val (.int v43), .val (.int v51), .val (.int (own_b (¬ ((p4 &&& (1 : Int32)) = (0 : Int32)) ∧ (¬ (v51 < (1 : Int32)))))), .val (.ref b74), .val (.ref b85), .val (.ref b111), .val (.int v43), .val (.int j156_l15), .val (.int (own_b (j156_f_b111_position = v43))), .val (.int (own_b (¬ (w160_depth = (1 : Int32))))), .val (.int (own_b (¬ (w172_depth = (1 : Int32))))), .val (.int (own_b (¬ (w179_depth = (1 : Int32)))))] [(.int v43), (.int j156_l15), (.int (own_b (j156_f_b111_position = v43)))])) (fun target kt => ?_) ?_
    · show Steps p.tables e below (Tg186.setTop (mkF m 189 #[.val (.int p0), .val (.int p1), .val (.int p2), .val (.int p3), .val (.int p4), .val (.int (1 : Int32)), .val (.int (0 : Int32)), .val (.int (0 : Int32)), .val (.int v43), .val (.int v51), .val (.int (own_b (¬ ((p4 &&& (1 : Int32)) = (0 : Int32)) ∧ (¬ (v51 < (1 : Int32)))))), .val (.ref b74), .val (.ref b85), .val (.ref b111), .val (.int v43), .val (.int j156_l15), .val (.int (own_b (j156_f_b111_position = v43))), .val (.int (own_b (¬ (w160_depth = (1 : Int32))))), .val (.int (own_b (¬ (w172_depth = (1 : Int32))))), .unset] [(.int (own_b (¬ (w179_depth = (1 : Int32)))))])) target
      refine XS.istore Xg186.here hx rfl (hb hby at_189) rfl (l' := #[.val (.int p0), .val (.int p1), .val (.int p2), .val (.int p3), .val (.int p4), .val (.int (1 : Int32)), .val (.int (0 : Int32)), .val (.int (0 : Int32)), .val (.int v43), .val (.int v51), .val (.int (own_b (¬ ((p4 &&& (1 : Int32)) = (0 : Int32)) ∧ (¬ (v51 < (1 : Int32)))))), .val (.ref b74), .val (.ref b85), .val (.ref b111), .val (.int v43), .val (.int j156_l15), .val (.int (own_b (j156_f_b111_position = v43))), .val (.int (own_b (¬ (w160_depth = (1 : Int32))))), .val (.int (own_b (¬ (w172_depth = (1 : Int32))))), .val (.int (own_b (¬ (w179_depth = (1 : Int32)))))]) rfl ?_
      show Steps p.tables e below (Tg186.setTop (mkF m 191 #[.val (.int p0), .val (.int p1), .val (.int p2), .val (.int p3), .val (.int p4), .val (.int (1 : Int32)), .val (.int (0 : Int32)), .val (.int (0 : Int32)), .val (.int v43), .val (.int v51), .val (.int (own_b (¬ ((p4 &&& (1 : Int32)) = (0 : Int32)) ∧ (¬ (v51 < (1 : Int32)))))), .val (.ref b74), .val (.ref b85), .val (.ref b111), .val (.int v43), .val (.int j156_l15), .val (.int (own_b (j156_f_b111_position = v43))), .val (.int (own_b (¬ (w160_depth = (1 : Int32))))), .val (.int (own_b (¬ (w172_depth = (1 : Int32))))), .val (.int (own_b (¬ (w179_depth = (1 : Int32)))))] [])) target
      refine XS.iload Xg186.here hx rfl (hb hby at_191) rfl ?_
      show Steps p.tables e below (Tg186.setTop (mkF m 193 #[.val (.int p0), .val (.int p1), .val (.int p2), .val (.int p3), .val (.int p4), .val (.int (1 : Int32)), .val (.int (0 : Int32)), .val (.int (0 : Int32)), .val (.int v43), .val (.int v51), .val (.int (own_b (¬ ((p4 &&& (1 : Int32)) = (0 : Int32)) ∧ (¬ (v51 < (1 : Int32)))))), .val (.ref b74), .val (.ref b85), .val (.ref b111), .val (.int v43), .val (.int j156_l15), .val (.int (own_b (j156_f_b111_position = v43))), .val (.int (own_b (¬ (w160_depth = (1 : Int32))))), .val (.int (own_b (¬ (w172_depth = (1 : Int32))))), .val (.int (own_b (¬ (w179_depth = (1 : Int32)))))] [(.int (own_b (j156_f_b111_position = v43)))])) target
      refine XS.iload Xg186.here hx rfl (hb hby at_193) rfl ?_
      show Steps p.tables e below (Tg186.setTop (mkF m 195 #[.val (.int p0), .val (.int p1), .val (.int p2), .val (.int p3), .val (.int p4), .val (.int (1 : Int32)), .val (.int (0 : Int32)), .val (.int (0 : Int32)), .val (.int v43), .val (.int v51), .val (.int (own_b (¬ ((p4 &&& (1 : Int32)) = (0 : Int32)) ∧ (¬ (v51 < (1 : Int32)))))), .val (.ref b74), .val (.ref b85), .val (.ref b111), .val (.int v43), .val (.int j156_l15), .val (.int (own_b (j156_f_b111_position = v43))), .val (.int (own_b (¬ (w160_depth = (1 : Int32))))), .val (.int (own_b (¬ (w172_depth = (1 : Int32))))), .val (.int (own_b (¬ (w179_depth = (1 : Int32)))))] [(.int j156_l15), (.int (own_b (j156_f_b111_position = v43)))])) target
      refine XS.iload Xg186.here hx rfl (hb hby at_195) rfl ?_
      exact kt
    obtain ⟨_, ⟨j205_s0, rfl, rfl⟩, st_M205⟩ : own_Lead p.tables e below (Tg186.setTop (mkF m 197 #[.val (.int p0), .val (.int p1), .val (.int p2), .val (.int p3), .val (.int p4), .val (.int (1 : Int32)), .val (.int (0 : Int32)), .val (.int (0 : Int32)), .val (.int v43), .val (.int v51), .val (.int (own_b (¬ ((p4 &&& (1 : Int32)) = (0 : Int32)) ∧ (¬ (v51 < (1 : Int32)))))), .val (.ref b74), .val (.ref b85), .val (.ref b111), .val (.int v43), .val (.int j156_l15), .val (.int (own_b (j156_f_b111_position = v43))), .val (.int (own_b (¬ (w160_depth = (1 : Int32))))), .val (.int (own_b (¬ (w172_depth = (1 : Int32))))), .val (.int (own_b (¬ (w179_depth = (1 : Int32)))))] [(.int v43), (.int j156_l15), (.int (own_b (j156_f_b111_position = v43)))])) (fun B => ∃ (j205_s0 : Int32), B = Tg186.setTop (mkF m 205 #[.val (.int p0), .val (.int p1), .val (.int p2), .val (.int p3), .val (.int p4), .val (.int (1 : Int32)), .val (.int (0 : Int32)), .val (.int (0 : Int32)), .val (.int v43), .val (.int v51), .val (.int (own_b (¬ ((p4 &&& (1 : Int32)) = (0 : Int32)) ∧ (¬ (v51 < (1 : Int32)))))), .val (.ref b74), .val (.ref b85), .val (.ref b111), .val (.int v43), .val (.int j156_l15), .val (.int (own_b (j156_f_b111_position = v43))), .val (.int (own_b (¬ (w160_depth = (1 : Int32))))), .val (.int (own_b (¬ (w172_depth = (1 : Int32))))), .val (.int (own_b (¬ (w179_depth = (1 : Int32)))))] [(.int j205_s0), (.int (own_b (j156_f_b111_position = v43)))]) ∧ j205_s0 = own_b (j156_l15 = v43)) := by
      by_cases c197 : j156_l15 = v43
      · refine own_st (B := Tg186.setTop (mkF m 205 #[.val (.int p0), .val (.int p1), .val (.int p2), .val (.int p3), .val (.int p4), .val (.int (1 : Int32)), .val (.int (0 : Int32)), .val (.int (0 : Int32)), .val (.int v43), .val (.int v51), .val (.int (own_b (¬ ((p4 &&& (1 : Int32)) = (0 : Int32)) ∧ (¬ (v51 < (1 : Int32)))))), .val (.ref b74), .val (.ref b85), .val (.ref b111), .val (.int v43), .val (.int j156_l15), .val (.int (own_b (j156_f_b111_position = v43))), .val (.int (own_b (¬ (w160_depth = (1 : Int32))))), .val (.int (own_b (¬ (w172_depth = (1 : Int32))))), .val (.int (own_b (¬ (w179_depth = (1 : Int32)))))] [(.int (1 : Int32)), (.int (own_b (j156_f_b111_position = v43)))])) (fun target kt => ?_) ?_
        · show Steps p.tables e below (Tg186.setTop (mkF m 197 #[.val (.int p0), .val (.int p1), .val (.int p2), .val (.int p3), .val (.int p4), .val (.int (1 : Int32)), .val (.int (0 : Int32)), .val (.int (0 : Int32)), .val (.int v43), .val (.int v51), .val (.int (own_b (¬ ((p4 &&& (1 : Int32)) = (0 : Int32)) ∧ (¬ (v51 < (1 : Int32)))))), .val (.ref b74), .val (.ref b85), .val (.ref b111), .val (.int v43), .val (.int j156_l15), .val (.int (own_b (j156_f_b111_position = v43))), .val (.int (own_b (¬ (w160_depth = (1 : Int32))))), .val (.int (own_b (¬ (w172_depth = (1 : Int32))))), .val (.int (own_b (¬ (w179_depth = (1 : Int32)))))] [(.int v43), (.int j156_l15), (.int (own_b (j156_f_b111_position = v43)))])) target
          refine XS.icmpNo Xg186.here hx rfl (hb hby at_197) rfl (teq c197).2 ?_
          show Steps p.tables e below (Tg186.setTop (mkF m 200 #[.val (.int p0), .val (.int p1), .val (.int p2), .val (.int p3), .val (.int p4), .val (.int (1 : Int32)), .val (.int (0 : Int32)), .val (.int (0 : Int32)), .val (.int v43), .val (.int v51), .val (.int (own_b (¬ ((p4 &&& (1 : Int32)) = (0 : Int32)) ∧ (¬ (v51 < (1 : Int32)))))), .val (.ref b74), .val (.ref b85), .val (.ref b111), .val (.int v43), .val (.int j156_l15), .val (.int (own_b (j156_f_b111_position = v43))), .val (.int (own_b (¬ (w160_depth = (1 : Int32))))), .val (.int (own_b (¬ (w172_depth = (1 : Int32))))), .val (.int (own_b (¬ (w179_depth = (1 : Int32)))))] [(.int (own_b (j156_f_b111_position = v43)))])) target
          refine XS.iconst Xg186.here hx rfl (hb hby at_200) ?_
          show Steps p.tables e below (Tg186.setTop (mkF m 201 #[.val (.int p0), .val (.int p1), .val (.int p2), .val (.int p3), .val (.int p4), .val (.int (1 : Int32)), .val (.int (0 : Int32)), .val (.int (0 : Int32)), .val (.int v43), .val (.int v51), .val (.int (own_b (¬ ((p4 &&& (1 : Int32)) = (0 : Int32)) ∧ (¬ (v51 < (1 : Int32)))))), .val (.ref b74), .val (.ref b85), .val (.ref b111), .val (.int v43), .val (.int j156_l15), .val (.int (own_b (j156_f_b111_position = v43))), .val (.int (own_b (¬ (w160_depth = (1 : Int32))))), .val (.int (own_b (¬ (w172_depth = (1 : Int32))))), .val (.int (own_b (¬ (w179_depth = (1 : Int32)))))] [(.int (1 : Int32)), (.int (own_b (j156_f_b111_position = v43)))])) target
          refine XS.goto Xg186.here hx rfl (pc0 := 201) (pc' := 205) rfl (hb hby at_201) (by decide) (by decide) ?_
          exact kt
        exact ⟨_, ⟨(1 : Int32), rfl, (own_b1 c197).symm⟩, fun _ k => k⟩
      · refine own_st (B := Tg186.setTop (mkF m 205 #[.val (.int p0), .val (.int p1), .val (.int p2), .val (.int p3), .val (.int p4), .val (.int (1 : Int32)), .val (.int (0 : Int32)), .val (.int (0 : Int32)), .val (.int v43), .val (.int v51), .val (.int (own_b (¬ ((p4 &&& (1 : Int32)) = (0 : Int32)) ∧ (¬ (v51 < (1 : Int32)))))), .val (.ref b74), .val (.ref b85), .val (.ref b111), .val (.int v43), .val (.int j156_l15), .val (.int (own_b (j156_f_b111_position = v43))), .val (.int (own_b (¬ (w160_depth = (1 : Int32))))), .val (.int (own_b (¬ (w172_depth = (1 : Int32))))), .val (.int (own_b (¬ (w179_depth = (1 : Int32)))))] [(.int (0 : Int32)), (.int (own_b (j156_f_b111_position = v43)))])) (fun target kt => ?_) ?_
        · show Steps p.tables e below (Tg186.setTop (mkF m 197 #[.val (.int p0), .val (.int p1), .val (.int p2), .val (.int p3), .val (.int p4), .val (.int (1 : Int32)), .val (.int (0 : Int32)), .val (.int (0 : Int32)), .val (.int v43), .val (.int v51), .val (.int (own_b (¬ ((p4 &&& (1 : Int32)) = (0 : Int32)) ∧ (¬ (v51 < (1 : Int32)))))), .val (.ref b74), .val (.ref b85), .val (.ref b111), .val (.int v43), .val (.int j156_l15), .val (.int (own_b (j156_f_b111_position = v43))), .val (.int (own_b (¬ (w160_depth = (1 : Int32))))), .val (.int (own_b (¬ (w172_depth = (1 : Int32))))), .val (.int (own_b (¬ (w179_depth = (1 : Int32)))))] [(.int v43), (.int j156_l15), (.int (own_b (j156_f_b111_position = v43)))])) target
          refine XS.icmpYes Xg186.here hx rfl (pc0 := 197) (pc' := 204) rfl (hb hby at_197) rfl (feq c197).2 (by decide) (by decide) ?_
          show Steps p.tables e below (Tg186.setTop (mkF m 204 #[.val (.int p0), .val (.int p1), .val (.int p2), .val (.int p3), .val (.int p4), .val (.int (1 : Int32)), .val (.int (0 : Int32)), .val (.int (0 : Int32)), .val (.int v43), .val (.int v51), .val (.int (own_b (¬ ((p4 &&& (1 : Int32)) = (0 : Int32)) ∧ (¬ (v51 < (1 : Int32)))))), .val (.ref b74), .val (.ref b85), .val (.ref b111), .val (.int v43), .val (.int j156_l15), .val (.int (own_b (j156_f_b111_position = v43))), .val (.int (own_b (¬ (w160_depth = (1 : Int32))))), .val (.int (own_b (¬ (w172_depth = (1 : Int32))))), .val (.int (own_b (¬ (w179_depth = (1 : Int32)))))] [(.int (own_b (j156_f_b111_position = v43)))])) target
          refine XS.iconst Xg186.here hx rfl (hb hby at_204) ?_
          exact kt
        exact ⟨_, ⟨(0 : Int32), rfl, (own_b0 c197).symm⟩, fun _ k => k⟩
    refine own_st st_M205 ?_
    have c205 : (j156_f_b111_position = v43) ↔ (j156_l15 = v43) := by
      rw [hj156_f_b111_position, hj156_l15, hw128_position]
      exact Iff.rfl
    refine own_st (B := Tg186.setTop (mkF m 222 #[.val (.int p0), .val (.int p1), .val (.int p2), .val (.int p3), .val (.int p4), .val (.int (1 : Int32)), .val (.int (0 : Int32)), .val (.int (0 : Int32)), .val (.int v43), .val (.int v51), .val (.int (own_b (¬ ((p4 &&& (1 : Int32)) = (0 : Int32)) ∧ (¬ (v51 < (1 : Int32)))))), .val (.ref b74), .val (.ref b85), .val (.ref b111), .val (.int v43), .val (.int j156_l15), .val (.int (own_b (j156_f_b111_position = v43))), .val (.int (own_b (¬ (w160_depth = (1 : Int32))))), .val (.int (own_b (¬ (w172_depth = (1 : Int32))))), .val (.int (own_b (¬ (w179_depth = (1 : Int32)))))] [(.int (1 : Int32)), (.int (own_b (¬ (w160_depth = (1 : Int32)))))])) (fun target kt => ?_) ?_
    · show Steps p.tables e below (Tg186.setTop (mkF m 205 #[.val (.int p0), .val (.int p1), .val (.int p2), .val (.int p3), .val (.int p4), .val (.int (1 : Int32)), .val (.int (0 : Int32)), .val (.int (0 : Int32)), .val (.int v43), .val (.int v51), .val (.int (own_b (¬ ((p4 &&& (1 : Int32)) = (0 : Int32)) ∧ (¬ (v51 < (1 : Int32)))))), .val (.ref b74), .val (.ref b85), .val (.ref b111), .val (.int v43), .val (.int j156_l15), .val (.int (own_b (j156_f_b111_position = v43))), .val (.int (own_b (¬ (w160_depth = (1 : Int32))))), .val (.int (own_b (¬ (w172_depth = (1 : Int32))))), .val (.int (own_b (¬ (w179_depth = (1 : Int32)))))] [(.int (own_b (j156_l15 = v43))), (.int (own_b (j156_f_b111_position = v43)))])) target
      refine XS.icmpNo Xg186.here hx rfl (hb hby at_205) rfl (teq (own_bb rfl rfl c205)).2 ?_
      show Steps p.tables e below (Tg186.setTop (mkF m 208 #[.val (.int p0), .val (.int p1), .val (.int p2), .val (.int p3), .val (.int p4), .val (.int (1 : Int32)), .val (.int (0 : Int32)), .val (.int (0 : Int32)), .val (.int v43), .val (.int v51), .val (.int (own_b (¬ ((p4 &&& (1 : Int32)) = (0 : Int32)) ∧ (¬ (v51 < (1 : Int32)))))), .val (.ref b74), .val (.ref b85), .val (.ref b111), .val (.int v43), .val (.int j156_l15), .val (.int (own_b (j156_f_b111_position = v43))), .val (.int (own_b (¬ (w160_depth = (1 : Int32))))), .val (.int (own_b (¬ (w172_depth = (1 : Int32))))), .val (.int (own_b (¬ (w179_depth = (1 : Int32)))))] [])) target
      refine XS.iload Xg186.here hx rfl (hb hby at_208) rfl ?_
      show Steps p.tables e below (Tg186.setTop (mkF m 210 #[.val (.int p0), .val (.int p1), .val (.int p2), .val (.int p3), .val (.int p4), .val (.int (1 : Int32)), .val (.int (0 : Int32)), .val (.int (0 : Int32)), .val (.int v43), .val (.int v51), .val (.int (own_b (¬ ((p4 &&& (1 : Int32)) = (0 : Int32)) ∧ (¬ (v51 < (1 : Int32)))))), .val (.ref b74), .val (.ref b85), .val (.ref b111), .val (.int v43), .val (.int j156_l15), .val (.int (own_b (j156_f_b111_position = v43))), .val (.int (own_b (¬ (w160_depth = (1 : Int32))))), .val (.int (own_b (¬ (w172_depth = (1 : Int32))))), .val (.int (own_b (¬ (w179_depth = (1 : Int32)))))] [(.int (own_b (¬ (w160_depth = (1 : Int32)))))])) target
      refine XS.iload Xg186.here hx rfl (hb hby at_210) rfl ?_
      show Steps p.tables e below (Tg186.setTop (mkF m 212 #[.val (.int p0), .val (.int p1), .val (.int p2), .val (.int p3), .val (.int p4), .val (.int (1 : Int32)), .val (.int (0 : Int32)), .val (.int (0 : Int32)), .val (.int v43), .val (.int v51), .val (.int (own_b (¬ ((p4 &&& (1 : Int32)) = (0 : Int32)) ∧ (¬ (v51 < (1 : Int32)))))), .val (.ref b74), .val (.ref b85), .val (.ref b111), .val (.int v43), .val (.int j156_l15), .val (.int (own_b (j156_f_b111_position = v43))), .val (.int (own_b (¬ (w160_depth = (1 : Int32))))), .val (.int (own_b (¬ (w172_depth = (1 : Int32))))), .val (.int (own_b (¬ (w179_depth = (1 : Int32)))))] [(.int (0 : Int32)), (.int (own_b (¬ (w160_depth = (1 : Int32)))))])) target
      refine XS.iload Xg186.here hx rfl (hb hby at_212) rfl ?_
      show Steps p.tables e below (Tg186.setTop (mkF m 214 #[.val (.int p0), .val (.int p1), .val (.int p2), .val (.int p3), .val (.int p4), .val (.int (1 : Int32)), .val (.int (0 : Int32)), .val (.int (0 : Int32)), .val (.int v43), .val (.int v51), .val (.int (own_b (¬ ((p4 &&& (1 : Int32)) = (0 : Int32)) ∧ (¬ (v51 < (1 : Int32)))))), .val (.ref b74), .val (.ref b85), .val (.ref b111), .val (.int v43), .val (.int j156_l15), .val (.int (own_b (j156_f_b111_position = v43))), .val (.int (own_b (¬ (w160_depth = (1 : Int32))))), .val (.int (own_b (¬ (w172_depth = (1 : Int32))))), .val (.int (own_b (¬ (w179_depth = (1 : Int32)))))] [(.int (1 : Int32)), (.int (0 : Int32)), (.int (own_b (¬ (w160_depth = (1 : Int32)))))])) target
      refine XS.icmpNo Xg186.here hx rfl (hb hby at_214) rfl (tlt (by decide : (0 : Int32) < (1 : Int32))).2.1 ?_
      show Steps p.tables e below (Tg186.setTop (mkF m 217 #[.val (.int p0), .val (.int p1), .val (.int p2), .val (.int p3), .val (.int p4), .val (.int (1 : Int32)), .val (.int (0 : Int32)), .val (.int (0 : Int32)), .val (.int v43), .val (.int v51), .val (.int (own_b (¬ ((p4 &&& (1 : Int32)) = (0 : Int32)) ∧ (¬ (v51 < (1 : Int32)))))), .val (.ref b74), .val (.ref b85), .val (.ref b111), .val (.int v43), .val (.int j156_l15), .val (.int (own_b (j156_f_b111_position = v43))), .val (.int (own_b (¬ (w160_depth = (1 : Int32))))), .val (.int (own_b (¬ (w172_depth = (1 : Int32))))), .val (.int (own_b (¬ (w179_depth = (1 : Int32)))))] [(.int (own_b (¬ (w160_depth = (1 : Int32)))))])) target
      refine XS.iconst Xg186.here hx rfl (hb hby at_217) ?_
      show Steps p.tables e below (Tg186.setTop (mkF m 218 #[.val (.int p0), .val (.int p1), .val (.int p2), .val (.int p3), .val (.int p4), .val (.int (1 : Int32)), .val (.int (0 : Int32)), .val (.int (0 : Int32)), .val (.int v43), .val (.int v51), .val (.int (own_b (¬ ((p4 &&& (1 : Int32)) = (0 : Int32)) ∧ (¬ (v51 < (1 : Int32)))))), .val (.ref b74), .val (.ref b85), .val (.ref b111), .val (.int v43), .val (.int j156_l15), .val (.int (own_b (j156_f_b111_position = v43))), .val (.int (own_b (¬ (w160_depth = (1 : Int32))))), .val (.int (own_b (¬ (w172_depth = (1 : Int32))))), .val (.int (own_b (¬ (w179_depth = (1 : Int32)))))] [(.int (1 : Int32)), (.int (own_b (¬ (w160_depth = (1 : Int32)))))])) target
      refine XS.goto Xg186.here hx rfl (pc0 := 218) (pc' := 222) rfl (hb hby at_218) (by decide) (by decide) ?_
      exact kt
    have c222 : ¬ (w160_depth = (1 : Int32)) := by
      simp only [hw186_depth, hw179_depth, hw172_depth, hw160_depth, hw128_depth]
      decide
    refine own_st (B := Tg186.setTop (mkF m 241 #[.val (.int p0), .val (.int p1), .val (.int p2), .val (.int p3), .val (.int p4), .val (.int (1 : Int32)), .val (.int (0 : Int32)), .val (.int (0 : Int32)), .val (.int v43), .val (.int v51), .val (.int (own_b (¬ ((p4 &&& (1 : Int32)) = (0 : Int32)) ∧ (¬ (v51 < (1 : Int32)))))), .val (.ref b74), .val (.ref b85), .val (.ref b111), .val (.int v43), .val (.int j156_l15), .val (.int (own_b (j156_f_b111_position = v43))), .val (.int (own_b (¬ (w160_depth = (1 : Int32))))), .val (.int (own_b (¬ (w172_depth = (1 : Int32))))), .val (.int (own_b (¬ (w179_depth = (1 : Int32)))))] [(.int (0 : Int32)), (.int (own_b (¬ (w172_depth = (1 : Int32)))))])) (fun target kt => ?_) ?_
    · show Steps p.tables e below (Tg186.setTop (mkF m 222 #[.val (.int p0), .val (.int p1), .val (.int p2), .val (.int p3), .val (.int p4), .val (.int (1 : Int32)), .val (.int (0 : Int32)), .val (.int (0 : Int32)), .val (.int v43), .val (.int v51), .val (.int (own_b (¬ ((p4 &&& (1 : Int32)) = (0 : Int32)) ∧ (¬ (v51 < (1 : Int32)))))), .val (.ref b74), .val (.ref b85), .val (.ref b111), .val (.int v43), .val (.int j156_l15), .val (.int (own_b (j156_f_b111_position = v43))), .val (.int (own_b (¬ (w160_depth = (1 : Int32))))), .val (.int (own_b (¬ (w172_depth = (1 : Int32))))), .val (.int (own_b (¬ (w179_depth = (1 : Int32)))))] [(.int (1 : Int32)), (.int (own_b (¬ (w160_depth = (1 : Int32)))))])) target
      refine XS.icmpNo Xg186.here hx rfl (hb hby at_222) rfl (teq (own_be1 rfl c222)).2 ?_
      show Steps p.tables e below (Tg186.setTop (mkF m 225 #[.val (.int p0), .val (.int p1), .val (.int p2), .val (.int p3), .val (.int p4), .val (.int (1 : Int32)), .val (.int (0 : Int32)), .val (.int (0 : Int32)), .val (.int v43), .val (.int v51), .val (.int (own_b (¬ ((p4 &&& (1 : Int32)) = (0 : Int32)) ∧ (¬ (v51 < (1 : Int32)))))), .val (.ref b74), .val (.ref b85), .val (.ref b111), .val (.int v43), .val (.int j156_l15), .val (.int (own_b (j156_f_b111_position = v43))), .val (.int (own_b (¬ (w160_depth = (1 : Int32))))), .val (.int (own_b (¬ (w172_depth = (1 : Int32))))), .val (.int (own_b (¬ (w179_depth = (1 : Int32)))))] [])) target
      refine XS.iload Xg186.here hx rfl (hb hby at_225) rfl ?_
      show Steps p.tables e below (Tg186.setTop (mkF m 227 #[.val (.int p0), .val (.int p1), .val (.int p2), .val (.int p3), .val (.int p4), .val (.int (1 : Int32)), .val (.int (0 : Int32)), .val (.int (0 : Int32)), .val (.int v43), .val (.int v51), .val (.int (own_b (¬ ((p4 &&& (1 : Int32)) = (0 : Int32)) ∧ (¬ (v51 < (1 : Int32)))))), .val (.ref b74), .val (.ref b85), .val (.ref b111), .val (.int v43), .val (.int j156_l15), .val (.int (own_b (j156_f_b111_position = v43))), .val (.int (own_b (¬ (w160_depth = (1 : Int32))))), .val (.int (own_b (¬ (w172_depth = (1 : Int32))))), .val (.int (own_b (¬ (w179_depth = (1 : Int32)))))] [(.int (own_b (¬ (w172_depth = (1 : Int32)))))])) target
      refine XS.iload Xg186.here hx rfl (hb hby at_227) rfl ?_
      show Steps p.tables e below (Tg186.setTop (mkF m 229 #[.val (.int p0), .val (.int p1), .val (.int p2), .val (.int p3), .val (.int p4), .val (.int (1 : Int32)), .val (.int (0 : Int32)), .val (.int (0 : Int32)), .val (.int v43), .val (.int v51), .val (.int (own_b (¬ ((p4 &&& (1 : Int32)) = (0 : Int32)) ∧ (¬ (v51 < (1 : Int32)))))), .val (.ref b74), .val (.ref b85), .val (.ref b111), .val (.int v43), .val (.int j156_l15), .val (.int (own_b (j156_f_b111_position = v43))), .val (.int (own_b (¬ (w160_depth = (1 : Int32))))), .val (.int (own_b (¬ (w172_depth = (1 : Int32))))), .val (.int (own_b (¬ (w179_depth = (1 : Int32)))))] [(.int (0 : Int32)), (.int (own_b (¬ (w172_depth = (1 : Int32)))))])) target
      refine XS.iconst Xg186.here hx rfl (hb hby at_229) ?_
      show Steps p.tables e below (Tg186.setTop (mkF m 230 #[.val (.int p0), .val (.int p1), .val (.int p2), .val (.int p3), .val (.int p4), .val (.int (1 : Int32)), .val (.int (0 : Int32)), .val (.int (0 : Int32)), .val (.int v43), .val (.int v51), .val (.int (own_b (¬ ((p4 &&& (1 : Int32)) = (0 : Int32)) ∧ (¬ (v51 < (1 : Int32)))))), .val (.ref b74), .val (.ref b85), .val (.ref b111), .val (.int v43), .val (.int j156_l15), .val (.int (own_b (j156_f_b111_position = v43))), .val (.int (own_b (¬ (w160_depth = (1 : Int32))))), .val (.int (own_b (¬ (w172_depth = (1 : Int32))))), .val (.int (own_b (¬ (w179_depth = (1 : Int32)))))] [(.int (1 : Int32)), (.int (0 : Int32)), (.int (own_b (¬ (w172_depth = (1 : Int32)))))])) target
      refine XS.iadd Xg186.here hx rfl (hb hby at_230) rfl ?_
      show Steps p.tables e below (Tg186.setTop (mkF m 231 #[.val (.int p0), .val (.int p1), .val (.int p2), .val (.int p3), .val (.int p4), .val (.int (1 : Int32)), .val (.int (0 : Int32)), .val (.int (0 : Int32)), .val (.int v43), .val (.int v51), .val (.int (own_b (¬ ((p4 &&& (1 : Int32)) = (0 : Int32)) ∧ (¬ (v51 < (1 : Int32)))))), .val (.ref b74), .val (.ref b85), .val (.ref b111), .val (.int v43), .val (.int j156_l15), .val (.int (own_b (j156_f_b111_position = v43))), .val (.int (own_b (¬ (w160_depth = (1 : Int32))))), .val (.int (own_b (¬ (w172_depth = (1 : Int32))))), .val (.int (own_b (¬ (w179_depth = (1 : Int32)))))] [(.int (1 : Int32)), (.int (own_b (¬ (w172_depth = (1 : Int32)))))])) target
      refine XS.iload Xg186.here hx rfl (hb hby at_231) rfl ?_
      show Steps p.tables e below (Tg186.setTop (mkF m 233 #[.val (.int p0), .val (.int p1), .val (.int p2), .val (.int p3), .val (.int p4), .val (.int (1 : Int32)), .val (.int (0 : Int32)), .val (.int (0 : Int32)), .val (.int v43), .val (.int v51), .val (.int (own_b (¬ ((p4 &&& (1 : Int32)) = (0 : Int32)) ∧ (¬ (v51 < (1 : Int32)))))), .val (.ref b74), .val (.ref b85), .val (.ref b111), .val (.int v43), .val (.int j156_l15), .val (.int (own_b (j156_f_b111_position = v43))), .val (.int (own_b (¬ (w160_depth = (1 : Int32))))), .val (.int (own_b (¬ (w172_depth = (1 : Int32))))), .val (.int (own_b (¬ (w179_depth = (1 : Int32)))))] [(.int (1 : Int32)), (.int (1 : Int32)), (.int (own_b (¬ (w172_depth = (1 : Int32)))))])) target
      refine XS.icmpYes Xg186.here hx rfl (pc0 := 233) (pc' := 240) rfl (hb hby at_233) rfl (flt (by decide : ¬ ((1 : Int32) < (1 : Int32)))).2.1 (by decide) (by decide) ?_
      show Steps p.tables e below (Tg186.setTop (mkF m 240 #[.val (.int p0), .val (.int p1), .val (.int p2), .val (.int p3), .val (.int p4), .val (.int (1 : Int32)), .val (.int (0 : Int32)), .val (.int (0 : Int32)), .val (.int v43), .val (.int v51), .val (.int (own_b (¬ ((p4 &&& (1 : Int32)) = (0 : Int32)) ∧ (¬ (v51 < (1 : Int32)))))), .val (.ref b74), .val (.ref b85), .val (.ref b111), .val (.int v43), .val (.int j156_l15), .val (.int (own_b (j156_f_b111_position = v43))), .val (.int (own_b (¬ (w160_depth = (1 : Int32))))), .val (.int (own_b (¬ (w172_depth = (1 : Int32))))), .val (.int (own_b (¬ (w179_depth = (1 : Int32)))))] [(.int (own_b (¬ (w172_depth = (1 : Int32)))))])) target
      refine XS.iconst Xg186.here hx rfl (hb hby at_240) ?_
      exact kt
    have c241 : ¬ (¬ (w172_depth = (1 : Int32))) := by
      simp only [hw186_depth, hw179_depth, hw172_depth, hw160_depth, hw128_depth]
      decide
    refine own_st (B := Tg186.setTop (mkF m 260 #[.val (.int p0), .val (.int p1), .val (.int p2), .val (.int p3), .val (.int p4), .val (.int (1 : Int32)), .val (.int (0 : Int32)), .val (.int (0 : Int32)), .val (.int v43), .val (.int v51), .val (.int (own_b (¬ ((p4 &&& (1 : Int32)) = (0 : Int32)) ∧ (¬ (v51 < (1 : Int32)))))), .val (.ref b74), .val (.ref b85), .val (.ref b111), .val (.int v43), .val (.int j156_l15), .val (.int (own_b (j156_f_b111_position = v43))), .val (.int (own_b (¬ (w160_depth = (1 : Int32))))), .val (.int (own_b (¬ (w172_depth = (1 : Int32))))), .val (.int (own_b (¬ (w179_depth = (1 : Int32)))))] [(.int (0 : Int32)), (.int (own_b (¬ (w179_depth = (1 : Int32)))))])) (fun target kt => ?_) ?_
    · show Steps p.tables e below (Tg186.setTop (mkF m 241 #[.val (.int p0), .val (.int p1), .val (.int p2), .val (.int p3), .val (.int p4), .val (.int (1 : Int32)), .val (.int (0 : Int32)), .val (.int (0 : Int32)), .val (.int v43), .val (.int v51), .val (.int (own_b (¬ ((p4 &&& (1 : Int32)) = (0 : Int32)) ∧ (¬ (v51 < (1 : Int32)))))), .val (.ref b74), .val (.ref b85), .val (.ref b111), .val (.int v43), .val (.int j156_l15), .val (.int (own_b (j156_f_b111_position = v43))), .val (.int (own_b (¬ (w160_depth = (1 : Int32))))), .val (.int (own_b (¬ (w172_depth = (1 : Int32))))), .val (.int (own_b (¬ (w179_depth = (1 : Int32)))))] [(.int (0 : Int32)), (.int (own_b (¬ (w172_depth = (1 : Int32)))))])) target
      refine XS.icmpNo Xg186.here hx rfl (hb hby at_241) rfl (teq (own_b00 rfl c241)).2 ?_
      show Steps p.tables e below (Tg186.setTop (mkF m 244 #[.val (.int p0), .val (.int p1), .val (.int p2), .val (.int p3), .val (.int p4), .val (.int (1 : Int32)), .val (.int (0 : Int32)), .val (.int (0 : Int32)), .val (.int v43), .val (.int v51), .val (.int (own_b (¬ ((p4 &&& (1 : Int32)) = (0 : Int32)) ∧ (¬ (v51 < (1 : Int32)))))), .val (.ref b74), .val (.ref b85), .val (.ref b111), .val (.int v43), .val (.int j156_l15), .val (.int (own_b (j156_f_b111_position = v43))), .val (.int (own_b (¬ (w160_depth = (1 : Int32))))), .val (.int (own_b (¬ (w172_depth = (1 : Int32))))), .val (.int (own_b (¬ (w179_depth = (1 : Int32)))))] [])) target
      refine XS.iload Xg186.here hx rfl (hb hby at_244) rfl ?_
      show Steps p.tables e below (Tg186.setTop (mkF m 246 #[.val (.int p0), .val (.int p1), .val (.int p2), .val (.int p3), .val (.int p4), .val (.int (1 : Int32)), .val (.int (0 : Int32)), .val (.int (0 : Int32)), .val (.int v43), .val (.int v51), .val (.int (own_b (¬ ((p4 &&& (1 : Int32)) = (0 : Int32)) ∧ (¬ (v51 < (1 : Int32)))))), .val (.ref b74), .val (.ref b85), .val (.ref b111), .val (.int v43), .val (.int j156_l15), .val (.int (own_b (j156_f_b111_position = v43))), .val (.int (own_b (¬ (w160_depth = (1 : Int32))))), .val (.int (own_b (¬ (w172_depth = (1 : Int32))))), .val (.int (own_b (¬ (w179_depth = (1 : Int32)))))] [(.int (own_b (¬ (w179_depth = (1 : Int32)))))])) target
      refine XS.iload Xg186.here hx rfl (hb hby at_246) rfl ?_
      show Steps p.tables e below (Tg186.setTop (mkF m 248 #[.val (.int p0), .val (.int p1), .val (.int p2), .val (.int p3), .val (.int p4), .val (.int (1 : Int32)), .val (.int (0 : Int32)), .val (.int (0 : Int32)), .val (.int v43), .val (.int v51), .val (.int (own_b (¬ ((p4 &&& (1 : Int32)) = (0 : Int32)) ∧ (¬ (v51 < (1 : Int32)))))), .val (.ref b74), .val (.ref b85), .val (.ref b111), .val (.int v43), .val (.int j156_l15), .val (.int (own_b (j156_f_b111_position = v43))), .val (.int (own_b (¬ (w160_depth = (1 : Int32))))), .val (.int (own_b (¬ (w172_depth = (1 : Int32))))), .val (.int (own_b (¬ (w179_depth = (1 : Int32)))))] [(.int (0 : Int32)), (.int (own_b (¬ (w179_depth = (1 : Int32)))))])) target
      refine XS.iconst Xg186.here hx rfl (hb hby at_248) ?_
      show Steps p.tables e below (Tg186.setTop (mkF m 249 #[.val (.int p0), .val (.int p1), .val (.int p2), .val (.int p3), .val (.int p4), .val (.int (1 : Int32)), .val (.int (0 : Int32)), .val (.int (0 : Int32)), .val (.int v43), .val (.int v51), .val (.int (own_b (¬ ((p4 &&& (1 : Int32)) = (0 : Int32)) ∧ (¬ (v51 < (1 : Int32)))))), .val (.ref b74), .val (.ref b85), .val (.ref b111), .val (.int v43), .val (.int j156_l15), .val (.int (own_b (j156_f_b111_position = v43))), .val (.int (own_b (¬ (w160_depth = (1 : Int32))))), .val (.int (own_b (¬ (w172_depth = (1 : Int32))))), .val (.int (own_b (¬ (w179_depth = (1 : Int32)))))] [(.int (2 : Int32)), (.int (0 : Int32)), (.int (own_b (¬ (w179_depth = (1 : Int32)))))])) target
      refine XS.iadd Xg186.here hx rfl (hb hby at_249) rfl ?_
      show Steps p.tables e below (Tg186.setTop (mkF m 250 #[.val (.int p0), .val (.int p1), .val (.int p2), .val (.int p3), .val (.int p4), .val (.int (1 : Int32)), .val (.int (0 : Int32)), .val (.int (0 : Int32)), .val (.int v43), .val (.int v51), .val (.int (own_b (¬ ((p4 &&& (1 : Int32)) = (0 : Int32)) ∧ (¬ (v51 < (1 : Int32)))))), .val (.ref b74), .val (.ref b85), .val (.ref b111), .val (.int v43), .val (.int j156_l15), .val (.int (own_b (j156_f_b111_position = v43))), .val (.int (own_b (¬ (w160_depth = (1 : Int32))))), .val (.int (own_b (¬ (w172_depth = (1 : Int32))))), .val (.int (own_b (¬ (w179_depth = (1 : Int32)))))] [(.int (2 : Int32)), (.int (own_b (¬ (w179_depth = (1 : Int32)))))])) target
      refine XS.iload Xg186.here hx rfl (hb hby at_250) rfl ?_
      show Steps p.tables e below (Tg186.setTop (mkF m 252 #[.val (.int p0), .val (.int p1), .val (.int p2), .val (.int p3), .val (.int p4), .val (.int (1 : Int32)), .val (.int (0 : Int32)), .val (.int (0 : Int32)), .val (.int v43), .val (.int v51), .val (.int (own_b (¬ ((p4 &&& (1 : Int32)) = (0 : Int32)) ∧ (¬ (v51 < (1 : Int32)))))), .val (.ref b74), .val (.ref b85), .val (.ref b111), .val (.int v43), .val (.int j156_l15), .val (.int (own_b (j156_f_b111_position = v43))), .val (.int (own_b (¬ (w160_depth = (1 : Int32))))), .val (.int (own_b (¬ (w172_depth = (1 : Int32))))), .val (.int (own_b (¬ (w179_depth = (1 : Int32)))))] [(.int (1 : Int32)), (.int (2 : Int32)), (.int (own_b (¬ (w179_depth = (1 : Int32)))))])) target
      refine XS.icmpYes Xg186.here hx rfl (pc0 := 252) (pc' := 259) rfl (hb hby at_252) rfl (flt (by decide : ¬ ((2 : Int32) < (1 : Int32)))).2.1 (by decide) (by decide) ?_
      show Steps p.tables e below (Tg186.setTop (mkF m 259 #[.val (.int p0), .val (.int p1), .val (.int p2), .val (.int p3), .val (.int p4), .val (.int (1 : Int32)), .val (.int (0 : Int32)), .val (.int (0 : Int32)), .val (.int v43), .val (.int v51), .val (.int (own_b (¬ ((p4 &&& (1 : Int32)) = (0 : Int32)) ∧ (¬ (v51 < (1 : Int32)))))), .val (.ref b74), .val (.ref b85), .val (.ref b111), .val (.int v43), .val (.int j156_l15), .val (.int (own_b (j156_f_b111_position = v43))), .val (.int (own_b (¬ (w160_depth = (1 : Int32))))), .val (.int (own_b (¬ (w172_depth = (1 : Int32))))), .val (.int (own_b (¬ (w179_depth = (1 : Int32)))))] [(.int (own_b (¬ (w179_depth = (1 : Int32)))))])) target
      refine XS.iconst Xg186.here hx rfl (hb hby at_259) ?_
      exact kt
    have c260 : ¬ (¬ (w179_depth = (1 : Int32))) := by
      simp only [hw186_depth, hw179_depth, hw172_depth, hw160_depth, hw128_depth]
      decide
    refine own_st (B := Tg186.setTop (mkF m 268 #[.val (.int p0), .val (.int p1), .val (.int p2), .val (.int p3), .val (.int p4), .val (.int (1 : Int32)), .val (.int (0 : Int32)), .val (.int (0 : Int32)), .val (.int v43), .val (.int v51), .val (.int (own_b (¬ ((p4 &&& (1 : Int32)) = (0 : Int32)) ∧ (¬ (v51 < (1 : Int32)))))), .val (.ref b74), .val (.ref b85), .val (.ref b111), .val (.int v43), .val (.int j156_l15), .val (.int (own_b (j156_f_b111_position = v43))), .val (.int (own_b (¬ (w160_depth = (1 : Int32))))), .val (.int (own_b (¬ (w172_depth = (1 : Int32))))), .val (.int (own_b (¬ (w179_depth = (1 : Int32)))))] [(.int (1 : Int32))])) (fun target kt => ?_) ?_
    · show Steps p.tables e below (Tg186.setTop (mkF m 260 #[.val (.int p0), .val (.int p1), .val (.int p2), .val (.int p3), .val (.int p4), .val (.int (1 : Int32)), .val (.int (0 : Int32)), .val (.int (0 : Int32)), .val (.int v43), .val (.int v51), .val (.int (own_b (¬ ((p4 &&& (1 : Int32)) = (0 : Int32)) ∧ (¬ (v51 < (1 : Int32)))))), .val (.ref b74), .val (.ref b85), .val (.ref b111), .val (.int v43), .val (.int j156_l15), .val (.int (own_b (j156_f_b111_position = v43))), .val (.int (own_b (¬ (w160_depth = (1 : Int32))))), .val (.int (own_b (¬ (w172_depth = (1 : Int32))))), .val (.int (own_b (¬ (w179_depth = (1 : Int32)))))] [(.int (0 : Int32)), (.int (own_b (¬ (w179_depth = (1 : Int32)))))])) target
      refine XS.icmpNo Xg186.here hx rfl (hb hby at_260) rfl (teq (own_b00 rfl c260)).2 ?_
      show Steps p.tables e below (Tg186.setTop (mkF m 263 #[.val (.int p0), .val (.int p1), .val (.int p2), .val (.int p3), .val (.int p4), .val (.int (1 : Int32)), .val (.int (0 : Int32)), .val (.int (0 : Int32)), .val (.int v43), .val (.int v51), .val (.int (own_b (¬ ((p4 &&& (1 : Int32)) = (0 : Int32)) ∧ (¬ (v51 < (1 : Int32)))))), .val (.ref b74), .val (.ref b85), .val (.ref b111), .val (.int v43), .val (.int j156_l15), .val (.int (own_b (j156_f_b111_position = v43))), .val (.int (own_b (¬ (w160_depth = (1 : Int32))))), .val (.int (own_b (¬ (w172_depth = (1 : Int32))))), .val (.int (own_b (¬ (w179_depth = (1 : Int32)))))] [])) target
      refine XS.iconst Xg186.here hx rfl (hb hby at_263) ?_
      show Steps p.tables e below (Tg186.setTop (mkF m 264 #[.val (.int p0), .val (.int p1), .val (.int p2), .val (.int p3), .val (.int p4), .val (.int (1 : Int32)), .val (.int (0 : Int32)), .val (.int (0 : Int32)), .val (.int v43), .val (.int v51), .val (.int (own_b (¬ ((p4 &&& (1 : Int32)) = (0 : Int32)) ∧ (¬ (v51 < (1 : Int32)))))), .val (.ref b74), .val (.ref b85), .val (.ref b111), .val (.int v43), .val (.int j156_l15), .val (.int (own_b (j156_f_b111_position = v43))), .val (.int (own_b (¬ (w160_depth = (1 : Int32))))), .val (.int (own_b (¬ (w172_depth = (1 : Int32))))), .val (.int (own_b (¬ (w179_depth = (1 : Int32)))))] [(.int (1 : Int32))])) target
      refine XS.goto Xg186.here hx rfl (pc0 := 264) (pc' := 268) rfl (hb hby at_264) (by decide) (by decide) ?_
      exact kt
    obtain ⟨fs, hr, hrun, hended, hW, hsame⟩ := Xg186.leave (v := some (.int (1 : Int32))) (fun h => by rw [Bd.returns] at h; cases h)
    have hend : Steps p.tables e below (Tg186.setTop (mkF m 268 #[.val (.int p0), .val (.int p1), .val (.int p2), .val (.int p3), .val (.int p4), .val (.int (1 : Int32)), .val (.int (0 : Int32)), .val (.int (0 : Int32)), .val (.int v43), .val (.int v51), .val (.int (own_b (¬ ((p4 &&& (1 : Int32)) = (0 : Int32)) ∧ (¬ (v51 < (1 : Int32)))))), .val (.ref b74), .val (.ref b85), .val (.ref b111), .val (.int v43), .val (.int j156_l15), .val (.int (own_b (j156_f_b111_position = v43))), .val (.int (own_b (¬ (w160_depth = (1 : Int32))))), .val (.int (own_b (¬ (w172_depth = (1 : Int32))))), .val (.int (own_b (¬ (w179_depth = (1 : Int32)))))] [(.int (1 : Int32))])) (Tg186.setFrames fs) := by
      exact retN Xg186 hx (t := .boolean) Bd.returns (by simp) (hb hby at_268) hr
    refine own_fin hend ⟨_, hrun, hended, _, _, rfl, ?_, ⟨_, rfl⟩, hW, hsame.mono (by decide) (by decide)⟩
    show own_Q0 Z p0 p1 p2 p3 p4 h0 n0 _ Tg186.heap _
    exact ⟨rfl, Ng186⟩
  · subst hs7
    refine own_st (B := s₁.setTop (mkF m 10 #[.val (.int p0), .val (.int p1), .val (.int p2), .val (.int p3), .val (.int p4), .val (.int (2 : Int32)), .unset, .unset, .unset, .unset, .unset, .unset, .unset, .unset, .unset, .unset, .unset, .unset, .unset, .unset] [(.int (p1 &&& (1 : Int32)))])) (fun target kt => ?_) ?_
    · show Steps p.tables e below (s₁.setTop (mkF m 7 #[.val (.int p0), .val (.int p1), .val (.int p2), .val (.int p3), .val (.int p4), .val (.int (2 : Int32)), .unset, .unset, .unset, .unset, .unset, .unset, .unset, .unset, .unset, .unset, .unset, .unset, .unset, .unset] [])) target
      refine XS.iloadN X0.here hx rfl (hb hby at_7) rfl ?_
      show Steps p.tables e below (s₁.setTop (mkF m 8 #[.val (.int p0), .val (.int p1), .val (.int p2), .val (.int p3), .val (.int p4), .val (.int (2 : Int32)), .unset, .unset, .unset, .unset, .unset, .unset, .unset, .unset, .unset, .unset, .unset, .unset, .unset, .unset] [(.int p1)])) target
      refine XS.iconst X0.here hx rfl (hb hby at_8) ?_
      show Steps p.tables e below (s₁.setTop (mkF m 9 #[.val (.int p0), .val (.int p1), .val (.int p2), .val (.int p3), .val (.int p4), .val (.int (2 : Int32)), .unset, .unset, .unset, .unset, .unset, .unset, .unset, .unset, .unset, .unset, .unset, .unset, .unset, .unset] [(.int (1 : Int32)), (.int p1)])) target
      refine XS.iand X0.here hx rfl (hb hby at_9) rfl ?_
      exact kt
    obtain ⟨_, ⟨j24_s0, rfl, rfl⟩, st_M24⟩ : own_Lead p.tables e below (s₁.setTop (mkF m 10 #[.val (.int p0), .val (.int p1), .val (.int p2), .val (.int p3), .val (.int p4), .val (.int (2 : Int32)), .unset, .unset, .unset, .unset, .unset, .unset, .unset, .unset, .unset, .unset, .unset, .unset, .unset, .unset] [(.int (p1 &&& (1 : Int32)))])) (fun B => ∃ (j24_s0 : Int32), B = s₁.setTop (mkF m 24 #[.val (.int p0), .val (.int p1), .val (.int p2), .val (.int p3), .val (.int p4), .val (.int (2 : Int32)), .unset, .unset, .unset, .unset, .unset, .unset, .unset, .unset, .unset, .unset, .unset, .unset, .unset, .unset] [(.int j24_s0)]) ∧ j24_s0 = own_b (¬ ((p1 &&& (1 : Int32)) = (0 : Int32)))) := by
      by_cases c10 : (p1 &&& (1 : Int32)) = (0 : Int32)
      · refine own_st (B := s₁.setTop (mkF m 24 #[.val (.int p0), .val (.int p1), .val (.int p2), .val (.int p3), .val (.int p4), .val (.int (2 : Int32)), .unset, .unset, .unset, .unset, .unset, .unset, .unset, .unset, .unset, .unset, .unset, .unset, .unset, .unset] [(.int (0 : Int32))])) (fun target kt => ?_) ?_
        · show Steps p.tables e below (s₁.setTop (mkF m 10 #[.val (.int p0), .val (.int p1), .val (.int p2), .val (.int p3), .val (.int p4), .val (.int (2 : Int32)), .unset, .unset, .unset, .unset, .unset, .unset, .unset, .unset, .unset, .unset, .unset, .unset, .unset, .unset] [(.int (p1 &&& (1 : Int32)))])) target
          refine XS.ifYes X0.here hx rfl (pc0 := 10) (pc' := 23) rfl (hb hby at_10) rfl ((if0 _ _).trans (teq c10).1) (by decide) (by decide) ?_
          show Steps p.tables e below (s₁.setTop (mkF m 23 #[.val (.int p0), .val (.int p1), .val (.int p2), .val (.int p3), .val (.int p4), .val (.int (2 : Int32)), .unset, .unset, .unset, .unset, .unset, .unset, .unset, .unset, .unset, .unset, .unset, .unset, .unset, .unset] [])) target
          refine XS.iconst X0.here hx rfl (hb hby at_23) ?_
          exact kt
        exact ⟨_, ⟨(0 : Int32), rfl, (own_b0 (fun w => w c10)).symm⟩, fun _ k => k⟩
      · refine own_st (B := s₁.setTop (mkF m 24 #[.val (.int p0), .val (.int p1), .val (.int p2), .val (.int p3), .val (.int p4), .val (.int (2 : Int32)), .unset, .unset, .unset, .unset, .unset, .unset, .unset, .unset, .unset, .unset, .unset, .unset, .unset, .unset] [(.int (1 : Int32))])) (fun target kt => ?_) ?_
        · show Steps p.tables e below (s₁.setTop (mkF m 10 #[.val (.int p0), .val (.int p1), .val (.int p2), .val (.int p3), .val (.int p4), .val (.int (2 : Int32)), .unset, .unset, .unset, .unset, .unset, .unset, .unset, .unset, .unset, .unset, .unset, .unset, .unset, .unset] [(.int (p1 &&& (1 : Int32)))])) target
          refine XS.ifNo X0.here hx rfl (hb hby at_10) rfl ((if0 _ _).trans (feq c10).1) ?_
          show Steps p.tables e below (s₁.setTop (mkF m 13 #[.val (.int p0), .val (.int p1), .val (.int p2), .val (.int p3), .val (.int p4), .val (.int (2 : Int32)), .unset, .unset, .unset, .unset, .unset, .unset, .unset, .unset, .unset, .unset, .unset, .unset, .unset, .unset] [])) target
          refine XS.iload X0.here hx rfl (hb hby at_13) rfl ?_
          show Steps p.tables e below (s₁.setTop (mkF m 15 #[.val (.int p0), .val (.int p1), .val (.int p2), .val (.int p3), .val (.int p4), .val (.int (2 : Int32)), .unset, .unset, .unset, .unset, .unset, .unset, .unset, .unset, .unset, .unset, .unset, .unset, .unset, .unset] [(.int (2 : Int32))])) target
          refine XS.iconst X0.here hx rfl (hb hby at_15) ?_
          show Steps p.tables e below (s₁.setTop (mkF m 16 #[.val (.int p0), .val (.int p1), .val (.int p2), .val (.int p3), .val (.int p4), .val (.int (2 : Int32)), .unset, .unset, .unset, .unset, .unset, .unset, .unset, .unset, .unset, .unset, .unset, .unset, .unset, .unset] [(.int (1 : Int32)), (.int (2 : Int32))])) target
          refine XS.icmpNo X0.here hx rfl (hb hby at_16) rfl (tlt (by decide : (1 : Int32) < (2 : Int32))).2.2.2 ?_
          show Steps p.tables e below (s₁.setTop (mkF m 19 #[.val (.int p0), .val (.int p1), .val (.int p2), .val (.int p3), .val (.int p4), .val (.int (2 : Int32)), .unset, .unset, .unset, .unset, .unset, .unset, .unset, .unset, .unset, .unset, .unset, .unset, .unset, .unset] [])) target
          refine XS.iconst X0.here hx rfl (hb hby at_19) ?_
          show Steps p.tables e below (s₁.setTop (mkF m 20 #[.val (.int p0), .val (.int p1), .val (.int p2), .val (.int p3), .val (.int p4), .val (.int (2 : Int32)), .unset, .unset, .unset, .unset, .unset, .unset, .unset, .unset, .unset, .unset, .unset, .unset, .unset, .unset] [(.int (1 : Int32))])) target
          refine XS.goto X0.here hx rfl (pc0 := 20) (pc' := 24) rfl (hb hby at_20) (by decide) (by decide) ?_
          exact kt
        exact ⟨_, ⟨(1 : Int32), rfl, (own_b1 c10).symm⟩, fun _ k => k⟩
    refine own_st st_M24 ?_
    refine own_st (B := s₁.setTop (mkF m 28 #[.val (.int p0), .val (.int p1), .val (.int p2), .val (.int p3), .val (.int p4), .val (.int (2 : Int32)), .val (.int (own_b (¬ ((p1 &&& (1 : Int32)) = (0 : Int32))))), .unset, .unset, .unset, .unset, .unset, .unset, .unset, .unset, .unset, .unset, .unset, .unset, .unset] [(.int (own_b (¬ ((p1 &&& (1 : Int32)) = (0 : Int32)))))])) (fun target kt => ?_) ?_
    · show Steps p.tables e below (s₁.setTop (mkF m 24 #[.val (.int p0), .val (.int p1), .val (.int p2), .val (.int p3), .val (.int p4), .val (.int (2 : Int32)), .unset, .unset, .unset, .unset, .unset, .unset, .unset, .unset, .unset, .unset, .unset, .unset, .unset, .unset] [(.int (own_b (¬ ((p1 &&& (1 : Int32)) = (0 : Int32)))))])) target
      refine XS.istore X0.here hx rfl (hb hby at_24) rfl (l' := #[.val (.int p0), .val (.int p1), .val (.int p2), .val (.int p3), .val (.int p4), .val (.int (2 : Int32)), .val (.int (own_b (¬ ((p1 &&& (1 : Int32)) = (0 : Int32))))), .unset, .unset, .unset, .unset, .unset, .unset, .unset, .unset, .unset, .unset, .unset, .unset, .unset]) rfl ?_
      show Steps p.tables e below (s₁.setTop (mkF m 26 #[.val (.int p0), .val (.int p1), .val (.int p2), .val (.int p3), .val (.int p4), .val (.int (2 : Int32)), .val (.int (own_b (¬ ((p1 &&& (1 : Int32)) = (0 : Int32))))), .unset, .unset, .unset, .unset, .unset, .unset, .unset, .unset, .unset, .unset, .unset, .unset, .unset] [])) target
      refine XS.iload X0.here hx rfl (hb hby at_26) rfl ?_
      exact kt
    obtain ⟨_, ⟨j36_s0, rfl, rfl⟩, st_M36⟩ : own_Lead p.tables e below (s₁.setTop (mkF m 28 #[.val (.int p0), .val (.int p1), .val (.int p2), .val (.int p3), .val (.int p4), .val (.int (2 : Int32)), .val (.int (own_b (¬ ((p1 &&& (1 : Int32)) = (0 : Int32))))), .unset, .unset, .unset, .unset, .unset, .unset, .unset, .unset, .unset, .unset, .unset, .unset, .unset] [(.int (own_b (¬ ((p1 &&& (1 : Int32)) = (0 : Int32)))))])) (fun B => ∃ (j36_s0 : Int32), B = s₁.setTop (mkF m 36 #[.val (.int p0), .val (.int p1), .val (.int p2), .val (.int p3), .val (.int p4), .val (.int (2 : Int32)), .val (.int (own_b (¬ ((p1 &&& (1 : Int32)) = (0 : Int32))))), .unset, .unset, .unset, .unset, .unset, .unset, .unset, .unset, .unset, .unset, .unset, .unset, .unset] [(.int j36_s0)]) ∧ j36_s0 = own_b (¬ ((p1 &&& (1 : Int32)) = (0 : Int32)))) := by
      by_cases c28 : ¬ ((p1 &&& (1 : Int32)) = (0 : Int32))
      · refine own_st (B := s₁.setTop (mkF m 36 #[.val (.int p0), .val (.int p1), .val (.int p2), .val (.int p3), .val (.int p4), .val (.int (2 : Int32)), .val (.int (own_b (¬ ((p1 &&& (1 : Int32)) = (0 : Int32))))), .unset, .unset, .unset, .unset, .unset, .unset, .unset, .unset, .unset, .unset, .unset, .unset, .unset] [(.int (1 : Int32))])) (fun target kt => ?_) ?_
        · show Steps p.tables e below (s₁.setTop (mkF m 28 #[.val (.int p0), .val (.int p1), .val (.int p2), .val (.int p3), .val (.int p4), .val (.int (2 : Int32)), .val (.int (own_b (¬ ((p1 &&& (1 : Int32)) = (0 : Int32))))), .unset, .unset, .unset, .unset, .unset, .unset, .unset, .unset, .unset, .unset, .unset, .unset, .unset] [(.int (own_b (¬ ((p1 &&& (1 : Int32)) = (0 : Int32)))))])) target
          refine XS.ifNo X0.here hx rfl (hb hby at_28) rfl ((if0 _ _).trans (feq (own_bn0 rfl c28)).1) ?_
          show Steps p.tables e below (s₁.setTop (mkF m 31 #[.val (.int p0), .val (.int p1), .val (.int p2), .val (.int p3), .val (.int p4), .val (.int (2 : Int32)), .val (.int (own_b (¬ ((p1 &&& (1 : Int32)) = (0 : Int32))))), .unset, .unset, .unset, .unset, .unset, .unset, .unset, .unset, .unset, .unset, .unset, .unset, .unset] [])) target
          refine XS.iconst X0.here hx rfl (hb hby at_31) ?_
          show Steps p.tables e below (s₁.setTop (mkF m 32 #[.val (.int p0), .val (.int p1), .val (.int p2), .val (.int p3), .val (.int p4), .val (.int (2 : Int32)), .val (.int (own_b (¬ ((p1 &&& (1 : Int32)) = (0 : Int32))))), .unset, .unset, .unset, .unset, .unset, .unset, .unset, .unset, .unset, .unset, .unset, .unset, .unset] [(.int (1 : Int32))])) target
          refine XS.goto X0.here hx rfl (pc0 := 32) (pc' := 36) rfl (hb hby at_32) (by decide) (by decide) ?_
          exact kt
        exact ⟨_, ⟨(1 : Int32), rfl, (own_b1 c28).symm⟩, fun _ k => k⟩
      · refine own_st (B := s₁.setTop (mkF m 36 #[.val (.int p0), .val (.int p1), .val (.int p2), .val (.int p3), .val (.int p4), .val (.int (2 : Int32)), .val (.int (own_b (¬ ((p1 &&& (1 : Int32)) = (0 : Int32))))), .unset, .unset, .unset, .unset, .unset, .unset, .unset, .unset, .unset, .unset, .unset, .unset, .unset] [(.int (0 : Int32))])) (fun target kt => ?_) ?_
        · show Steps p.tables e below (s₁.setTop (mkF m 28 #[.val (.int p0), .val (.int p1), .val (.int p2), .val (.int p3), .val (.int p4), .val (.int (2 : Int32)), .val (.int (own_b (¬ ((p1 &&& (1 : Int32)) = (0 : Int32))))), .unset, .unset, .unset, .unset, .unset, .unset, .unset, .unset, .unset, .unset, .unset, .unset, .unset] [(.int (own_b (¬ ((p1 &&& (1 : Int32)) = (0 : Int32)))))])) target
          refine XS.ifYes X0.here hx rfl (pc0 := 28) (pc' := 35) rfl (hb hby at_28) rfl ((if0 _ _).trans (teq (own_b00 rfl c28)).1) (by decide) (by decide) ?_
          show Steps p.tables e below (s₁.setTop (mkF m 35 #[.val (.int p0), .val (.int p1), .val (.int p2), .val (.int p3), .val (.int p4), .val (.int (2 : Int32)), .val (.int (own_b (¬ ((p1 &&& (1 : Int32)) = (0 : Int32))))), .unset, .unset, .unset, .unset, .unset, .unset, .unset, .unset, .unset, .unset, .unset, .unset, .unset] [])) target
          refine XS.iconst X0.here hx rfl (hb hby at_35) ?_
          exact kt
        exact ⟨_, ⟨(0 : Int32), rfl, (own_b0 c28).symm⟩, fun _ k => k⟩
    refine own_st st_M36 ?_
    obtain ⟨v43, hv43⟩ : ∃ z : Int32, z = ((1 : Int32) + (p2 &&& (3 : Int32))) := ⟨_, rfl⟩
    refine own_st (B := s₁.setTop (mkF m 45 #[.val (.int p0), .val (.int p1), .val (.int p2), .val (.int p3), .val (.int p4), .val (.int (2 : Int32)), .val (.int (own_b (¬ ((p1 &&& (1 : Int32)) = (0 : Int32))))), .val (.int (own_b (¬ ((p1 &&& (1 : Int32)) = (0 : Int32))))), .val (.int v43), .unset, .unset, .unset, .unset, .unset, .unset, .unset, .unset, .unset, .unset, .unset] [])) (fun target kt => ?_) ?_
    · show Steps p.tables e below (s₁.setTop (mkF m 36 #[.val (.int p0), .val (.int p1), .val (.int p2), .val (.int p3), .val (.int p4), .val (.int (2 : Int32)), .val (.int (own_b (¬ ((p1 &&& (1 : Int32)) = (0 : Int32))))), .unset, .unset, .unset, .unset, .unset, .unset, .unset, .unset, .unset, .unset, .unset, .unset, .unset] [(.int (own_b (¬ ((p1 &&& (1 : Int32)) = (0 : Int32)))))])) target
      refine XS.istore X0.here hx rfl (hb hby at_36) rfl (l' := #[.val (.int p0), .val (.int p1), .val (.int p2), .val (.int p3), .val (.int p4), .val (.int (2 : Int32)), .val (.int (own_b (¬ ((p1 &&& (1 : Int32)) = (0 : Int32))))), .val (.int (own_b (¬ ((p1 &&& (1 : Int32)) = (0 : Int32))))), .unset, .unset, .unset, .unset, .unset, .unset, .unset, .unset, .unset, .unset, .unset, .unset]) rfl ?_
      show Steps p.tables e below (s₁.setTop (mkF m 38 #[.val (.int p0), .val (.int p1), .val (.int p2), .val (.int p3), .val (.int p4), .val (.int (2 : Int32)), .val (.int (own_b (¬ ((p1 &&& (1 : Int32)) = (0 : Int32))))), .val (.int (own_b (¬ ((p1 &&& (1 : Int32)) = (0 : Int32))))), .unset, .unset, .unset, .unset, .unset, .unset, .unset, .unset, .unset, .unset, .unset, .unset] [])) target
      refine XS.iconst X0.here hx rfl (hb hby at_38) ?_
      show Steps p.tables e below (s₁.setTop (mkF m 39 #[.val (.int p0), .val (.int p1), .val (.int p2), .val (.int p3), .val (.int p4), .val (.int (2 : Int32)), .val (.int (own_b (¬ ((p1 &&& (1 : Int32)) = (0 : Int32))))), .val (.int (own_b (¬ ((p1 &&& (1 : Int32)) = (0 : Int32))))), .unset, .unset, .unset, .unset, .unset, .unset, .unset, .unset, .unset, .unset, .unset, .unset] [(.int (1 : Int32))])) target
      refine XS.iloadN X0.here hx rfl (hb hby at_39) rfl ?_
      show Steps p.tables e below (s₁.setTop (mkF m 40 #[.val (.int p0), .val (.int p1), .val (.int p2), .val (.int p3), .val (.int p4), .val (.int (2 : Int32)), .val (.int (own_b (¬ ((p1 &&& (1 : Int32)) = (0 : Int32))))), .val (.int (own_b (¬ ((p1 &&& (1 : Int32)) = (0 : Int32))))), .unset, .unset, .unset, .unset, .unset, .unset, .unset, .unset, .unset, .unset, .unset, .unset] [(.int p2), (.int (1 : Int32))])) target
      refine XS.iconst X0.here hx rfl (hb hby at_40) ?_
      show Steps p.tables e below (s₁.setTop (mkF m 41 #[.val (.int p0), .val (.int p1), .val (.int p2), .val (.int p3), .val (.int p4), .val (.int (2 : Int32)), .val (.int (own_b (¬ ((p1 &&& (1 : Int32)) = (0 : Int32))))), .val (.int (own_b (¬ ((p1 &&& (1 : Int32)) = (0 : Int32))))), .unset, .unset, .unset, .unset, .unset, .unset, .unset, .unset, .unset, .unset, .unset, .unset] [(.int (3 : Int32)), (.int p2), (.int (1 : Int32))])) target
      refine XS.iand X0.here hx rfl (hb hby at_41) rfl ?_
      show Steps p.tables e below (s₁.setTop (mkF m 42 #[.val (.int p0), .val (.int p1), .val (.int p2), .val (.int p3), .val (.int p4), .val (.int (2 : Int32)), .val (.int (own_b (¬ ((p1 &&& (1 : Int32)) = (0 : Int32))))), .val (.int (own_b (¬ ((p1 &&& (1 : Int32)) = (0 : Int32))))), .unset, .unset, .unset, .unset, .unset, .unset, .unset, .unset, .unset, .unset, .unset, .unset] [(.int (p2 &&& (3 : Int32))), (.int (1 : Int32))])) target
      refine XS.iadd X0.here hx rfl (hb hby at_42) rfl ?_
      show Steps p.tables e below (s₁.setTop (mkF m 43 #[.val (.int p0), .val (.int p1), .val (.int p2), .val (.int p3), .val (.int p4), .val (.int (2 : Int32)), .val (.int (own_b (¬ ((p1 &&& (1 : Int32)) = (0 : Int32))))), .val (.int (own_b (¬ ((p1 &&& (1 : Int32)) = (0 : Int32))))), .unset, .unset, .unset, .unset, .unset, .unset, .unset, .unset, .unset, .unset, .unset, .unset] [(.int ((1 : Int32) + (p2 &&& (3 : Int32))))])) target
      refine XS.istore X0.here hx rfl (hb hby at_43) rfl (l' := #[.val (.int p0), .val (.int p1), .val (.int p2), .val (.int p3), .val (.int p4), .val (.int (2 : Int32)), .val (.int (own_b (¬ ((p1 &&& (1 : Int32)) = (0 : Int32))))), .val (.int (own_b (¬ ((p1 &&& (1 : Int32)) = (0 : Int32))))), .val (.int v43), .unset, .unset, .unset, .unset, .unset, .unset, .unset, .unset, .unset, .unset, .unset]) (by subst hv43; rfl) ?_
      exact kt
    have hL := own_14 p2
    rw [← hv43] at hL
    have hL0 : v43 ≠ 0 := fun q => by have h := congrArg Int32.toInt q; rw [show (0 : Int32).toInt = 0 by decide] at h; omega
    obtain ⟨v51, hv51⟩ : ∃ z : Int32, z = ((p3 &&& (3 : Int32)) % v43) := ⟨_, rfl⟩
    refine own_st (B := s₁.setTop (mkF m 53 #[.val (.int p0), .val (.int p1), .val (.int p2), .val (.int p3), .val (.int p4), .val (.int (2 : Int32)), .val (.int (own_b (¬ ((p1 &&& (1 : Int32)) = (0 : Int32))))), .val (.int (own_b (¬ ((p1 &&& (1 : Int32)) = (0 : Int32))))), .val (.int v43), .val (.int v51), .unset, .unset, .unset, .unset, .unset, .unset, .unset, .unset, .unset, .unset] [])) (fun target kt => ?_) ?_
    · show Steps p.tables e below (s₁.setTop (mkF m 45 #[.val (.int p0), .val (.int p1), .val (.int p2), .val (.int p3), .val (.int p4), .val (.int (2 : Int32)), .val (.int (own_b (¬ ((p1 &&& (1 : Int32)) = (0 : Int32))))), .val (.int (own_b (¬ ((p1 &&& (1 : Int32)) = (0 : Int32))))), .val (.int v43), .unset, .unset, .unset, .unset, .unset, .unset, .unset, .unset, .unset, .unset, .unset] [])) target
      refine XS.iloadN X0.here hx rfl (hb hby at_45) rfl ?_
      show Steps p.tables e below (s₁.setTop (mkF m 46 #[.val (.int p0), .val (.int p1), .val (.int p2), .val (.int p3), .val (.int p4), .val (.int (2 : Int32)), .val (.int (own_b (¬ ((p1 &&& (1 : Int32)) = (0 : Int32))))), .val (.int (own_b (¬ ((p1 &&& (1 : Int32)) = (0 : Int32))))), .val (.int v43), .unset, .unset, .unset, .unset, .unset, .unset, .unset, .unset, .unset, .unset, .unset] [(.int p3)])) target
      refine XS.iconst X0.here hx rfl (hb hby at_46) ?_
      show Steps p.tables e below (s₁.setTop (mkF m 47 #[.val (.int p0), .val (.int p1), .val (.int p2), .val (.int p3), .val (.int p4), .val (.int (2 : Int32)), .val (.int (own_b (¬ ((p1 &&& (1 : Int32)) = (0 : Int32))))), .val (.int (own_b (¬ ((p1 &&& (1 : Int32)) = (0 : Int32))))), .val (.int v43), .unset, .unset, .unset, .unset, .unset, .unset, .unset, .unset, .unset, .unset, .unset] [(.int (3 : Int32)), (.int p3)])) target
      refine XS.iand X0.here hx rfl (hb hby at_47) rfl ?_
      show Steps p.tables e below (s₁.setTop (mkF m 48 #[.val (.int p0), .val (.int p1), .val (.int p2), .val (.int p3), .val (.int p4), .val (.int (2 : Int32)), .val (.int (own_b (¬ ((p1 &&& (1 : Int32)) = (0 : Int32))))), .val (.int (own_b (¬ ((p1 &&& (1 : Int32)) = (0 : Int32))))), .val (.int v43), .unset, .unset, .unset, .unset, .unset, .unset, .unset, .unset, .unset, .unset, .unset] [(.int (p3 &&& (3 : Int32)))])) target
      refine XS.iload X0.here hx rfl (hb hby at_48) rfl ?_
      show Steps p.tables e below (s₁.setTop (mkF m 50 #[.val (.int p0), .val (.int p1), .val (.int p2), .val (.int p3), .val (.int p4), .val (.int (2 : Int32)), .val (.int (own_b (¬ ((p1 &&& (1 : Int32)) = (0 : Int32))))), .val (.int (own_b (¬ ((p1 &&& (1 : Int32)) = (0 : Int32))))), .val (.int v43), .unset, .unset, .unset, .unset, .unset, .unset, .unset, .unset, .unset, .unset, .unset] [(.int v43), (.int (p3 &&& (3 : Int32)))])) target
      refine iremM X0 hx rfl (hb hby at_50) rfl hL0 ?_
      show Steps p.tables e below (s₁.setTop (mkF m 51 #[.val (.int p0), .val (.int p1), .val (.int p2), .val (.int p3), .val (.int p4), .val (.int (2 : Int32)), .val (.int (own_b (¬ ((p1 &&& (1 : Int32)) = (0 : Int32))))), .val (.int (own_b (¬ ((p1 &&& (1 : Int32)) = (0 : Int32))))), .val (.int v43), .unset, .unset, .unset, .unset, .unset, .unset, .unset, .unset, .unset, .unset, .unset] [(.int ((p3 &&& (3 : Int32)) % v43))])) target
      refine XS.istore X0.here hx rfl (hb hby at_51) rfl (l' := #[.val (.int p0), .val (.int p1), .val (.int p2), .val (.int p3), .val (.int p4), .val (.int (2 : Int32)), .val (.int (own_b (¬ ((p1 &&& (1 : Int32)) = (0 : Int32))))), .val (.int (own_b (¬ ((p1 &&& (1 : Int32)) = (0 : Int32))))), .val (.int v43), .val (.int v51), .unset, .unset, .unset, .unset, .unset, .unset, .unset, .unset, .unset, .unset]) (by subst hv51; rfl) ?_
      exact kt
    have hM := own_m p3 v43 (by omega) (by omega)
    rw [← hv51] at hM
    refine own_st (B := s₁.setTop (mkF m 57 #[.val (.int p0), .val (.int p1), .val (.int p2), .val (.int p3), .val (.int p4), .val (.int (2 : Int32)), .val (.int (own_b (¬ ((p1 &&& (1 : Int32)) = (0 : Int32))))), .val (.int (own_b (¬ ((p1 &&& (1 : Int32)) = (0 : Int32))))), .val (.int v43), .val (.int v51), .unset, .unset, .unset, .unset, .unset, .unset, .unset, .unset, .unset, .unset] [(.int (p4 &&& (1 : Int32)))])) (fun target kt => ?_) ?_
    · show Steps p.tables e below (s₁.setTop (mkF m 53 #[.val (.int p0), .val (.int p1), .val (.int p2), .val (.int p3), .val (.int p4), .val (.int (2 : Int32)), .val (.int (own_b (¬ ((p1 &&& (1 : Int32)) = (0 : Int32))))), .val (.int (own_b (¬ ((p1 &&& (1 : Int32)) = (0 : Int32))))), .val (.int v43), .val (.int v51), .unset, .unset, .unset, .unset, .unset, .unset, .unset, .unset, .unset, .unset] [])) target
      refine XS.iload X0.here hx rfl (hb hby at_53) rfl ?_
      show Steps p.tables e below (s₁.setTop (mkF m 55 #[.val (.int p0), .val (.int p1), .val (.int p2), .val (.int p3), .val (.int p4), .val (.int (2 : Int32)), .val (.int (own_b (¬ ((p1 &&& (1 : Int32)) = (0 : Int32))))), .val (.int (own_b (¬ ((p1 &&& (1 : Int32)) = (0 : Int32))))), .val (.int v43), .val (.int v51), .unset, .unset, .unset, .unset, .unset, .unset, .unset, .unset, .unset, .unset] [(.int p4)])) target
      refine XS.iconst X0.here hx rfl (hb hby at_55) ?_
      show Steps p.tables e below (s₁.setTop (mkF m 56 #[.val (.int p0), .val (.int p1), .val (.int p2), .val (.int p3), .val (.int p4), .val (.int (2 : Int32)), .val (.int (own_b (¬ ((p1 &&& (1 : Int32)) = (0 : Int32))))), .val (.int (own_b (¬ ((p1 &&& (1 : Int32)) = (0 : Int32))))), .val (.int v43), .val (.int v51), .unset, .unset, .unset, .unset, .unset, .unset, .unset, .unset, .unset, .unset] [(.int (1 : Int32)), (.int p4)])) target
      refine XS.iand X0.here hx rfl (hb hby at_56) rfl ?_
      exact kt
    obtain ⟨_, ⟨j71_s0, rfl, rfl⟩, st_M71⟩ : own_Lead p.tables e below (s₁.setTop (mkF m 57 #[.val (.int p0), .val (.int p1), .val (.int p2), .val (.int p3), .val (.int p4), .val (.int (2 : Int32)), .val (.int (own_b (¬ ((p1 &&& (1 : Int32)) = (0 : Int32))))), .val (.int (own_b (¬ ((p1 &&& (1 : Int32)) = (0 : Int32))))), .val (.int v43), .val (.int v51), .unset, .unset, .unset, .unset, .unset, .unset, .unset, .unset, .unset, .unset] [(.int (p4 &&& (1 : Int32)))])) (fun B => ∃ (j71_s0 : Int32), B = s₁.setTop (mkF m 71 #[.val (.int p0), .val (.int p1), .val (.int p2), .val (.int p3), .val (.int p4), .val (.int (2 : Int32)), .val (.int (own_b (¬ ((p1 &&& (1 : Int32)) = (0 : Int32))))), .val (.int (own_b (¬ ((p1 &&& (1 : Int32)) = (0 : Int32))))), .val (.int v43), .val (.int v51), .unset, .unset, .unset, .unset, .unset, .unset, .unset, .unset, .unset, .unset] [(.int j71_s0)]) ∧ j71_s0 = own_b ((¬ ((p4 &&& (1 : Int32)) = (0 : Int32)) ∧ (¬ (v51 < (1 : Int32)))))) := by
      by_cases c57 : (p4 &&& (1 : Int32)) = (0 : Int32)
      · refine own_st (B := s₁.setTop (mkF m 71 #[.val (.int p0), .val (.int p1), .val (.int p2), .val (.int p3), .val (.int p4), .val (.int (2 : Int32)), .val (.int (own_b (¬ ((p1 &&& (1 : Int32)) = (0 : Int32))))), .val (.int (own_b (¬ ((p1 &&& (1 : Int32)) = (0 : Int32))))), .val (.int v43), .val (.int v51), .unset, .unset, .unset, .unset, .unset, .unset, .unset, .unset, .unset, .unset] [(.int (0 : Int32))])) (fun target kt => ?_) ?_
        · show Steps p.tables e below (s₁.setTop (mkF m 57 #[.val (.int p0), .val (.int p1), .val (.int p2), .val (.int p3), .val (.int p4), .val (.int (2 : Int32)), .val (.int (own_b (¬ ((p1 &&& (1 : Int32)) = (0 : Int32))))), .val (.int (own_b (¬ ((p1 &&& (1 : Int32)) = (0 : Int32))))), .val (.int v43), .val (.int v51), .unset, .unset, .unset, .unset, .unset, .unset, .unset, .unset, .unset, .unset] [(.int (p4 &&& (1 : Int32)))])) target
          refine XS.ifYes X0.here hx rfl (pc0 := 57) (pc' := 70) rfl (hb hby at_57) rfl ((if0 _ _).trans (teq c57).1) (by decide) (by decide) ?_
          show Steps p.tables e below (s₁.setTop (mkF m 70 #[.val (.int p0), .val (.int p1), .val (.int p2), .val (.int p3), .val (.int p4), .val (.int (2 : Int32)), .val (.int (own_b (¬ ((p1 &&& (1 : Int32)) = (0 : Int32))))), .val (.int (own_b (¬ ((p1 &&& (1 : Int32)) = (0 : Int32))))), .val (.int v43), .val (.int v51), .unset, .unset, .unset, .unset, .unset, .unset, .unset, .unset, .unset, .unset] [])) target
          refine XS.iconst X0.here hx rfl (hb hby at_70) ?_
          exact kt
        exact ⟨_, ⟨(0 : Int32), rfl, (own_b0 (fun w => w.1 c57)).symm⟩, fun _ k => k⟩
      · refine own_st (B := s₁.setTop (mkF m 63 #[.val (.int p0), .val (.int p1), .val (.int p2), .val (.int p3), .val (.int p4), .val (.int (2 : Int32)), .val (.int (own_b (¬ ((p1 &&& (1 : Int32)) = (0 : Int32))))), .val (.int (own_b (¬ ((p1 &&& (1 : Int32)) = (0 : Int32))))), .val (.int v43), .val (.int v51), .unset, .unset, .unset, .unset, .unset, .unset, .unset, .unset, .unset, .unset] [(.int (1 : Int32)), (.int v51)])) (fun target kt => ?_) ?_
        · show Steps p.tables e below (s₁.setTop (mkF m 57 #[.val (.int p0), .val (.int p1), .val (.int p2), .val (.int p3), .val (.int p4), .val (.int (2 : Int32)), .val (.int (own_b (¬ ((p1 &&& (1 : Int32)) = (0 : Int32))))), .val (.int (own_b (¬ ((p1 &&& (1 : Int32)) = (0 : Int32))))), .val (.int v43), .val (.int v51), .unset, .unset, .unset, .unset, .unset, .unset, .unset, .unset, .unset, .unset] [(.int (p4 &&& (1 : Int32)))])) target
          refine XS.ifNo X0.here hx rfl (hb hby at_57) rfl ((if0 _ _).trans (feq c57).1) ?_
          show Steps p.tables e below (s₁.setTop (mkF m 60 #[.val (.int p0), .val (.int p1), .val (.int p2), .val (.int p3), .val (.int p4), .val (.int (2 : Int32)), .val (.int (own_b (¬ ((p1 &&& (1 : Int32)) = (0 : Int32))))), .val (.int (own_b (¬ ((p1 &&& (1 : Int32)) = (0 : Int32))))), .val (.int v43), .val (.int v51), .unset, .unset, .unset, .unset, .unset, .unset, .unset, .unset, .unset, .unset] [])) target
          refine XS.iload X0.here hx rfl (hb hby at_60) rfl ?_
          show Steps p.tables e below (s₁.setTop (mkF m 62 #[.val (.int p0), .val (.int p1), .val (.int p2), .val (.int p3), .val (.int p4), .val (.int (2 : Int32)), .val (.int (own_b (¬ ((p1 &&& (1 : Int32)) = (0 : Int32))))), .val (.int (own_b (¬ ((p1 &&& (1 : Int32)) = (0 : Int32))))), .val (.int v43), .val (.int v51), .unset, .unset, .unset, .unset, .unset, .unset, .unset, .unset, .unset, .unset] [(.int v51)])) target
          refine XS.iconst X0.here hx rfl (hb hby at_62) ?_
          exact kt
        by_cases c63 : v51 < (1 : Int32)
        · refine own_st (B := s₁.setTop (mkF m 71 #[.val (.int p0), .val (.int p1), .val (.int p2), .val (.int p3), .val (.int p4), .val (.int (2 : Int32)), .val (.int (own_b (¬ ((p1 &&& (1 : Int32)) = (0 : Int32))))), .val (.int (own_b (¬ ((p1 &&& (1 : Int32)) = (0 : Int32))))), .val (.int v43), .val (.int v51), .unset, .unset, .unset, .unset, .unset, .unset, .unset, .unset, .unset, .unset] [(.int (0 : Int32))])) (fun target kt => ?_) ?_
          · show Steps p.tables e below (s₁.setTop (mkF m 63 #[.val (.int p0), .val (.int p1), .val (.int p2), .val (.int p3), .val (.int p4), .val (.int (2 : Int32)), .val (.int (own_b (¬ ((p1 &&& (1 : Int32)) = (0 : Int32))))), .val (.int (own_b (¬ ((p1 &&& (1 : Int32)) = (0 : Int32))))), .val (.int v43), .val (.int v51), .unset, .unset, .unset, .unset, .unset, .unset, .unset, .unset, .unset, .unset] [(.int (1 : Int32)), (.int v51)])) target
            refine XS.icmpYes X0.here hx rfl (pc0 := 63) (pc' := 70) rfl (hb hby at_63) rfl (tlt c63).1 (by decide) (by decide) ?_
            show Steps p.tables e below (s₁.setTop (mkF m 70 #[.val (.int p0), .val (.int p1), .val (.int p2), .val (.int p3), .val (.int p4), .val (.int (2 : Int32)), .val (.int (own_b (¬ ((p1 &&& (1 : Int32)) = (0 : Int32))))), .val (.int (own_b (¬ ((p1 &&& (1 : Int32)) = (0 : Int32))))), .val (.int v43), .val (.int v51), .unset, .unset, .unset, .unset, .unset, .unset, .unset, .unset, .unset, .unset] [])) target
            refine XS.iconst X0.here hx rfl (hb hby at_70) ?_
            exact kt
          exact ⟨_, ⟨(0 : Int32), rfl, (own_b0 (fun w => (fun w => w c63) w.2)).symm⟩, fun _ k => k⟩
        · refine own_st (B := s₁.setTop (mkF m 71 #[.val (.int p0), .val (.int p1), .val (.int p2), .val (.int p3), .val (.int p4), .val (.int (2 : Int32)), .val (.int (own_b (¬ ((p1 &&& (1 : Int32)) = (0 : Int32))))), .val (.int (own_b (¬ ((p1 &&& (1 : Int32)) = (0 : Int32))))), .val (.int v43), .val (.int v51), .unset, .unset, .unset, .unset, .unset, .unset, .unset, .unset, .unset, .unset] [(.int (1 : Int32))])) (fun target kt => ?_) ?_
          · show Steps p.tables e below (s₁.setTop (mkF m 63 #[.val (.int p0), .val (.int p1), .val (.int p2), .val (.int p3), .val (.int p4), .val (.int (2 : Int32)), .val (.int (own_b (¬ ((p1 &&& (1 : Int32)) = (0 : Int32))))), .val (.int (own_b (¬ ((p1 &&& (1 : Int32)) = (0 : Int32))))), .val (.int v43), .val (.int v51), .unset, .unset, .unset, .unset, .unset, .unset, .unset, .unset, .unset, .unset] [(.int (1 : Int32)), (.int v51)])) target
            refine XS.icmpNo X0.here hx rfl (hb hby at_63) rfl (flt c63).1 ?_
            show Steps p.tables e below (s₁.setTop (mkF m 66 #[.val (.int p0), .val (.int p1), .val (.int p2), .val (.int p3), .val (.int p4), .val (.int (2 : Int32)), .val (.int (own_b (¬ ((p1 &&& (1 : Int32)) = (0 : Int32))))), .val (.int (own_b (¬ ((p1 &&& (1 : Int32)) = (0 : Int32))))), .val (.int v43), .val (.int v51), .unset, .unset, .unset, .unset, .unset, .unset, .unset, .unset, .unset, .unset] [])) target
            refine XS.iconst X0.here hx rfl (hb hby at_66) ?_
            show Steps p.tables e below (s₁.setTop (mkF m 67 #[.val (.int p0), .val (.int p1), .val (.int p2), .val (.int p3), .val (.int p4), .val (.int (2 : Int32)), .val (.int (own_b (¬ ((p1 &&& (1 : Int32)) = (0 : Int32))))), .val (.int (own_b (¬ ((p1 &&& (1 : Int32)) = (0 : Int32))))), .val (.int v43), .val (.int v51), .unset, .unset, .unset, .unset, .unset, .unset, .unset, .unset, .unset, .unset] [(.int (1 : Int32))])) target
            refine XS.goto X0.here hx rfl (pc0 := 67) (pc' := 71) rfl (hb hby at_67) (by decide) (by decide) ?_
            exact kt
          exact ⟨_, ⟨(1 : Int32), rfl, (own_b1 ⟨c57, c63⟩).symm⟩, fun _ k => k⟩
    refine own_st st_M71 ?_
    refine own_st (B := s₁.setTop (mkF m 74 #[.val (.int p0), .val (.int p1), .val (.int p2), .val (.int p3), .val (.int p4), .val (.int (2 : Int32)), .val (.int (own_b (¬ ((p1 &&& (1 : Int32)) = (0 : Int32))))), .val (.int (own_b (¬ ((p1 &&& (1 : Int32)) = (0 : Int32))))), .val (.int v43), .val (.int v51), .val (.int (own_b (¬ ((p4 &&& (1 : Int32)) = (0 : Int32)) ∧ (¬ (v51 < (1 : Int32)))))), .unset, .unset, .unset, .unset, .unset, .unset, .unset, .unset, .unset] [(.int (4 : Int32))])) (fun target kt => ?_) ?_
    · show Steps p.tables e below (s₁.setTop (mkF m 71 #[.val (.int p0), .val (.int p1), .val (.int p2), .val (.int p3), .val (.int p4), .val (.int (2 : Int32)), .val (.int (own_b (¬ ((p1 &&& (1 : Int32)) = (0 : Int32))))), .val (.int (own_b (¬ ((p1 &&& (1 : Int32)) = (0 : Int32))))), .val (.int v43), .val (.int v51), .unset, .unset, .unset, .unset, .unset, .unset, .unset, .unset, .unset, .unset] [(.int (own_b (¬ ((p4 &&& (1 : Int32)) = (0 : Int32)) ∧ (¬ (v51 < (1 : Int32))))))])) target
      refine XS.istore X0.here hx rfl (hb hby at_71) rfl (l' := #[.val (.int p0), .val (.int p1), .val (.int p2), .val (.int p3), .val (.int p4), .val (.int (2 : Int32)), .val (.int (own_b (¬ ((p1 &&& (1 : Int32)) = (0 : Int32))))), .val (.int (own_b (¬ ((p1 &&& (1 : Int32)) = (0 : Int32))))), .val (.int v43), .val (.int v51), .val (.int (own_b (¬ ((p4 &&& (1 : Int32)) = (0 : Int32)) ∧ (¬ (v51 < (1 : Int32)))))), .unset, .unset, .unset, .unset, .unset, .unset, .unset, .unset, .unset]) rfl ?_
      show Steps p.tables e below (s₁.setTop (mkF m 73 #[.val (.int p0), .val (.int p1), .val (.int p2), .val (.int p3), .val (.int p4), .val (.int (2 : Int32)), .val (.int (own_b (¬ ((p1 &&& (1 : Int32)) = (0 : Int32))))), .val (.int (own_b (¬ ((p1 &&& (1 : Int32)) = (0 : Int32))))), .val (.int v43), .val (.int v51), .val (.int (own_b (¬ ((p4 &&& (1 : Int32)) = (0 : Int32)) ∧ (¬ (v51 < (1 : Int32)))))), .unset, .unset, .unset, .unset, .unset, .unset, .unset, .unset, .unset] [])) target
      refine XS.iconst X0.here hx rfl (hb hby at_73) ?_
      exact kt
    obtain ⟨Tg74, hg74, kg74, Xg74, eg74, Eg74, Ag74, stg74⟩ := newP X0 hx hZ (hw _ (List.mem_of_getElem? (i := 0) rfl)) e0 (g := (mkF m 74 #[.val (.int p0), .val (.int p1), .val (.int p2), .val (.int p3), .val (.int p4), .val (.int (2 : Int32)), .val (.int (own_b (¬ ((p1 &&& (1 : Int32)) = (0 : Int32))))), .val (.int (own_b (¬ ((p1 &&& (1 : Int32)) = (0 : Int32))))), .val (.int v43), .val (.int v51), .val (.int (own_b (¬ ((p4 &&& (1 : Int32)) = (0 : Int32)) ∧ (¬ (v51 < (1 : Int32)))))), .unset, .unset, .unset, .unset, .unset, .unset, .unset, .unset, .unset] [(.int (4 : Int32))])) rfl (hb hby at_74) rfl (by decide) (cap := 4) (by decide) (by decide) (by decide) (by decide)
    obtain ⟨b74, gg74⟩ : ∃ z, z = h0.size := ⟨_, rfl⟩
    rw [← gg74] at Ag74 stg74
    refine own_st stg74 ?_
    have g_b74 : n0 ≤ b74 := Nat.le_trans Z0 (Nat.le_of_eq gg74.symm)
    have Zz : n0 ≤ hg74.size := Nat.le_trans Z0 Eg74.1
    have F : own_RayB Z hg74 b74 4 (fun _ => (0 : Int32)) := own_RayB_new Ag74 (by decide) (by decide)
    refine own_st (B := Tg74.setTop (mkF m 84 #[.val (.int p0), .val (.int p1), .val (.int p2), .val (.int p3), .val (.int p4), .val (.int (2 : Int32)), .val (.int (own_b (¬ ((p1 &&& (1 : Int32)) = (0 : Int32))))), .val (.int (own_b (¬ ((p1 &&& (1 : Int32)) = (0 : Int32))))), .val (.int v43), .val (.int v51), .val (.int (own_b (¬ ((p4 &&& (1 : Int32)) = (0 : Int32)) ∧ (¬ (v51 < (1 : Int32)))))), .val (.ref b74), .unset, .unset, .unset, .unset, .unset, .unset, .unset, .unset] [(.int (v51.toInt8.toInt32)), (.int (0 : Int32)), (.ref b74)])) (fun target kt => ?_) ?_
    · show Steps p.tables e below (Tg74.setTop (mkF m 76 #[.val (.int p0), .val (.int p1), .val (.int p2), .val (.int p3), .val (.int p4), .val (.int (2 : Int32)), .val (.int (own_b (¬ ((p1 &&& (1 : Int32)) = (0 : Int32))))), .val (.int (own_b (¬ ((p1 &&& (1 : Int32)) = (0 : Int32))))), .val (.int v43), .val (.int v51), .val (.int (own_b (¬ ((p4 &&& (1 : Int32)) = (0 : Int32)) ∧ (¬ (v51 < (1 : Int32)))))), .unset, .unset, .unset, .unset, .unset, .unset, .unset, .unset, .unset] [(.ref b74)])) target
      refine XS.astore Xg74.here hx rfl (hb hby at_76) rfl rfl (l' := #[.val (.int p0), .val (.int p1), .val (.int p2), .val (.int p3), .val (.int p4), .val (.int (2 : Int32)), .val (.int (own_b (¬ ((p1 &&& (1 : Int32)) = (0 : Int32))))), .val (.int (own_b (¬ ((p1 &&& (1 : Int32)) = (0 : Int32))))), .val (.int v43), .val (.int v51), .val (.int (own_b (¬ ((p4 &&& (1 : Int32)) = (0 : Int32)) ∧ (¬ (v51 < (1 : Int32)))))), .val (.ref b74), .unset, .unset, .unset, .unset, .unset, .unset, .unset, .unset]) rfl ?_
      show Steps p.tables e below (Tg74.setTop (mkF m 78 #[.val (.int p0), .val (.int p1), .val (.int p2), .val (.int p3), .val (.int p4), .val (.int (2 : Int32)), .val (.int (own_b (¬ ((p1 &&& (1 : Int32)) = (0 : Int32))))), .val (.int (own_b (¬ ((p1 &&& (1 : Int32)) = (0 : Int32))))), .val (.int v43), .val (.int v51), .val (.int (own_b (¬ ((p4 &&& (1 : Int32)) = (0 : Int32)) ∧ (¬ (v51 < (1 : Int32)))))), .val (.ref b74), .unset, .unset, .unset, .unset, .unset, .unset, .unset, .unset] [])) target
      refine XS.aload Xg74.here hx rfl (hb hby at_78) rfl rfl ?_
      show Steps p.tables e below (Tg74.setTop (mkF m 80 #[.val (.int p0), .val (.int p1), .val (.int p2), .val (.int p3), .val (.int p4), .val (.int (2 : Int32)), .val (.int (own_b (¬ ((p1 &&& (1 : Int32)) = (0 : Int32))))), .val (.int (own_b (¬ ((p1 &&& (1 : Int32)) = (0 : Int32))))), .val (.int v43), .val (.int v51), .val (.int (own_b (¬ ((p4 &&& (1 : Int32)) = (0 : Int32)) ∧ (¬ (v51 < (1 : Int32)))))), .val (.ref b74), .unset, .unset, .unset, .unset, .unset, .unset, .unset, .unset] [(.ref b74)])) target
      refine XS.iconst Xg74.here hx rfl (hb hby at_80) ?_
      show Steps p.tables e below (Tg74.setTop (mkF m 81 #[.val (.int p0), .val (.int p1), .val (.int p2), .val (.int p3), .val (.int p4), .val (.int (2 : Int32)), .val (.int (own_b (¬ ((p1 &&& (1 : Int32)) = (0 : Int32))))), .val (.int (own_b (¬ ((p1 &&& (1 : Int32)) = (0 : Int32))))), .val (.int v43), .val (.int v51), .val (.int (own_b (¬ ((p4 &&& (1 : Int32)) = (0 : Int32)) ∧ (¬ (v51 < (1 : Int32)))))), .val (.ref b74), .unset, .unset, .unset, .unset, .unset, .unset, .unset, .unset] [(.int (0 : Int32)), (.ref b74)])) target
      refine XS.iload Xg74.here hx rfl (hb hby at_81) rfl ?_
      show Steps p.tables e below (Tg74.setTop (mkF m 83 #[.val (.int p0), .val (.int p1), .val (.int p2), .val (.int p3), .val (.int p4), .val (.int (2 : Int32)), .val (.int (own_b (¬ ((p1 &&& (1 : Int32)) = (0 : Int32))))), .val (.int (own_b (¬ ((p1 &&& (1 : Int32)) = (0 : Int32))))), .val (.int v43), .val (.int v51), .val (.int (own_b (¬ ((p4 &&& (1 : Int32)) = (0 : Int32)) ∧ (¬ (v51 < (1 : Int32)))))), .val (.ref b74), .unset, .unset, .unset, .unset, .unset, .unset, .unset, .unset] [(.int v51), (.int (0 : Int32)), (.ref b74)])) target
      refine XS.i2b Xg74.here hx rfl (hb hby at_83) rfl ?_
      exact kt
    obtain ⟨clg84, Arg84, Szg84, -⟩ := id F
    have hing84 : ¬ ((0 : Int32) < 0 ∨ clg84.slots.size ≤ ((0 : Int32)).toNatClampNeg) := own_inb Szg84 (by decide)
    obtain ⟨Tg84, hg84, Xg84, eg84, Wg84, stg84⟩ := stB Xg74 hx hZ eg74 Arg84 (j := (0 : Int32)) hing84 (g := (mkF m 84 #[.val (.int p0), .val (.int p1), .val (.int p2), .val (.int p3), .val (.int p4), .val (.int (2 : Int32)), .val (.int (own_b (¬ ((p1 &&& (1 : Int32)) = (0 : Int32))))), .val (.int (own_b (¬ ((p1 &&& (1 : Int32)) = (0 : Int32))))), .val (.int v43), .val (.int v51), .val (.int (own_b (¬ ((p4 &&& (1 : Int32)) = (0 : Int32)) ∧ (¬ (v51 < (1 : Int32)))))), .val (.ref b74), .unset, .unset, .unset, .unset, .unset, .unset, .unset, .unset] [(.int (v51.toInt8.toInt32)), (.int (0 : Int32)), (.ref b74)])) rfl rfl (hb hby at_84)
    refine own_st stg84 ?_
    have Ng84 := Fr.snoc Xg84 N0 g_b74
    obtain ⟨a84, ha84⟩ : ∃ gz : Nat → Int32, gz = fun i => if i = 0 then (nar .byte (v51.toInt8.toInt32)) else (fun _ => (0 : Int32)) i := ⟨_, rfl⟩
    have Zz_1 : n0 ≤ hg84.size := Nat.le_trans Zz (Keep.of_wr Wg84).1
    have F_2 : own_RayB Z hg84 b74 4 a84 := by rw [ha84]; exact own_RayB_set F Wg84 (by decide) (fits_nar_byte _)
    have hA0 : a84 (0 : Int32).toNatClampNeg = v51 := by rw [ha84]; exact own_nb v51 (by omega) (by omega)
    have hV0 : own_V (0 : Int32) v43 (a84 (0 : Int32).toNatClampNeg) 4 := by
      rw [hA0]
      have e0 : (0 : Int32).toInt = 0 := by decide
      unfold own_V
      omega
    obtain ⟨Tg85, hg85, Xg85, eg85, Eg85, Ag85, Dg85, -, stg85⟩ := newO Xg84 hx hZ hown (hw _ (List.mem_of_getElem? (i := 1) rfl)) (hw _ (List.mem_of_getElem? (i := 2) rfl)) (hw _ (List.mem_of_getElem? (i := 3) rfl)) eg84 (g := (mkF m 85 #[.val (.int p0), .val (.int p1), .val (.int p2), .val (.int p3), .val (.int p4), .val (.int (2 : Int32)), .val (.int (own_b (¬ ((p1 &&& (1 : Int32)) = (0 : Int32))))), .val (.int (own_b (¬ ((p1 &&& (1 : Int32)) = (0 : Int32))))), .val (.int v43), .val (.int v51), .val (.int (own_b (¬ ((p4 &&& (1 : Int32)) = (0 : Int32)) ∧ (¬ (v51 < (1 : Int32)))))), .val (.ref b74), .unset, .unset, .unset, .unset, .unset, .unset, .unset, .unset] [])) rfl (hb hby at_85) (by decide) (by decide)
    obtain ⟨b85, gg85⟩ : ∃ z, z = hg84.size := ⟨_, rfl⟩
    rw [← gg85] at Ag85 Dg85 stg85
    refine own_st stg85 ?_
    have ne_b74_b85 : b74 ≠ b85 := Nat.ne_of_lt (Nat.lt_of_lt_of_le F_2.lt (Nat.le_of_eq gg85.symm))
    have g_b85 : n0 ≤ b85 := Nat.le_trans Zz_1 (Nat.le_of_eq gg85.symm)
    have F_3 := F_2.ext Eg85
    have Zz_2 : n0 ≤ hg85.size := Nat.le_trans Zz_1 Eg85.1
    have F_4 : Fld Z hg85 b85 "com/example/wireform/wireform/wire/Nesting" "limit" "I" (.int (0 : Int32)) := Dg85 (Or.inr (hw _ (List.mem_of_getElem? (i := 11) rfl))) (ty := .int) (by decide)
    have F_5 : Fld Z hg85 b85 "com/example/wireform/wireform/wire/Nesting" "depth" "I" (.int (0 : Int32)) := Dg85 (Or.inl (hw _ (List.mem_of_getElem? (i := 38) rfl))) (ty := .int) (by decide)
    refine own_st (B := Tg85.setTop (mkF m 91 #[.val (.int p0), .val (.int p1), .val (.int p2), .val (.int p3), .val (.int p4), .val (.int (2 : Int32)), .val (.int (own_b (¬ ((p1 &&& (1 : Int32)) = (0 : Int32))))), .val (.int (own_b (¬ ((p1 &&& (1 : Int32)) = (0 : Int32))))), .val (.int v43), .val (.int v51), .val (.int (own_b (¬ ((p4 &&& (1 : Int32)) = (0 : Int32)) ∧ (¬ (v51 < (1 : Int32)))))), .val (.ref b74), .unset, .unset, .unset, .unset, .unset, .unset, .unset, .unset] [(.int (2 : Int32)), (.ref b85), (.ref b85)])) (fun target kt => ?_) ?_
    · show Steps p.tables e below (Tg85.setTop (mkF m 88 #[.val (.int p0), .val (.int p1), .val (.int p2), .val (.int p3), .val (.int p4), .val (.int (2 : Int32)), .val (.int (own_b (¬ ((p1 &&& (1 : Int32)) = (0 : Int32))))), .val (.int (own_b (¬ ((p1 &&& (1 : Int32)) = (0 : Int32))))), .val (.int v43), .val (.int v51), .val (.int (own_b (¬ ((p4 &&& (1 : Int32)) = (0 : Int32)) ∧ (¬ (v51 < (1 : Int32)))))), .val (.ref b74), .unset, .unset, .unset, .unset, .unset, .unset, .unset, .unset] [(.ref b85)])) target
      refine XS.dup Xg85.here hx rfl (hb hby at_88) rfl rfl ?_
      show Steps p.tables e below (Tg85.setTop (mkF m 89 #[.val (.int p0), .val (.int p1), .val (.int p2), .val (.int p3), .val (.int p4), .val (.int (2 : Int32)), .val (.int (own_b (¬ ((p1 &&& (1 : Int32)) = (0 : Int32))))), .val (.int (own_b (¬ ((p1 &&& (1 : Int32)) = (0 : Int32))))), .val (.int v43), .val (.int v51), .val (.int (own_b (¬ ((p4 &&& (1 : Int32)) = (0 : Int32)) ∧ (¬ (v51 < (1 : Int32)))))), .val (.ref b74), .unset, .unset, .unset, .unset, .unset, .unset, .unset, .unset] [(.ref b85), (.ref b85)])) target
      refine XS.iload Xg85.here hx rfl (hb hby at_89) rfl ?_
      exact kt
    obtain ⟨_, _, ⟨Tg91, Lg91, kg91, ng91⟩, -, Xg91, ⟨Lcg91, hQg91, lg91, yg91, zg91⟩, stg91⟩ := Xg85.specialBack hx (y := (⟨"com/example/wireform/wireform/wire/Nesting", "<init>", "(I)V"⟩ : MethodName)) rfl hown (mvT hZ (hw _ (List.mem_of_getElem? (i := 4) rfl))) (mvT hZ (hw _ (List.mem_of_getElem? (i := 5) rfl))) (mvT hZ (hw _ (List.mem_of_getElem? (i := 6) rfl))) (by decide) (backOf (W := 1) (own_rm1 l Z a0 hw [] b85 (2 : Int32) hg85 n0 Zz_2 Ag85 F_4 F_5 g_b85 (show ¬ ((2 : Int32) < (0 : Int32)) from by decide) (show ¬ ((1000 : Int32) < (2 : Int32)) from by decide)) hZ (hw _ (List.mem_of_getElem? (i := 6) rfl)) (hw _ (List.mem_of_getElem? (i := 3) rfl)) (by decide) (by decide)) (g := (mkF m 91 #[.val (.int p0), .val (.int p1), .val (.int p2), .val (.int p3), .val (.int p4), .val (.int (2 : Int32)), .val (.int (own_b (¬ ((p1 &&& (1 : Int32)) = (0 : Int32))))), .val (.int (own_b (¬ ((p1 &&& (1 : Int32)) = (0 : Int32))))), .val (.int v43), .val (.int v51), .val (.int (own_b (¬ ((p4 &&& (1 : Int32)) = (0 : Int32)) ∧ (¬ (v51 < (1 : Int32)))))), .val (.ref b74), .unset, .unset, .unset, .unset, .unset, .unset, .unset, .unset] [(.int (2 : Int32)), (.ref b85), (.ref b85)])) rfl (by rw [hml]; rfl) (Steps.refl _) (a := b85) (argsL := [(.int (2 : Int32))]) (rest := [(.ref b85)]) (lenOf own_pd4 rfl) rfl (by show 2 * 0 + _ ≤ _; exact Nat.le_of_eq rfl) (hb hby at_91) (fun _ _ => ⟨rfl, eg85, (by decide : 2 + 0 ≤ _), (by decide : 6 + 0 ≤ _)⟩)
    dsimp only [Pt.U, Pt.locs, Pt.cells, Pt.slots] at Xg91 lg91 yg91 zg91 stg91 hQg91
    subst lg91 yg91 zg91
    obtain ⟨rfl, Ng91q, Kg91, F_6, F_7, F_8⟩ := hQg91
    have F_9 := F_3.keep Kg91 (ninS ne_b74_b85 nin0)
    have Zz_3 : n0 ≤ Tg91.heap.size := Nat.le_trans Zz_2 Kg91.1
    have Ng91 := Fr.app Ng84 Ng91q
    refine own_st (fun _ k => stg91.trans k) ?_
    refine own_st (B := Tg91.setTop (mkF m 98 #[.val (.int p0), .val (.int p1), .val (.int p2), .val (.int p3), .val (.int p4), .val (.int (2 : Int32)), .val (.int (own_b (¬ ((p1 &&& (1 : Int32)) = (0 : Int32))))), .val (.int (own_b (¬ ((p1 &&& (1 : Int32)) = (0 : Int32))))), .val (.int v43), .val (.int v51), .val (.int (own_b (¬ ((p4 &&& (1 : Int32)) = (0 : Int32)) ∧ (¬ (v51 < (1 : Int32)))))), .val (.ref b74), .val (.ref b85), .unset, .unset, .unset, .unset, .unset, .unset, .unset] [(.int (own_b (¬ ((p1 &&& (1 : Int32)) = (0 : Int32)))))])) (fun target kt => ?_) ?_
    · show Steps p.tables e below (Tg91.setTop (mkF m 94 #[.val (.int p0), .val (.int p1), .val (.int p2), .val (.int p3), .val (.int p4), .val (.int (2 : Int32)), .val (.int (own_b (¬ ((p1 &&& (1 : Int32)) = (0 : Int32))))), .val (.int (own_b (¬ ((p1 &&& (1 : Int32)) = (0 : Int32))))), .val (.int v43), .val (.int v51), .val (.int (own_b (¬ ((p4 &&& (1 : Int32)) = (0 : Int32)) ∧ (¬ (v51 < (1 : Int32)))))), .val (.ref b74), .unset, .unset, .unset, .unset, .unset, .unset, .unset, .unset] [(.ref b85)])) target
      refine XS.astore Xg91.here hx rfl (hb hby at_94) rfl rfl (l' := #[.val (.int p0), .val (.int p1), .val (.int p2), .val (.int p3), .val (.int p4), .val (.int (2 : Int32)), .val (.int (own_b (¬ ((p1 &&& (1 : Int32)) = (0 : Int32))))), .val (.int (own_b (¬ ((p1 &&& (1 : Int32)) = (0 : Int32))))), .val (.int v43), .val (.int v51), .val (.int (own_b (¬ ((p4 &&& (1 : Int32)) = (0 : Int32)) ∧ (¬ (v51 < (1 : Int32)))))), .val (.ref b74), .val (.ref b85), .unset, .unset, .unset, .unset, .unset, .unset, .unset]) rfl ?_
      show Steps p.tables e below (Tg91.setTop (mkF m 96 #[.val (.int p0), .val (.int p1), .val (.int p2), .val (.int p3), .val (.int p4), .val (.int (2 : Int32)), .val (.int (own_b (¬ ((p1 &&& (1 : Int32)) = (0 : Int32))))), .val (.int (own_b (¬ ((p1 &&& (1 : Int32)) = (0 : Int32))))), .val (.int v43), .val (.int v51), .val (.int (own_b (¬ ((p4 &&& (1 : Int32)) = (0 : Int32)) ∧ (¬ (v51 < (1 : Int32)))))), .val (.ref b74), .val (.ref b85), .unset, .unset, .unset, .unset, .unset, .unset, .unset] [])) target
      refine XS.iload Xg91.here hx rfl (hb hby at_96) rfl ?_
      exact kt
    by_cases c98 : ¬ ((p1 &&& (1 : Int32)) = (0 : Int32))
    · refine own_st (B := Tg91.setTop (mkF m 103 #[.val (.int p0), .val (.int p1), .val (.int p2), .val (.int p3), .val (.int p4), .val (.int (2 : Int32)), .val (.int (own_b (¬ ((p1 &&& (1 : Int32)) = (0 : Int32))))), .val (.int (own_b (¬ ((p1 &&& (1 : Int32)) = (0 : Int32))))), .val (.int v43), .val (.int v51), .val (.int (own_b (¬ ((p4 &&& (1 : Int32)) = (0 : Int32)) ∧ (¬ (v51 < (1 : Int32)))))), .val (.ref b74), .val (.ref b85), .unset, .unset, .unset, .unset, .unset, .unset, .unset] [(.ref b85)])) (fun target kt => ?_) ?_
      · show Steps p.tables e below (Tg91.setTop (mkF m 98 #[.val (.int p0), .val (.int p1), .val (.int p2), .val (.int p3), .val (.int p4), .val (.int (2 : Int32)), .val (.int (own_b (¬ ((p1 &&& (1 : Int32)) = (0 : Int32))))), .val (.int (own_b (¬ ((p1 &&& (1 : Int32)) = (0 : Int32))))), .val (.int v43), .val (.int v51), .val (.int (own_b (¬ ((p4 &&& (1 : Int32)) = (0 : Int32)) ∧ (¬ (v51 < (1 : Int32)))))), .val (.ref b74), .val (.ref b85), .unset, .unset, .unset, .unset, .unset, .unset, .unset] [(.int (own_b (¬ ((p1 &&& (1 : Int32)) = (0 : Int32)))))])) target
        refine XS.ifNo Xg91.here hx rfl (hb hby at_98) rfl ((if0 _ _).trans (feq (own_bn0 rfl c98)).1) ?_
        show Steps p.tables e below (Tg91.setTop (mkF m 101 #[.val (.int p0), .val (.int p1), .val (.int p2), .val (.int p3), .val (.int p4), .val (.int (2 : Int32)), .val (.int (own_b (¬ ((p1 &&& (1 : Int32)) = (0 : Int32))))), .val (.int (own_b (¬ ((p1 &&& (1 : Int32)) = (0 : Int32))))), .val (.int v43), .val (.int v51), .val (.int (own_b (¬ ((p4 &&& (1 : Int32)) = (0 : Int32)) ∧ (¬ (v51 < (1 : Int32)))))), .val (.ref b74), .val (.ref b85), .unset, .unset, .unset, .unset, .unset, .unset, .unset] [])) target
        refine XS.aload Xg91.here hx rfl (hb hby at_101) rfl rfl ?_
        exact kt
      obtain ⟨cqg103, kqg103, qg103a, qg103b, qg103c⟩ := isOf hZ rfl F_6
      obtain ⟨_, _, ⟨Tg103, Lg103, kg103, ng103⟩, -, Xg103, ⟨Lcg103, hQg103, lg103, yg103, zg103⟩, stg103⟩ := Xg91.virtualBack hx (y := (⟨"com/example/wireform/wireform/wire/Nesting", "enter", "()Z"⟩ : MethodName)) (z := (⟨"com/example/wireform/wireform/wire/Nesting", "enter", "()Z"⟩ : MethodName)) hown (mvT hZ (hw _ (List.mem_of_getElem? (i := 83) rfl))) (mvT hZ (hw _ (List.mem_of_getElem? (i := 33) rfl))) (notFace_of_selects (args := #[]) (mvT hZ (hw _ (List.mem_of_getElem? (i := 35) rfl)))) (mvT hZ (hw _ (List.mem_of_getElem? (i := 35) rfl))) (mvT hZ (hw _ (List.mem_of_getElem? (i := 34) rfl))) (by decide) (backOf (W := 0) (own_rm5 l Z a0 hw [] b85 (2 : Int32) (0 : Int32) Tg91.heap n0 Zz_3 F_6 F_7 F_8 g_b85) hZ (hw _ (List.mem_of_getElem? (i := 36) rfl)) (hw _ (List.mem_of_getElem? (i := 3) rfl)) (by decide) (by decide)) qg103a qg103c (g := (mkF m 103 #[.val (.int p0), .val (.int p1), .val (.int p2), .val (.int p3), .val (.int p4), .val (.int (2 : Int32)), .val (.int (own_b (¬ ((p1 &&& (1 : Int32)) = (0 : Int32))))), .val (.int (own_b (¬ ((p1 &&& (1 : Int32)) = (0 : Int32))))), .val (.int v43), .val (.int v51), .val (.int (own_b (¬ ((p4 &&& (1 : Int32)) = (0 : Int32)) ∧ (¬ (v51 < (1 : Int32)))))), .val (.ref b74), .val (.ref b85), .unset, .unset, .unset, .unset, .unset, .unset, .unset] [(.ref b85)])) rfl (by rw [hml]; rfl) (Steps.refl _) (argsL := []) (rest := []) (lenOf own_pd3 rfl) rfl (by show 2 * 0 + _ ≤ _; exact Nat.le_of_eq rfl) (hb hby at_103) (fun _ _ => ⟨rfl, rfl, (by decide : 2 + 0 ≤ _), (by decide : 6 + 0 ≤ _)⟩)
      dsimp only [Pt.U, Pt.locs, Pt.cells, Pt.slots] at Xg103 lg103 yg103 zg103 stg103 hQg103
      subst lg103 yg103 zg103
      obtain ⟨rfl, Ng103q, Kg103, F_10, F_11, F_12⟩ := hQg103
      have F_13 := F_9.keep Kg103 (ninS ne_b74_b85 nin0)
      have Zz_4 : n0 ≤ Tg103.heap.size := Nat.le_trans Zz_3 Kg103.1
      obtain ⟨w103_depth, hw103_depth⟩ : ∃ z : Int32, z = (if (0 : Int32) = (2 : Int32) then (0 : Int32) else ((0 : Int32) + (1 : Int32))) := ⟨_, rfl⟩
      have F_14 : Fld Z Tg103.heap b85 "com/example/wireform/wireform/wire/Nesting" "depth" "I" (.int w103_depth) := by subst hw103_depth; exact F_12
      have Ng103 := Fr.app Ng91 Ng103q
      refine own_st (fun _ k => stg103.trans k) ?_
      have c106 : ¬ ((0 : Int32) = (2 : Int32)) := by
        decide
      refine own_st (B := Tg103.setTop (mkF m 111 #[.val (.int p0), .val (.int p1), .val (.int p2), .val (.int p3), .val (.int p4), .val (.int (2 : Int32)), .val (.int (own_b (¬ ((p1 &&& (1 : Int32)) = (0 : Int32))))), .val (.int (own_b (¬ ((p1 &&& (1 : Int32)) = (0 : Int32))))), .val (.int v43), .val (.int v51), .val (.int (own_b (¬ ((p4 &&& (1 : Int32)) = (0 : Int32)) ∧ (¬ (v51 < (1 : Int32)))))), .val (.ref b74), .val (.ref b85), .unset, .unset, .unset, .unset, .unset, .unset, .unset] [])) (fun target kt => ?_) ?_
      · show Steps p.tables e below (Tg103.setTop (mkF m 106 #[.val (.int p0), .val (.int p1), .val (.int p2), .val (.int p3), .val (.int p4), .val (.int (2 : Int32)), .val (.int (own_b (¬ ((p1 &&& (1 : Int32)) = (0 : Int32))))), .val (.int (own_b (¬ ((p1 &&& (1 : Int32)) = (0 : Int32))))), .val (.int v43), .val (.int v51), .val (.int (own_b (¬ ((p4 &&& (1 : Int32)) = (0 : Int32)) ∧ (¬ (v51 < (1 : Int32)))))), .val (.ref b74), .val (.ref b85), .unset, .unset, .unset, .unset, .unset, .unset, .unset] [(.int (own_b (¬ ((0 : Int32) = (2 : Int32)))))])) target
        refine XS.ifYes Xg103.here hx rfl (pc0 := 106) (pc' := 111) rfl (hb hby at_106) rfl ((if0 _ _).trans (feq (own_bn0 rfl c106)).2) (by decide) (by decide) ?_
        exact kt
      obtain ⟨Tg111, hg111, Xg111, eg111, Eg111, Ag111, Dg111, -, stg111⟩ := newO Xg103 hx hZ hown (hw _ (List.mem_of_getElem? (i := 12) rfl)) (hw _ (List.mem_of_getElem? (i := 13) rfl)) (hw _ (List.mem_of_getElem? (i := 14) rfl)) rfl (g := (mkF m 111 #[.val (.int p0), .val (.int p1), .val (.int p2), .val (.int p3), .val (.int p4), .val (.int (2 : Int32)), .val (.int (own_b (¬ ((p1 &&& (1 : Int32)) = (0 : Int32))))), .val (.int (own_b (¬ ((p1 &&& (1 : Int32)) = (0 : Int32))))), .val (.int v43), .val (.int v51), .val (.int (own_b (¬ ((p4 &&& (1 : Int32)) = (0 : Int32)) ∧ (¬ (v51 < (1 : Int32)))))), .val (.ref b74), .val (.ref b85), .unset, .unset, .unset, .unset, .unset, .unset, .unset] [])) rfl (hb hby at_111) (by decide) (by decide)
      obtain ⟨b111, gg111⟩ : ∃ z, z = Tg103.heap.size := ⟨_, rfl⟩
      rw [← gg111] at Ag111 Dg111 stg111
      refine own_st stg111 ?_
      have ne_b74_b111 : b74 ≠ b111 := Nat.ne_of_lt (Nat.lt_of_lt_of_le F_13.lt (Nat.le_of_eq gg111.symm))
      have ne_b85_b111 : b85 ≠ b111 := Nat.ne_of_lt (Nat.lt_of_lt_of_le F_10.lt (Nat.le_of_eq gg111.symm))
      have g_b111 : n0 ≤ b111 := Nat.le_trans Zz_4 (Nat.le_of_eq gg111.symm)
      have F_15 := F_13.ext Eg111
      have F_16 := F_10.ext Eg111
      have F_17 := F_11.ext Eg111
      have F_18 := F_14.ext Eg111
      have Zz_5 : n0 ≤ hg111.size := Nat.le_trans Zz_4 Eg111.1
      have F_19 : Fld Z hg111 b111 "com/example/wireform/wireform/wire/WireReader" "bytes" "[B" .null := Dg111 (Or.inr (hw _ (List.mem_of_getElem? (i := 20) rfl))) (ty := (.array .byte)) (by decide)
      have F_20 : Fld Z hg111 b111 "com/example/wireform/wireform/wire/WireReader" "end" "I" (.int (0 : Int32)) := Dg111 (Or.inr (hw _ (List.mem_of_getElem? (i := 22) rfl))) (ty := .int) (by decide)
      have F_21 : Fld Z hg111 b111 "com/example/wireform/wireform/wire/WireReader" "nesting" "Lcom/example/wireform/wireform/wire/Nesting;" .null := Dg111 (Or.inr (hw _ (List.mem_of_getElem? (i := 24) rfl))) (ty := (.object "com/example/wireform/wireform/wire/Nesting")) (by decide)
      have F_22 : Fld Z hg111 b111 "com/example/wireform/wireform/wire/WireReader" "limit" "I" (.int (0 : Int32)) := Dg111 (Or.inl (hw _ (List.mem_of_getElem? (i := 26) rfl))) (ty := .int) (by decide)
      have F_23 : Fld Z hg111 b111 "com/example/wireform/wireform/wire/WireReader" "position" "I" (.int (0 : Int32)) := Dg111 (Or.inl (hw _ (List.mem_of_getElem? (i := 49) rfl))) (ty := .int) (by decide)
      refine own_st (B := Tg111.setTop (mkF m 121 #[.val (.int p0), .val (.int p1), .val (.int p2), .val (.int p3), .val (.int p4), .val (.int (2 : Int32)), .val (.int (own_b (¬ ((p1 &&& (1 : Int32)) = (0 : Int32))))), .val (.int (own_b (¬ ((p1 &&& (1 : Int32)) = (0 : Int32))))), .val (.int v43), .val (.int v51), .val (.int (own_b (¬ ((p4 &&& (1 : Int32)) = (0 : Int32)) ∧ (¬ (v51 < (1 : Int32)))))), .val (.ref b74), .val (.ref b85), .unset, .unset, .unset, .unset, .unset, .unset, .unset] [(.ref b85), (.int v43), (.ref b74), (.ref b111), (.ref b111)])) (fun target kt => ?_) ?_
      · show Steps p.tables e below (Tg111.setTop (mkF m 114 #[.val (.int p0), .val (.int p1), .val (.int p2), .val (.int p3), .val (.int p4), .val (.int (2 : Int32)), .val (.int (own_b (¬ ((p1 &&& (1 : Int32)) = (0 : Int32))))), .val (.int (own_b (¬ ((p1 &&& (1 : Int32)) = (0 : Int32))))), .val (.int v43), .val (.int v51), .val (.int (own_b (¬ ((p4 &&& (1 : Int32)) = (0 : Int32)) ∧ (¬ (v51 < (1 : Int32)))))), .val (.ref b74), .val (.ref b85), .unset, .unset, .unset, .unset, .unset, .unset, .unset] [(.ref b111)])) target
        refine XS.dup Xg111.here hx rfl (hb hby at_114) rfl rfl ?_
        show Steps p.tables e below (Tg111.setTop (mkF m 115 #[.val (.int p0), .val (.int p1), .val (.int p2), .val (.int p3), .val (.int p4), .val (.int (2 : Int32)), .val (.int (own_b (¬ ((p1 &&& (1 : Int32)) = (0 : Int32))))), .val (.int (own_b (¬ ((p1 &&& (1 : Int32)) = (0 : Int32))))), .val (.int v43), .val (.int v51), .val (.int (own_b (¬ ((p4 &&& (1 : Int32)) = (0 : Int32)) ∧ (¬ (v51 < (1 : Int32)))))), .val (.ref b74), .val (.ref b85), .unset, .unset, .unset, .unset, .unset, .unset, .unset] [(.ref b111), (.ref b111)])) target
        refine XS.aload Xg111.here hx rfl (hb hby at_115) rfl rfl ?_
        show Steps p.tables e below (Tg111.setTop (mkF m 117 #[.val (.int p0), .val (.int p1), .val (.int p2), .val (.int p3), .val (.int p4), .val (.int (2 : Int32)), .val (.int (own_b (¬ ((p1 &&& (1 : Int32)) = (0 : Int32))))), .val (.int (own_b (¬ ((p1 &&& (1 : Int32)) = (0 : Int32))))), .val (.int v43), .val (.int v51), .val (.int (own_b (¬ ((p4 &&& (1 : Int32)) = (0 : Int32)) ∧ (¬ (v51 < (1 : Int32)))))), .val (.ref b74), .val (.ref b85), .unset, .unset, .unset, .unset, .unset, .unset, .unset] [(.ref b74), (.ref b111), (.ref b111)])) target
        refine XS.iload Xg111.here hx rfl (hb hby at_117) rfl ?_
        show Steps p.tables e below (Tg111.setTop (mkF m 119 #[.val (.int p0), .val (.int p1), .val (.int p2), .val (.int p3), .val (.int p4), .val (.int (2 : Int32)), .val (.int (own_b (¬ ((p1 &&& (1 : Int32)) = (0 : Int32))))), .val (.int (own_b (¬ ((p1 &&& (1 : Int32)) = (0 : Int32))))), .val (.int v43), .val (.int v51), .val (.int (own_b (¬ ((p4 &&& (1 : Int32)) = (0 : Int32)) ∧ (¬ (v51 < (1 : Int32)))))), .val (.ref b74), .val (.ref b85), .unset, .unset, .unset, .unset, .unset, .unset, .unset] [(.int v43), (.ref b74), (.ref b111), (.ref b111)])) target
        refine XS.aload Xg111.here hx rfl (hb hby at_119) rfl rfl ?_
        exact kt
      obtain ⟨_, _, ⟨Tg121, Lg121, kg121, ng121⟩, -, Xg121, ⟨Lcg121, hQg121, lg121, yg121, zg121⟩, stg121⟩ := Xg111.specialBack hx (y := (⟨"com/example/wireform/wireform/wire/WireReader", "<init>", "([BILcom/example/wireform/wireform/wire/Nesting;)V"⟩ : MethodName)) rfl hown (mvT hZ (hw _ (List.mem_of_getElem? (i := 15) rfl))) (mvT hZ (hw _ (List.mem_of_getElem? (i := 16) rfl))) (mvT hZ (hw _ (List.mem_of_getElem? (i := 17) rfl))) (by decide) (backOf (W := 1) (own_rm3 l Z a0 hw [] b111 b74 v43 b85 hg111 n0 Zz_5 Ag111 F_19 F_20 F_21 F_22 F_23 g_b111) hZ (hw _ (List.mem_of_getElem? (i := 17) rfl)) (hw _ (List.mem_of_getElem? (i := 14) rfl)) (by decide) (by decide)) (g := (mkF m 121 #[.val (.int p0), .val (.int p1), .val (.int p2), .val (.int p3), .val (.int p4), .val (.int (2 : Int32)), .val (.int (own_b (¬ ((p1 &&& (1 : Int32)) = (0 : Int32))))), .val (.int (own_b (¬ ((p1 &&& (1 : Int32)) = (0 : Int32))))), .val (.int v43), .val (.int v51), .val (.int (own_b (¬ ((p4 &&& (1 : Int32)) = (0 : Int32)) ∧ (¬ (v51 < (1 : Int32)))))), .val (.ref b74), .val (.ref b85), .unset, .unset, .unset, .unset, .unset, .unset, .unset] [(.ref b85), (.int v43), (.ref b74), (.ref b111), (.ref b111)])) rfl (by rw [hml]; rfl) (Steps.refl _) (a := b111) (argsL := [(.ref b74), (.int v43), (.ref b85)]) (rest := [(.ref b111)]) (lenOf own_pd6 rfl) rfl (by show 2 * 0 + _ ≤ _; exact Nat.le_of_eq rfl) (hb hby at_121) (fun _ _ => ⟨rfl, eg111, (by decide : 3 + 0 ≤ _), (by decide : 11 + 0 ≤ _)⟩)
      dsimp only [Pt.U, Pt.locs, Pt.cells, Pt.slots] at Xg121 lg121 yg121 zg121 stg121 hQg121
      subst lg121 yg121 zg121
      obtain ⟨rfl, Ng121q, Kg121, F_24, F_25, F_26, F_27, F_28, F_29⟩ := hQg121
      have F_30 := F_15.keep Kg121 (ninS ne_b74_b111 nin0)
      have F_31 := F_16.keep Kg121
      have F_32 := F_17.keep Kg121 (ninS ne_b85_b111 nin0)
      have F_33 := F_18.keep Kg121 (ninS ne_b85_b111 nin0)
      have Zz_6 : n0 ≤ Tg121.heap.size := Nat.le_trans Zz_5 Kg121.1
      have Ng121 := Fr.app Ng103 Ng121q
      refine own_st (fun _ k => stg121.trans k) ?_
      refine own_st (B := Tg121.setTop (mkF m 128 #[.val (.int p0), .val (.int p1), .val (.int p2), .val (.int p3), .val (.int p4), .val (.int (2 : Int32)), .val (.int (own_b (¬ ((p1 &&& (1 : Int32)) = (0 : Int32))))), .val (.int (own_b (¬ ((p1 &&& (1 : Int32)) = (0 : Int32))))), .val (.int v43), .val (.int v51), .val (.int (own_b (¬ ((p4 &&& (1 : Int32)) = (0 : Int32)) ∧ (¬ (v51 < (1 : Int32)))))), .val (.ref b74), .val (.ref b85), .val (.ref b111), .unset, .unset, .unset, .unset, .unset, .unset] [(.ref b111)])) (fun target kt => ?_) ?_
      · show Steps p.tables e below (Tg121.setTop (mkF m 124 #[.val (.int p0), .val (.int p1), .val (.int p2), .val (.int p3), .val (.int p4), .val (.int (2 : Int32)), .val (.int (own_b (¬ ((p1 &&& (1 : Int32)) = (0 : Int32))))), .val (.int (own_b (¬ ((p1 &&& (1 : Int32)) = (0 : Int32))))), .val (.int v43), .val (.int v51), .val (.int (own_b (¬ ((p4 &&& (1 : Int32)) = (0 : Int32)) ∧ (¬ (v51 < (1 : Int32)))))), .val (.ref b74), .val (.ref b85), .unset, .unset, .unset, .unset, .unset, .unset, .unset] [(.ref b111)])) target
        refine XS.astore Xg121.here hx rfl (hb hby at_124) rfl rfl (l' := #[.val (.int p0), .val (.int p1), .val (.int p2), .val (.int p3), .val (.int p4), .val (.int (2 : Int32)), .val (.int (own_b (¬ ((p1 &&& (1 : Int32)) = (0 : Int32))))), .val (.int (own_b (¬ ((p1 &&& (1 : Int32)) = (0 : Int32))))), .val (.int v43), .val (.int v51), .val (.int (own_b (¬ ((p4 &&& (1 : Int32)) = (0 : Int32)) ∧ (¬ (v51 < (1 : Int32)))))), .val (.ref b74), .val (.ref b85), .val (.ref b111), .unset, .unset, .unset, .unset, .unset, .unset]) rfl ?_
        show Steps p.tables e below (Tg121.setTop (mkF m 126 #[.val (.int p0), .val (.int p1), .val (.int p2), .val (.int p3), .val (.int p4), .val (.int (2 : Int32)), .val (.int (own_b (¬ ((p1 &&& (1 : Int32)) = (0 : Int32))))), .val (.int (own_b (¬ ((p1 &&& (1 : Int32)) = (0 : Int32))))), .val (.int v43), .val (.int v51), .val (.int (own_b (¬ ((p4 &&& (1 : Int32)) = (0 : Int32)) ∧ (¬ (v51 < (1 : Int32)))))), .val (.ref b74), .val (.ref b85), .val (.ref b111), .unset, .unset, .unset, .unset, .unset, .unset] [])) target
        refine XS.aload Xg121.here hx rfl (hb hby at_126) rfl rfl ?_
        exact kt
      obtain ⟨cqg128, kqg128, qg128a, qg128b, qg128c⟩ := isOf hZ rfl F_24
      obtain ⟨_, _, ⟨Tg128, Lg128, kg128, ng128⟩, -, Xg128, ⟨Lcg128, hQg128, lg128, yg128, zg128⟩, stg128⟩ := Xg121.virtualBack hx (y := (⟨"com/example/wireform/wireform/wire/WireReader", "beginMessage", "()I"⟩ : MethodName)) (z := (⟨"com/example/wireform/wireform/wire/WireReader", "beginMessage", "()I"⟩ : MethodName)) hown (mvT hZ (hw _ (List.mem_of_getElem? (i := 27) rfl))) (mvT hZ (hw _ (List.mem_of_getElem? (i := 28) rfl))) (notFace_of_selects (args := #[]) (mvT hZ (hw _ (List.mem_of_getElem? (i := 30) rfl)))) (mvT hZ (hw _ (List.mem_of_getElem? (i := 30) rfl))) (mvT hZ (hw _ (List.mem_of_getElem? (i := 29) rfl))) (by decide) (backOf (W := 0) (own_rm4 l Z a0 hw [] b111 b74 v43 b85 v43 (0 : Int32) (2 : Int32) w103_depth a84 Tg121.heap n0 Zz_6 F_24 F_25 F_26 F_27 F_28 F_29 F_31 F_32 F_33 F_30 g_b111 g_b85 (Ne.symm ne_b74_b111) (Ne.symm ne_b85_b111) (Ne.symm ne_b74_b85) (show own_V (0 : Int32) v43 (a84 (0 : Int32).toNatClampNeg) 4 from hV0) (show ¬ (w103_depth = (2 : Int32)) from (by simp only [hw103_depth]; decide))) hZ (hw _ (List.mem_of_getElem? (i := 31) rfl)) (hw _ (List.mem_of_getElem? (i := 14) rfl)) (by decide) (by decide)) qg128a qg128c (g := (mkF m 128 #[.val (.int p0), .val (.int p1), .val (.int p2), .val (.int p3), .val (.int p4), .val (.int (2 : Int32)), .val (.int (own_b (¬ ((p1 &&& (1 : Int32)) = (0 : Int32))))), .val (.int (own_b (¬ ((p1 &&& (1 : Int32)) = (0 : Int32))))), .val (.int v43), .val (.int v51), .val (.int (own_b (¬ ((p4 &&& (1 : Int32)) = (0 : Int32)) ∧ (¬ (v51 < (1 : Int32)))))), .val (.ref b74), .val (.ref b85), .val (.ref b111), .unset, .unset, .unset, .unset, .unset, .unset] [(.ref b111)])) rfl (by rw [hml]; rfl) (Steps.refl _) (argsL := []) (rest := []) (lenOf own_pd2 rfl) rfl (by show 2 * 0 + _ ≤ _; exact Nat.le_of_eq rfl) (hb hby at_128) (fun _ _ => ⟨rfl, rfl, (by decide : 3 + 0 ≤ _), (by decide : 11 + 0 ≤ _)⟩)
      dsimp only [Pt.U, Pt.locs, Pt.cells, Pt.slots] at Xg128 lg128 yg128 zg128 stg128 hQg128
      subst lg128 yg128 zg128
      obtain ⟨rfl, Ng128q, Kg128, F_34, F_35, F_36, F_37, F_38, F_39, F_40, F_41, F_42⟩ := hQg128
      have F_43 := F_30.keep Kg128 (ninS ne_b74_b111 (ninS ne_b74_b85 nin0))
      have Zz_7 : n0 ≤ Tg128.heap.size := Nat.le_trans Zz_6 Kg128.1
      obtain ⟨w128_limit, hw128_limit⟩ : ∃ z : Int32, z = ((((0 : Int32) + (1 : Int32))) + (a84 (0 : Int32).toNatClampNeg)) := ⟨_, rfl⟩
      have F_44 : Fld Z Tg128.heap b111 "com/example/wireform/wireform/wire/WireReader" "limit" "I" (.int w128_limit) := by subst hw128_limit; exact F_38
      obtain ⟨w128_position, hw128_position⟩ : ∃ z : Int32, z = ((0 : Int32) + (1 : Int32)) := ⟨_, rfl⟩
      have F_45 : Fld Z Tg128.heap b111 "com/example/wireform/wireform/wire/WireReader" "position" "I" (.int w128_position) := by subst hw128_position; exact F_39
      obtain ⟨w128_depth, hw128_depth⟩ : ∃ z : Int32, z = (if w103_depth = (2 : Int32) then w103_depth else (w103_depth + (1 : Int32))) := ⟨_, rfl⟩
      have F_46 : Fld Z Tg128.heap b85 "com/example/wireform/wireform/wire/Nesting" "depth" "I" (.int w128_depth) := by subst hw128_depth; exact F_42
      have Ng128 := Fr.app Ng121 Ng128q
      refine own_st (fun _ k => stg128.trans k) ?_
      refine own_st (B := Tg128.setTop (mkF m 138 #[.val (.int p0), .val (.int p1), .val (.int p2), .val (.int p3), .val (.int p4), .val (.int (2 : Int32)), .val (.int (own_b (¬ ((p1 &&& (1 : Int32)) = (0 : Int32))))), .val (.int (own_b (¬ ((p1 &&& (1 : Int32)) = (0 : Int32))))), .val (.int v43), .val (.int v51), .val (.int (own_b (¬ ((p4 &&& (1 : Int32)) = (0 : Int32)) ∧ (¬ (v51 < (1 : Int32)))))), .val (.ref b74), .val (.ref b85), .val (.ref b111), .val (.int v43), .val (.int (1 : Int32)), .unset, .unset, .unset, .unset] [(.int (own_b (¬ ((p4 &&& (1 : Int32)) = (0 : Int32)) ∧ (¬ (v51 < (1 : Int32))))))])) (fun target kt => ?_) ?_
      · show Steps p.tables e below (Tg128.setTop (mkF m 131 #[.val (.int p0), .val (.int p1), .val (.int p2), .val (.int p3), .val (.int p4), .val (.int (2 : Int32)), .val (.int (own_b (¬ ((p1 &&& (1 : Int32)) = (0 : Int32))))), .val (.int (own_b (¬ ((p1 &&& (1 : Int32)) = (0 : Int32))))), .val (.int v43), .val (.int v51), .val (.int (own_b (¬ ((p4 &&& (1 : Int32)) = (0 : Int32)) ∧ (¬ (v51 < (1 : Int32)))))), .val (.ref b74), .val (.ref b85), .val (.ref b111), .unset, .unset, .unset, .unset, .unset, .unset] [(.int v43)])) target
        refine XS.istore Xg128.here hx rfl (hb hby at_131) rfl (l' := #[.val (.int p0), .val (.int p1), .val (.int p2), .val (.int p3), .val (.int p4), .val (.int (2 : Int32)), .val (.int (own_b (¬ ((p1 &&& (1 : Int32)) = (0 : Int32))))), .val (.int (own_b (¬ ((p1 &&& (1 : Int32)) = (0 : Int32))))), .val (.int v43), .val (.int v51), .val (.int (own_b (¬ ((p4 &&& (1 : Int32)) = (0 : Int32)) ∧ (¬ (v51 < (1 : Int32)))))), .val (.ref b74), .val (.ref b85), .val (.ref b111), .val (.int v43), .unset, .unset, .unset, .unset, .unset]) rfl ?_
        show Steps p.tables e below (Tg128.setTop (mkF m 133 #[.val (.int p0), .val (.int p1), .val (.int p2), .val (.int p3), .val (.int p4), .val (.int (2 : Int32)), .val (.int (own_b (¬ ((p1 &&& (1 : Int32)) = (0 : Int32))))), .val (.int (own_b (¬ ((p1 &&& (1 : Int32)) = (0 : Int32))))), .val (.int v43), .val (.int v51), .val (.int (own_b (¬ ((p4 &&& (1 : Int32)) = (0 : Int32)) ∧ (¬ (v51 < (1 : Int32)))))), .val (.ref b74), .val (.ref b85), .val (.ref b111), .val (.int v43), .unset, .unset, .unset, .unset, .unset] [])) target
        refine XS.iconst Xg128.here hx rfl (hb hby at_133) ?_
        show Steps p.tables e below (Tg128.setTop (mkF m 134 #[.val (.int p0), .val (.int p1), .val (.int p2), .val (.int p3), .val (.int p4), .val (.int (2 : Int32)), .val (.int (own_b (¬ ((p1 &&& (1 : Int32)) = (0 : Int32))))), .val (.int (own_b (¬ ((p1 &&& (1 : Int32)) = (0 : Int32))))), .val (.int v43), .val (.int v51), .val (.int (own_b (¬ ((p4 &&& (1 : Int32)) = (0 : Int32)) ∧ (¬ (v51 < (1 : Int32)))))), .val (.ref b74), .val (.ref b85), .val (.ref b111), .val (.int v43), .unset, .unset, .unset, .unset, .unset] [(.int (1 : Int32))])) target
        refine XS.istore Xg128.here hx rfl (hb hby at_134) rfl (l' := #[.val (.int p0), .val (.int p1), .val (.int p2), .val (.int p3), .val (.int p4), .val (.int (2 : Int32)), .val (.int (own_b (¬ ((p1 &&& (1 : Int32)) = (0 : Int32))))), .val (.int (own_b (¬ ((p1 &&& (1 : Int32)) = (0 : Int32))))), .val (.int v43), .val (.int v51), .val (.int (own_b (¬ ((p4 &&& (1 : Int32)) = (0 : Int32)) ∧ (¬ (v51 < (1 : Int32)))))), .val (.ref b74), .val (.ref b85), .val (.ref b111), .val (.int v43), .val (.int (1 : Int32)), .unset, .unset, .unset, .unset]) rfl ?_
        show Steps p.tables e below (Tg128.setTop (mkF m 136 #[.val (.int p0), .val (.int p1), .val (.int p2), .val (.int p3), .val (.int p4), .val (.int (2 : Int32)), .val (.int (own_b (¬ ((p1 &&& (1 : Int32)) = (0 : Int32))))), .val (.int (own_b (¬ ((p1 &&& (1 : Int32)) = (0 : Int32))))), .val (.int v43), .val (.int v51), .val (.int (own_b (¬ ((p4 &&& (1 : Int32)) = (0 : Int32)) ∧ (¬ (v51 < (1 : Int32)))))), .val (.ref b74), .val (.ref b85), .val (.ref b111), .val (.int v43), .val (.int (1 : Int32)), .unset, .unset, .unset, .unset] [])) target
        refine XS.iload Xg128.here hx rfl (hb hby at_136) rfl ?_
        exact kt
      obtain ⟨_, ⟨T_M156, h_M156, lc_M156, j156_l15, j156_f_b111_position, rfl, X_M156, e_M156, N_M156, Z_M156, F_58, F_59, F_60, F_61, F_62, F_63, F_64, F_65, F_66, F_67, hj156_l15, hj156_f_b111_position⟩, st_M156⟩ : own_Lead p.tables e below (Tg128.setTop (mkF m 138 #[.val (.int p0), .val (.int p1), .val (.int p2), .val (.int p3), .val (.int p4), .val (.int (2 : Int32)), .val (.int (own_b (¬ ((p1 &&& (1 : Int32)) = (0 : Int32))))), .val (.int (own_b (¬ ((p1 &&& (1 : Int32)) = (0 : Int32))))), .val (.int v43), .val (.int v51), .val (.int (own_b (¬ ((p4 &&& (1 : Int32)) = (0 : Int32)) ∧ (¬ (v51 < (1 : Int32)))))), .val (.ref b74), .val (.ref b85), .val (.ref b111), .val (.int v43), .val (.int (1 : Int32)), .unset, .unset, .unset, .unset] [(.int (own_b (¬ ((p4 &&& (1 : Int32)) = (0 : Int32)) ∧ (¬ (v51 < (1 : Int32))))))])) (fun B => ∃ (T_M156 : State) (h_M156 : Heap) (lc_M156 : List Loc) (j156_l15 : Int32) (j156_f_b111_position : Int32), B = T_M156.setTop (mkF m 156 #[.val (.int p0), .val (.int p1), .val (.int p2), .val (.int p3), .val (.int p4), .val (.int (2 : Int32)), .val (.int (own_b (¬ ((p1 &&& (1 : Int32)) = (0 : Int32))))), .val (.int (own_b (¬ ((p1 &&& (1 : Int32)) = (0 : Int32))))), .val (.int v43), .val (.int v51), .val (.int (own_b (¬ ((p4 &&& (1 : Int32)) = (0 : Int32)) ∧ (¬ (v51 < (1 : Int32)))))), .val (.ref b74), .val (.ref b85), .val (.ref b111), .val (.int v43), .val (.int j156_l15), .unset, .unset, .unset, .unset] []) ∧ Stand p l e room_1 s m #[(.int p0), (.int p1), (.int p2), (.int p3), (.int p4)] below meth c T_M156 lc_M156 3 11 ∧ T_M156.heap = h_M156 ∧ Fr n0 lc_M156 ∧ n0 ≤ h_M156.size ∧ own_RayB Z h_M156 b74 4 a84 ∧ Exa Z h_M156 b85 "com/example/wireform/wireform/wire/Nesting" ∧ Fld Z h_M156 b85 "com/example/wireform/wireform/wire/Nesting" "limit" "I" (.int (2 : Int32)) ∧ Fld Z h_M156 b85 "com/example/wireform/wireform/wire/Nesting" "depth" "I" (.int w128_depth) ∧ Exa Z h_M156 b111 "com/example/wireform/wireform/wire/WireReader" ∧ Fld Z h_M156 b111 "com/example/wireform/wireform/wire/WireReader" "bytes" "[B" (.ref b74) ∧ Fld Z h_M156 b111 "com/example/wireform/wireform/wire/WireReader" "end" "I" (.int v43) ∧ Fld Z h_M156 b111 "com/example/wireform/wireform/wire/WireReader" "nesting" "Lcom/example/wireform/wireform/wire/Nesting;" (.ref b85) ∧ Fld Z h_M156 b111 "com/example/wireform/wireform/wire/WireReader" "limit" "I" (.int w128_limit) ∧ Fld Z h_M156 b111 "com/example/wireform/wireform/wire/WireReader" "position" "I" (.int j156_f_b111_position) ∧ j156_l15 = (if ¬ ((p4 &&& (1 : Int32)) = (0 : Int32)) ∧ (¬ (v51 < (1 : Int32))) then (2 : Int32) else (1 : Int32)) ∧ j156_f_b111_position = (if ¬ ((p4 &&& (1 : Int32)) = (0 : Int32)) ∧ (¬ (v51 < (1 : Int32))) then ((w128_position + (1 : Int32))) else w128_position)) := by
        by_cases c138 : ¬ ((p4 &&& (1 : Int32)) = (0 : Int32)) ∧ (¬ (v51 < (1 : Int32)))
        · refine own_st (B := Tg128.setTop (mkF m 143 #[.val (.int p0), .val (.int p1), .val (.int p2), .val (.int p3), .val (.int p4), .val (.int (2 : Int32)), .val (.int (own_b (¬ ((p1 &&& (1 : Int32)) = (0 : Int32))))), .val (.int (own_b (¬ ((p1 &&& (1 : Int32)) = (0 : Int32))))), .val (.int v43), .val (.int v51), .val (.int (own_b (¬ ((p4 &&& (1 : Int32)) = (0 : Int32)) ∧ (¬ (v51 < (1 : Int32)))))), .val (.ref b74), .val (.ref b85), .val (.ref b111), .val (.int v43), .val (.int (1 : Int32)), .unset, .unset, .unset, .unset] [(.ref b111)])) (fun target kt => ?_) ?_
          · show Steps p.tables e below (Tg128.setTop (mkF m 138 #[.val (.int p0), .val (.int p1), .val (.int p2), .val (.int p3), .val (.int p4), .val (.int (2 : Int32)), .val (.int (own_b (¬ ((p1 &&& (1 : Int32)) = (0 : Int32))))), .val (.int (own_b (¬ ((p1 &&& (1 : Int32)) = (0 : Int32))))), .val (.int v43), .val (.int v51), .val (.int (own_b (¬ ((p4 &&& (1 : Int32)) = (0 : Int32)) ∧ (¬ (v51 < (1 : Int32)))))), .val (.ref b74), .val (.ref b85), .val (.ref b111), .val (.int v43), .val (.int (1 : Int32)), .unset, .unset, .unset, .unset] [(.int (own_b (¬ ((p4 &&& (1 : Int32)) = (0 : Int32)) ∧ (¬ (v51 < (1 : Int32))))))])) target
            refine XS.ifNo Xg128.here hx rfl (hb hby at_138) rfl ((if0 _ _).trans (feq (own_bn0 rfl c138)).1) ?_
            show Steps p.tables e below (Tg128.setTop (mkF m 141 #[.val (.int p0), .val (.int p1), .val (.int p2), .val (.int p3), .val (.int p4), .val (.int (2 : Int32)), .val (.int (own_b (¬ ((p1 &&& (1 : Int32)) = (0 : Int32))))), .val (.int (own_b (¬ ((p1 &&& (1 : Int32)) = (0 : Int32))))), .val (.int v43), .val (.int v51), .val (.int (own_b (¬ ((p4 &&& (1 : Int32)) = (0 : Int32)) ∧ (¬ (v51 < (1 : Int32)))))), .val (.ref b74), .val (.ref b85), .val (.ref b111), .val (.int v43), .val (.int (1 : Int32)), .unset, .unset, .unset, .unset] [])) target
            refine XS.aload Xg128.here hx rfl (hb hby at_141) rfl rfl ?_
            exact kt
          obtain ⟨cqg143, kqg143, qg143a, qg143b, qg143c⟩ := isOf hZ rfl F_34
          obtain ⟨_, _, ⟨Tg143, Lg143, kg143, ng143⟩, -, Xg143, ⟨Lcg143, hQg143, lg143, yg143, zg143⟩, stg143⟩ := Xg128.virtualBack hx (y := (⟨"com/example/wireform/wireform/wire/WireReader", "readVarint", "()J"⟩ : MethodName)) (z := (⟨"com/example/wireform/wireform/wire/WireReader", "readVarint", "()J"⟩ : MethodName)) hown (mvT hZ (hw _ (List.mem_of_getElem? (i := 84) rfl))) (mvT hZ (hw _ (List.mem_of_getElem? (i := 51) rfl))) (notFace_of_selects (args := #[]) (mvT hZ (hw _ (List.mem_of_getElem? (i := 53) rfl)))) (mvT hZ (hw _ (List.mem_of_getElem? (i := 53) rfl))) (mvT hZ (hw _ (List.mem_of_getElem? (i := 52) rfl))) (by decide) (backOf (W := 0) (own_rm8 l Z a0 hw [] b111 b74 v43 b85 w128_limit w128_position a84 Tg128.heap n0 Zz_7 F_34 F_35 F_36 F_37 F_44 F_45 F_43 g_b111 (Ne.symm ne_b74_b111) (show own_V w128_position w128_limit (a84 (w128_position).toNatClampNeg) 4 from (by have hp : w128_position = 1 := by { rw [hw128_position]; decide }; have hl : w128_limit = (1 : Int32) + v51 := by { rw [hw128_limit, hA0]; rfl }; have hx : a84 (w128_position).toNatClampNeg = 0 := by { rw [hp, ha84]; first | rfl | decide | simp }; rw [hx, hp, hl]; exact own_V1 v51 c138.2 (by omega) (by omega)))) hZ (hw _ (List.mem_of_getElem? (i := 54) rfl)) (hw _ (List.mem_of_getElem? (i := 14) rfl)) (by decide) (by decide)) qg143a qg143c (g := (mkF m 143 #[.val (.int p0), .val (.int p1), .val (.int p2), .val (.int p3), .val (.int p4), .val (.int (2 : Int32)), .val (.int (own_b (¬ ((p1 &&& (1 : Int32)) = (0 : Int32))))), .val (.int (own_b (¬ ((p1 &&& (1 : Int32)) = (0 : Int32))))), .val (.int v43), .val (.int v51), .val (.int (own_b (¬ ((p4 &&& (1 : Int32)) = (0 : Int32)) ∧ (¬ (v51 < (1 : Int32)))))), .val (.ref b74), .val (.ref b85), .val (.ref b111), .val (.int v43), .val (.int (1 : Int32)), .unset, .unset, .unset, .unset] [(.ref b111)])) rfl (by rw [hml]; rfl) (Steps.refl _) (argsL := []) (rest := []) (lenOf own_pd1 rfl) rfl (by show 2 * 0 + _ ≤ _; exact Nat.le_of_eq rfl) (hb hby at_143) (fun _ _ => ⟨rfl, rfl, (by decide : 3 + 0 ≤ _), (by decide : 11 + 0 ≤ _)⟩)
          dsimp only [Pt.U, Pt.locs, Pt.cells, Pt.slots] at Xg143 lg143 yg143 zg143 stg143 hQg143
          subst lg143 yg143 zg143
          obtain ⟨rfl, Ng143q, Kg143, F_47, F_48, F_49, F_50, F_51, F_52⟩ := hQg143
          have F_53 := F_43.keep Kg143 (ninS ne_b74_b111 nin0)
          have F_54 := F_40.keep Kg143
          have F_55 := F_41.keep Kg143 (ninS ne_b85_b111 nin0)
          have F_56 := F_46.keep Kg143 (ninS ne_b85_b111 nin0)
          have Zz_8 : n0 ≤ Tg143.heap.size := Nat.le_trans Zz_7 Kg143.1
          obtain ⟨w143_position, hw143_position⟩ : ∃ z : Int32, z = (w128_position + (1 : Int32)) := ⟨_, rfl⟩
          have F_57 : Fld Z Tg143.heap b111 "com/example/wireform/wireform/wire/WireReader" "position" "I" (.int w143_position) := by subst hw143_position; exact F_52
          have Ng143 := Fr.app Ng128 Ng143q
          refine own_st (fun _ k => stg143.trans k) ?_
          refine own_st (B := Tg143.setTop (mkF m 148 #[.val (.int p0), .val (.int p1), .val (.int p2), .val (.int p3), .val (.int p4), .val (.int (2 : Int32)), .val (.int (own_b (¬ ((p1 &&& (1 : Int32)) = (0 : Int32))))), .val (.int (own_b (¬ ((p1 &&& (1 : Int32)) = (0 : Int32))))), .val (.int v43), .val (.int v51), .val (.int (own_b (¬ ((p4 &&& (1 : Int32)) = (0 : Int32)) ∧ (¬ (v51 < (1 : Int32)))))), .val (.ref b74), .val (.ref b85), .val (.ref b111), .val (.int v43), .val (.int (1 : Int32)), .unset, .unset, .unset, .unset] [(.int (lcmpW ((a84 (w128_position).toNatClampNeg).toInt64) (0 : Int64)))])) (fun target kt => ?_) ?_
          · show Steps p.tables e below (Tg143.setTop (mkF m 146 #[.val (.int p0), .val (.int p1), .val (.int p2), .val (.int p3), .val (.int p4), .val (.int (2 : Int32)), .val (.int (own_b (¬ ((p1 &&& (1 : Int32)) = (0 : Int32))))), .val (.int (own_b (¬ ((p1 &&& (1 : Int32)) = (0 : Int32))))), .val (.int v43), .val (.int v51), .val (.int (own_b (¬ ((p4 &&& (1 : Int32)) = (0 : Int32)) ∧ (¬ (v51 < (1 : Int32)))))), .val (.ref b74), .val (.ref b85), .val (.ref b111), .val (.int v43), .val (.int (1 : Int32)), .unset, .unset, .unset, .unset] [(.long ((a84 (w128_position).toNatClampNeg).toInt64))])) target
            refine XS.lconst Xg143.here hx rfl (hb hby at_146) ?_
            show Steps p.tables e below (Tg143.setTop (mkF m 147 #[.val (.int p0), .val (.int p1), .val (.int p2), .val (.int p3), .val (.int p4), .val (.int (2 : Int32)), .val (.int (own_b (¬ ((p1 &&& (1 : Int32)) = (0 : Int32))))), .val (.int (own_b (¬ ((p1 &&& (1 : Int32)) = (0 : Int32))))), .val (.int v43), .val (.int v51), .val (.int (own_b (¬ ((p4 &&& (1 : Int32)) = (0 : Int32)) ∧ (¬ (v51 < (1 : Int32)))))), .val (.ref b74), .val (.ref b85), .val (.ref b111), .val (.int v43), .val (.int (1 : Int32)), .unset, .unset, .unset, .unset] [(.long (0 : Int64)), (.long ((a84 (w128_position).toNatClampNeg).toInt64))])) target
            refine XS.lcmp Xg143.here hx rfl (hb hby at_147) rfl ?_
            exact kt
          have c148 : ((a84 (w128_position).toNatClampNeg).toInt64) = (0 : Int64) := by
            have hp : w128_position = 1 := by rw [hw128_position]; decide
            rw [hp, ha84]
            first | rfl | decide | simp
          refine own_st (B := Tg143.setTop (mkF m 156 #[.val (.int p0), .val (.int p1), .val (.int p2), .val (.int p3), .val (.int p4), .val (.int (2 : Int32)), .val (.int (own_b (¬ ((p1 &&& (1 : Int32)) = (0 : Int32))))), .val (.int (own_b (¬ ((p1 &&& (1 : Int32)) = (0 : Int32))))), .val (.int v43), .val (.int v51), .val (.int (own_b (¬ ((p4 &&& (1 : Int32)) = (0 : Int32)) ∧ (¬ (v51 < (1 : Int32)))))), .val (.ref b74), .val (.ref b85), .val (.ref b111), .val (.int v43), .val (.int (2 : Int32)), .unset, .unset, .unset, .unset] [])) (fun target kt => ?_) ?_
          · show Steps p.tables e below (Tg143.setTop (mkF m 148 #[.val (.int p0), .val (.int p1), .val (.int p2), .val (.int p3), .val (.int p4), .val (.int (2 : Int32)), .val (.int (own_b (¬ ((p1 &&& (1 : Int32)) = (0 : Int32))))), .val (.int (own_b (¬ ((p1 &&& (1 : Int32)) = (0 : Int32))))), .val (.int v43), .val (.int v51), .val (.int (own_b (¬ ((p4 &&& (1 : Int32)) = (0 : Int32)) ∧ (¬ (v51 < (1 : Int32)))))), .val (.ref b74), .val (.ref b85), .val (.ref b111), .val (.int v43), .val (.int (1 : Int32)), .unset, .unset, .unset, .unset] [(.int (lcmpW ((a84 (w128_position).toNatClampNeg).toInt64) (0 : Int64)))])) target
            refine XS.ifYes Xg143.here hx rfl (pc0 := 148) (pc' := 153) rfl (hb hby at_148) rfl ((if0 _ _).trans (teq ((lw_eq ((a84 (w128_position).toNatClampNeg).toInt64) (0 : Int64)).mpr c148)).1) (by decide) (by decide) ?_
            show Steps p.tables e below (Tg143.setTop (mkF m 153 #[.val (.int p0), .val (.int p1), .val (.int p2), .val (.int p3), .val (.int p4), .val (.int (2 : Int32)), .val (.int (own_b (¬ ((p1 &&& (1 : Int32)) = (0 : Int32))))), .val (.int (own_b (¬ ((p1 &&& (1 : Int32)) = (0 : Int32))))), .val (.int v43), .val (.int v51), .val (.int (own_b (¬ ((p4 &&& (1 : Int32)) = (0 : Int32)) ∧ (¬ (v51 < (1 : Int32)))))), .val (.ref b74), .val (.ref b85), .val (.ref b111), .val (.int v43), .val (.int (1 : Int32)), .unset, .unset, .unset, .unset] [])) target
            refine XS.iconst Xg143.here hx rfl (hb hby at_153) ?_
            show Steps p.tables e below (Tg143.setTop (mkF m 154 #[.val (.int p0), .val (.int p1), .val (.int p2), .val (.int p3), .val (.int p4), .val (.int (2 : Int32)), .val (.int (own_b (¬ ((p1 &&& (1 : Int32)) = (0 : Int32))))), .val (.int (own_b (¬ ((p1 &&& (1 : Int32)) = (0 : Int32))))), .val (.int v43), .val (.int v51), .val (.int (own_b (¬ ((p4 &&& (1 : Int32)) = (0 : Int32)) ∧ (¬ (v51 < (1 : Int32)))))), .val (.ref b74), .val (.ref b85), .val (.ref b111), .val (.int v43), .val (.int (1 : Int32)), .unset, .unset, .unset, .unset] [(.int (2 : Int32))])) target
            refine XS.istore Xg143.here hx rfl (hb hby at_154) rfl (l' := #[.val (.int p0), .val (.int p1), .val (.int p2), .val (.int p3), .val (.int p4), .val (.int (2 : Int32)), .val (.int (own_b (¬ ((p1 &&& (1 : Int32)) = (0 : Int32))))), .val (.int (own_b (¬ ((p1 &&& (1 : Int32)) = (0 : Int32))))), .val (.int v43), .val (.int v51), .val (.int (own_b (¬ ((p4 &&& (1 : Int32)) = (0 : Int32)) ∧ (¬ (v51 < (1 : Int32)))))), .val (.ref b74), .val (.ref b85), .val (.ref b111), .val (.int v43), .val (.int (2 : Int32)), .unset, .unset, .unset, .unset]) rfl ?_
            exact kt
          subst hw143_position
          exact ⟨_, ⟨Tg143, Tg143.heap, _, (2 : Int32), ((w128_position + (1 : Int32))), rfl, Xg143, rfl, Ng143, Zz_8, F_53, F_54, F_55, F_56, F_47, F_48, F_49, F_50, F_51, F_57, (if_pos c138).symm, (if_pos c138).symm⟩, fun _ k => k⟩
        · refine own_st (B := Tg128.setTop (mkF m 156 #[.val (.int p0), .val (.int p1), .val (.int p2), .val (.int p3), .val (.int p4), .val (.int (2 : Int32)), .val (.int (own_b (¬ ((p1 &&& (1 : Int32)) = (0 : Int32))))), .val (.int (own_b (¬ ((p1 &&& (1 : Int32)) = (0 : Int32))))), .val (.int v43), .val (.int v51), .val (.int (own_b (¬ ((p4 &&& (1 : Int32)) = (0 : Int32)) ∧ (¬ (v51 < (1 : Int32)))))), .val (.ref b74), .val (.ref b85), .val (.ref b111), .val (.int v43), .val (.int (1 : Int32)), .unset, .unset, .unset, .unset] [])) (fun target kt => ?_) ?_
          · show Steps p.tables e below (Tg128.setTop (mkF m 138 #[.val (.int p0), .val (.int p1), .val (.int p2), .val (.int p3), .val (.int p4), .val (.int (2 : Int32)), .val (.int (own_b (¬ ((p1 &&& (1 : Int32)) = (0 : Int32))))), .val (.int (own_b (¬ ((p1 &&& (1 : Int32)) = (0 : Int32))))), .val (.int v43), .val (.int v51), .val (.int (own_b (¬ ((p4 &&& (1 : Int32)) = (0 : Int32)) ∧ (¬ (v51 < (1 : Int32)))))), .val (.ref b74), .val (.ref b85), .val (.ref b111), .val (.int v43), .val (.int (1 : Int32)), .unset, .unset, .unset, .unset] [(.int (own_b (¬ ((p4 &&& (1 : Int32)) = (0 : Int32)) ∧ (¬ (v51 < (1 : Int32))))))])) target
            refine XS.ifYes Xg128.here hx rfl (pc0 := 138) (pc' := 156) rfl (hb hby at_138) rfl ((if0 _ _).trans (teq (own_b00 rfl c138)).1) (by decide) (by decide) ?_
            exact kt
          exact ⟨_, ⟨Tg128, Tg128.heap, _, (1 : Int32), w128_position, rfl, Xg128, rfl, Ng128, Zz_7, F_43, F_40, F_41, F_46, F_34, F_35, F_36, F_37, F_44, F_45, (if_neg c138).symm, (if_neg c138).symm⟩, fun _ k => k⟩
      refine own_st st_M156 ?_
      refine own_st (B := T_M156.setTop (mkF m 160 #[.val (.int p0), .val (.int p1), .val (.int p2), .val (.int p3), .val (.int p4), .val (.int (2 : Int32)), .val (.int (own_b (¬ ((p1 &&& (1 : Int32)) = (0 : Int32))))), .val (.int (own_b (¬ ((p1 &&& (1 : Int32)) = (0 : Int32))))), .val (.int v43), .val (.int v51), .val (.int (own_b (¬ ((p4 &&& (1 : Int32)) = (0 : Int32)) ∧ (¬ (v51 < (1 : Int32)))))), .val (.ref b74), .val (.ref b85), .val (.ref b111), .val (.int v43), .val (.int j156_l15), .unset, .unset, .unset, .unset] [(.int v43), (.ref b111)])) (fun target kt => ?_) ?_
      · show Steps p.tables e below (T_M156.setTop (mkF m 156 #[.val (.int p0), .val (.int p1), .val (.int p2), .val (.int p3), .val (.int p4), .val (.int (2 : Int32)), .val (.int (own_b (¬ ((p1 &&& (1 : Int32)) = (0 : Int32))))), .val (.int (own_b (¬ ((p1 &&& (1 : Int32)) = (0 : Int32))))), .val (.int v43), .val (.int v51), .val (.int (own_b (¬ ((p4 &&& (1 : Int32)) = (0 : Int32)) ∧ (¬ (v51 < (1 : Int32)))))), .val (.ref b74), .val (.ref b85), .val (.ref b111), .val (.int v43), .val (.int j156_l15), .unset, .unset, .unset, .unset] [])) target
        refine XS.aload X_M156.here hx rfl (hb hby at_156) rfl rfl ?_
        show Steps p.tables e below (T_M156.setTop (mkF m 158 #[.val (.int p0), .val (.int p1), .val (.int p2), .val (.int p3), .val (.int p4), .val (.int (2 : Int32)), .val (.int (own_b (¬ ((p1 &&& (1 : Int32)) = (0 : Int32))))), .val (.int (own_b (¬ ((p1 &&& (1 : Int32)) = (0 : Int32))))), .val (.int v43), .val (.int v51), .val (.int (own_b (¬ ((p4 &&& (1 : Int32)) = (0 : Int32)) ∧ (¬ (v51 < (1 : Int32)))))), .val (.ref b74), .val (.ref b85), .val (.ref b111), .val (.int v43), .val (.int j156_l15), .unset, .unset, .unset, .unset] [(.ref b111)])) target
        refine XS.iload X_M156.here hx rfl (hb hby at_158) rfl ?_
        exact kt
      obtain ⟨cqg160, kqg160, qg160a, qg160b, qg160c⟩ := isOf hZ e_M156 F_62
      obtain ⟨_, _, ⟨Tg160, Lg160, kg160, ng160⟩, -, Xg160, ⟨Lcg160, hQg160, lg160, yg160, zg160⟩, stg160⟩ := X_M156.virtualBack hx (y := (⟨"com/example/wireform/wireform/wire/WireReader", "endMessage", "(I)V"⟩ : MethodName)) (z := (⟨"com/example/wireform/wireform/wire/WireReader", "endMessage", "(I)V"⟩ : MethodName)) hown (mvT hZ (hw _ (List.mem_of_getElem? (i := 63) rfl))) (mvT hZ (hw _ (List.mem_of_getElem? (i := 64) rfl))) (notFace_of_selects (args := #[]) (mvT hZ (hw _ (List.mem_of_getElem? (i := 66) rfl)))) (mvT hZ (hw _ (List.mem_of_getElem? (i := 66) rfl))) (mvT hZ (hw _ (List.mem_of_getElem? (i := 65) rfl))) (by decide) (backOf (W := 0) (own_rm11 l Z a0 hw [] b111 v43 b74 v43 b85 w128_limit j156_f_b111_position (2 : Int32) w128_depth h_M156 n0 Z_M156 F_62 F_63 F_64 F_65 F_66 F_67 F_59 F_60 F_61 g_b111 g_b85 (Ne.symm ne_b85_b111)) hZ (hw _ (List.mem_of_getElem? (i := 67) rfl)) (hw _ (List.mem_of_getElem? (i := 14) rfl)) (by decide) (by decide)) qg160a qg160c (g := (mkF m 160 #[.val (.int p0), .val (.int p1), .val (.int p2), .val (.int p3), .val (.int p4), .val (.int (2 : Int32)), .val (.int (own_b (¬ ((p1 &&& (1 : Int32)) = (0 : Int32))))), .val (.int (own_b (¬ ((p1 &&& (1 : Int32)) = (0 : Int32))))), .val (.int v43), .val (.int v51), .val (.int (own_b (¬ ((p4 &&& (1 : Int32)) = (0 : Int32)) ∧ (¬ (v51 < (1 : Int32)))))), .val (.ref b74), .val (.ref b85), .val (.ref b111), .val (.int v43), .val (.int j156_l15), .unset, .unset, .unset, .unset] [(.int v43), (.ref b111)])) rfl (by rw [hml]; rfl) (Steps.refl _) (argsL := [(.int v43)]) (rest := []) (lenOf own_pd4 rfl) rfl (by show 2 * 0 + _ ≤ _; exact Nat.le_of_eq rfl) (hb hby at_160) (fun _ _ => ⟨rfl, e_M156, (by decide : 3 + 0 ≤ _), (by decide : 11 + 0 ≤ _)⟩)
      dsimp only [Pt.U, Pt.locs, Pt.cells, Pt.slots] at Xg160 lg160 yg160 zg160 stg160 hQg160
      subst lg160 yg160 zg160
      obtain ⟨rfl, Ng160q, Kg160, F_68, F_69, F_70, F_71, F_72, F_73, F_74, F_75, F_76⟩ := hQg160
      have F_77 := F_58.keep Kg160 (ninS ne_b74_b111 (ninS ne_b74_b85 nin0))
      have Zz_9 : n0 ≤ Tg160.heap.size := Nat.le_trans Z_M156 Kg160.1
      obtain ⟨w160_depth, hw160_depth⟩ : ∃ z : Int32, z = (w128_depth - (1 : Int32)) := ⟨_, rfl⟩
      have F_78 : Fld Z Tg160.heap b85 "com/example/wireform/wireform/wire/Nesting" "depth" "I" (.int w160_depth) := by subst hw160_depth; exact F_76
      have Ng160 := Fr.app N_M156 Ng160q
      refine own_st (fun _ k => stg160.trans k) ?_
      refine own_st (B := Tg160.setTop (mkF m 165 #[.val (.int p0), .val (.int p1), .val (.int p2), .val (.int p3), .val (.int p4), .val (.int (2 : Int32)), .val (.int (own_b (¬ ((p1 &&& (1 : Int32)) = (0 : Int32))))), .val (.int (own_b (¬ ((p1 &&& (1 : Int32)) = (0 : Int32))))), .val (.int v43), .val (.int v51), .val (.int (own_b (¬ ((p4 &&& (1 : Int32)) = (0 : Int32)) ∧ (¬ (v51 < (1 : Int32)))))), .val (.ref b74), .val (.ref b85), .val (.ref b111), .val (.int v43), .val (.int j156_l15), .unset, .unset, .unset, .unset] [(.ref b111)])) (fun target kt => ?_) ?_
      · show Steps p.tables e below (Tg160.setTop (mkF m 163 #[.val (.int p0), .val (.int p1), .val (.int p2), .val (.int p3), .val (.int p4), .val (.int (2 : Int32)), .val (.int (own_b (¬ ((p1 &&& (1 : Int32)) = (0 : Int32))))), .val (.int (own_b (¬ ((p1 &&& (1 : Int32)) = (0 : Int32))))), .val (.int v43), .val (.int v51), .val (.int (own_b (¬ ((p4 &&& (1 : Int32)) = (0 : Int32)) ∧ (¬ (v51 < (1 : Int32)))))), .val (.ref b74), .val (.ref b85), .val (.ref b111), .val (.int v43), .val (.int j156_l15), .unset, .unset, .unset, .unset] [])) target
        refine XS.aload Xg160.here hx rfl (hb hby at_163) rfl rfl ?_
        exact kt
      obtain ⟨cqg165, kqg165, qg165a, qg165b, qg165c⟩ := isOf hZ rfl F_68
      obtain ⟨_, _, ⟨Tg165, Lg165, kg165, ng165⟩, -, Xg165, ⟨Lcg165, hQg165, lg165, yg165, zg165⟩, stg165⟩ := Xg160.virtualBack hx (y := (⟨"com/example/wireform/wireform/wire/WireReader", "isAtEnd", "()Z"⟩ : MethodName)) (z := (⟨"com/example/wireform/wireform/wire/WireReader", "isAtEnd", "()Z"⟩ : MethodName)) hown (mvT hZ (hw _ (List.mem_of_getElem? (i := 78) rfl))) (mvT hZ (hw _ (List.mem_of_getElem? (i := 79) rfl))) (notFace_of_selects (args := #[]) (mvT hZ (hw _ (List.mem_of_getElem? (i := 81) rfl)))) (mvT hZ (hw _ (List.mem_of_getElem? (i := 81) rfl))) (mvT hZ (hw _ (List.mem_of_getElem? (i := 80) rfl))) (by decide) (backOf (W := 0) (own_rm14 l Z a0 hw [] b111 v43 j156_f_b111_position Tg160.heap n0 Zz_9 F_72 F_73) hZ (hw _ (List.mem_of_getElem? (i := 82) rfl)) (hw _ (List.mem_of_getElem? (i := 14) rfl)) (by decide) (by decide)) qg165a qg165c (g := (mkF m 165 #[.val (.int p0), .val (.int p1), .val (.int p2), .val (.int p3), .val (.int p4), .val (.int (2 : Int32)), .val (.int (own_b (¬ ((p1 &&& (1 : Int32)) = (0 : Int32))))), .val (.int (own_b (¬ ((p1 &&& (1 : Int32)) = (0 : Int32))))), .val (.int v43), .val (.int v51), .val (.int (own_b (¬ ((p4 &&& (1 : Int32)) = (0 : Int32)) ∧ (¬ (v51 < (1 : Int32)))))), .val (.ref b74), .val (.ref b85), .val (.ref b111), .val (.int v43), .val (.int j156_l15), .unset, .unset, .unset, .unset] [(.ref b111)])) rfl (by rw [hml]; rfl) (Steps.refl _) (argsL := []) (rest := []) (lenOf own_pd3 rfl) rfl (by show 2 * 0 + _ ≤ _; exact Nat.le_of_eq rfl) (hb hby at_165) (fun _ _ => ⟨rfl, rfl, (by decide : 3 + 0 ≤ _), (by decide : 11 + 0 ≤ _)⟩)
      dsimp only [Pt.U, Pt.locs, Pt.cells, Pt.slots] at Xg165 lg165 yg165 zg165 stg165 hQg165
      subst lg165 yg165 zg165
      obtain ⟨rfl, Ng165q, eg165⟩ := hQg165
      have Ng165 := Fr.app Ng160 Ng165q
      refine own_st (fun _ k => stg165.trans k) ?_
      refine own_st (B := Tg165.setTop (mkF m 172 #[.val (.int p0), .val (.int p1), .val (.int p2), .val (.int p3), .val (.int p4), .val (.int (2 : Int32)), .val (.int (own_b (¬ ((p1 &&& (1 : Int32)) = (0 : Int32))))), .val (.int (own_b (¬ ((p1 &&& (1 : Int32)) = (0 : Int32))))), .val (.int v43), .val (.int v51), .val (.int (own_b (¬ ((p4 &&& (1 : Int32)) = (0 : Int32)) ∧ (¬ (v51 < (1 : Int32)))))), .val (.ref b74), .val (.ref b85), .val (.ref b111), .val (.int v43), .val (.int j156_l15), .val (.int (own_b (j156_f_b111_position = v43))), .unset, .unset, .unset] [(.ref b85)])) (fun target kt => ?_) ?_
      · show Steps p.tables e below (Tg165.setTop (mkF m 168 #[.val (.int p0), .val (.int p1), .val (.int p2), .val (.int p3), .val (.int p4), .val (.int (2 : Int32)), .val (.int (own_b (¬ ((p1 &&& (1 : Int32)) = (0 : Int32))))), .val (.int (own_b (¬ ((p1 &&& (1 : Int32)) = (0 : Int32))))), .val (.int v43), .val (.int v51), .val (.int (own_b (¬ ((p4 &&& (1 : Int32)) = (0 : Int32)) ∧ (¬ (v51 < (1 : Int32)))))), .val (.ref b74), .val (.ref b85), .val (.ref b111), .val (.int v43), .val (.int j156_l15), .unset, .unset, .unset, .unset] [(.int (own_b (j156_f_b111_position = v43)))])) target
        refine XS.istore Xg165.here hx rfl (hb hby at_168) rfl (l' := #[.val (.int p0), .val (.int p1), .val (.int p2), .val (.int p3), .val (.int p4), .val (.int (2 : Int32)), .val (.int (own_b (¬ ((p1 &&& (1 : Int32)) = (0 : Int32))))), .val (.int (own_b (¬ ((p1 &&& (1 : Int32)) = (0 : Int32))))), .val (.int v43), .val (.int v51), .val (.int (own_b (¬ ((p4 &&& (1 : Int32)) = (0 : Int32)) ∧ (¬ (v51 < (1 : Int32)))))), .val (.ref b74), .val (.ref b85), .val (.ref b111), .val (.int v43), .val (.int j156_l15), .val (.int (own_b (j156_f_b111_position = v43))), .unset, .unset, .unset]) rfl ?_
        show Steps p.tables e below (Tg165.setTop (mkF m 170 #[.val (.int p0), .val (.int p1), .val (.int p2), .val (.int p3), .val (.int p4), .val (.int (2 : Int32)), .val (.int (own_b (¬ ((p1 &&& (1 : Int32)) = (0 : Int32))))), .val (.int (own_b (¬ ((p1 &&& (1 : Int32)) = (0 : Int32))))), .val (.int v43), .val (.int v51), .val (.int (own_b (¬ ((p4 &&& (1 : Int32)) = (0 : Int32)) ∧ (¬ (v51 < (1 : Int32)))))), .val (.ref b74), .val (.ref b85), .val (.ref b111), .val (.int v43), .val (.int j156_l15), .val (.int (own_b (j156_f_b111_position = v43))), .unset, .unset, .unset] [])) target
        refine XS.aload Xg165.here hx rfl (hb hby at_170) rfl rfl ?_
        exact kt
      obtain ⟨cqg172, kqg172, qg172a, qg172b, qg172c⟩ := isOf hZ eg165 F_74
      obtain ⟨_, _, ⟨Tg172, Lg172, kg172, ng172⟩, -, Xg172, ⟨Lcg172, hQg172, lg172, yg172, zg172⟩, stg172⟩ := Xg165.virtualBack hx (y := (⟨"com/example/wireform/wireform/wire/Nesting", "enter", "()Z"⟩ : MethodName)) (z := (⟨"com/example/wireform/wireform/wire/Nesting", "enter", "()Z"⟩ : MethodName)) hown (mvT hZ (hw _ (List.mem_of_getElem? (i := 83) rfl))) (mvT hZ (hw _ (List.mem_of_getElem? (i := 33) rfl))) (notFace_of_selects (args := #[]) (mvT hZ (hw _ (List.mem_of_getElem? (i := 35) rfl)))) (mvT hZ (hw _ (List.mem_of_getElem? (i := 35) rfl))) (mvT hZ (hw _ (List.mem_of_getElem? (i := 34) rfl))) (by decide) (backOf (W := 0) (own_rm5 l Z a0 hw [] b85 (2 : Int32) w160_depth Tg160.heap n0 Zz_9 F_74 F_75 F_78 g_b85) hZ (hw _ (List.mem_of_getElem? (i := 36) rfl)) (hw _ (List.mem_of_getElem? (i := 3) rfl)) (by decide) (by decide)) qg172a qg172c (g := (mkF m 172 #[.val (.int p0), .val (.int p1), .val (.int p2), .val (.int p3), .val (.int p4), .val (.int (2 : Int32)), .val (.int (own_b (¬ ((p1 &&& (1 : Int32)) = (0 : Int32))))), .val (.int (own_b (¬ ((p1 &&& (1 : Int32)) = (0 : Int32))))), .val (.int v43), .val (.int v51), .val (.int (own_b (¬ ((p4 &&& (1 : Int32)) = (0 : Int32)) ∧ (¬ (v51 < (1 : Int32)))))), .val (.ref b74), .val (.ref b85), .val (.ref b111), .val (.int v43), .val (.int j156_l15), .val (.int (own_b (j156_f_b111_position = v43))), .unset, .unset, .unset] [(.ref b85)])) rfl (by rw [hml]; rfl) (Steps.refl _) (argsL := []) (rest := []) (lenOf own_pd3 rfl) rfl (by show 2 * 0 + _ ≤ _; exact Nat.le_of_eq rfl) (hb hby at_172) (fun _ _ => ⟨rfl, eg165, (by decide : 3 + 0 ≤ _), (by decide : 11 + 0 ≤ _)⟩)
      dsimp only [Pt.U, Pt.locs, Pt.cells, Pt.slots] at Xg172 lg172 yg172 zg172 stg172 hQg172
      subst lg172 yg172 zg172
      obtain ⟨rfl, Ng172q, Kg172, F_79, F_80, F_81⟩ := hQg172
      have F_82 := F_77.keep Kg172 (ninS ne_b74_b85 nin0)
      have F_83 := F_68.keep Kg172
      have F_84 := F_69.keep Kg172 (ninS (Ne.symm ne_b85_b111) nin0)
      have F_85 := F_70.keep Kg172 (ninS (Ne.symm ne_b85_b111) nin0)
      have F_86 := F_71.keep Kg172 (ninS (Ne.symm ne_b85_b111) nin0)
      have F_87 := F_72.keep Kg172 (ninS (Ne.symm ne_b85_b111) nin0)
      have F_88 := F_73.keep Kg172 (ninS (Ne.symm ne_b85_b111) nin0)
      have Zz_10 : n0 ≤ Tg172.heap.size := Nat.le_trans Zz_9 Kg172.1
      obtain ⟨w172_depth, hw172_depth⟩ : ∃ z : Int32, z = (if w160_depth = (2 : Int32) then w160_depth else (w160_depth + (1 : Int32))) := ⟨_, rfl⟩
      have F_89 : Fld Z Tg172.heap b85 "com/example/wireform/wireform/wire/Nesting" "depth" "I" (.int w172_depth) := by subst hw172_depth; exact F_81
      have Ng172 := Fr.app Ng165 Ng172q
      refine own_st (fun _ k => stg172.trans k) ?_
      refine own_st (B := Tg172.setTop (mkF m 179 #[.val (.int p0), .val (.int p1), .val (.int p2), .val (.int p3), .val (.int p4), .val (.int (2 : Int32)), .val (.int (own_b (¬ ((p1 &&& (1 : Int32)) = (0 : Int32))))), .val (.int (own_b (¬ ((p1 &&& (1 : Int32)) = (0 : Int32))))), .val (.int v43), .val (.int v51), .val (.int (own_b (¬ ((p4 &&& (1 : Int32)) = (0 : Int32)) ∧ (¬ (v51 < (1 : Int32)))))), .val (.ref b74), .val (.ref b85), .val (.ref b111), .val (.int v43), .val (.int j156_l15), .val (.int (own_b (j156_f_b111_position = v43))), .val (.int (own_b (¬ (w160_depth = (2 : Int32))))), .unset, .unset] [(.ref b85)])) (fun target kt => ?_) ?_
      · show Steps p.tables e below (Tg172.setTop (mkF m 175 #[.val (.int p0), .val (.int p1), .val (.int p2), .val (.int p3), .val (.int p4), .val (.int (2 : Int32)), .val (.int (own_b (¬ ((p1 &&& (1 : Int32)) = (0 : Int32))))), .val (.int (own_b (¬ ((p1 &&& (1 : Int32)) = (0 : Int32))))), .val (.int v43), .val (.int v51), .val (.int (own_b (¬ ((p4 &&& (1 : Int32)) = (0 : Int32)) ∧ (¬ (v51 < (1 : Int32)))))), .val (.ref b74), .val (.ref b85), .val (.ref b111), .val (.int v43), .val (.int j156_l15), .val (.int (own_b (j156_f_b111_position = v43))), .unset, .unset, .unset] [(.int (own_b (¬ (w160_depth = (2 : Int32)))))])) target
        refine XS.istore Xg172.here hx rfl (hb hby at_175) rfl (l' := #[.val (.int p0), .val (.int p1), .val (.int p2), .val (.int p3), .val (.int p4), .val (.int (2 : Int32)), .val (.int (own_b (¬ ((p1 &&& (1 : Int32)) = (0 : Int32))))), .val (.int (own_b (¬ ((p1 &&& (1 : Int32)) = (0 : Int32))))), .val (.int v43), .val (.int v51), .val (.int (own_b (¬ ((p4 &&& (1 : Int32)) = (0 : Int32)) ∧ (¬ (v51 < (1 : Int32)))))), .val (.ref b74), .val (.ref b85), .val (.ref b111), .val (.int v43), .val (.int j156_l15), .val (.int (own_b (j156_f_b111_position = v43))), .val (.int (own_b (¬ (w160_depth = (2 : Int32))))), .unset, .unset]) rfl ?_
        show Steps p.tables e below (Tg172.setTop (mkF m 177 #[.val (.int p0), .val (.int p1), .val (.int p2), .val (.int p3), .val (.int p4), .val (.int (2 : Int32)), .val (.int (own_b (¬ ((p1 &&& (1 : Int32)) = (0 : Int32))))), .val (.int (own_b (¬ ((p1 &&& (1 : Int32)) = (0 : Int32))))), .val (.int v43), .val (.int v51), .val (.int (own_b (¬ ((p4 &&& (1 : Int32)) = (0 : Int32)) ∧ (¬ (v51 < (1 : Int32)))))), .val (.ref b74), .val (.ref b85), .val (.ref b111), .val (.int v43), .val (.int j156_l15), .val (.int (own_b (j156_f_b111_position = v43))), .val (.int (own_b (¬ (w160_depth = (2 : Int32))))), .unset, .unset] [])) target
        refine XS.aload Xg172.here hx rfl (hb hby at_177) rfl rfl ?_
        exact kt
      obtain ⟨cqg179, kqg179, qg179a, qg179b, qg179c⟩ := isOf hZ rfl F_79
      obtain ⟨_, _, ⟨Tg179, Lg179, kg179, ng179⟩, -, Xg179, ⟨Lcg179, hQg179, lg179, yg179, zg179⟩, stg179⟩ := Xg172.virtualBack hx (y := (⟨"com/example/wireform/wireform/wire/Nesting", "enter", "()Z"⟩ : MethodName)) (z := (⟨"com/example/wireform/wireform/wire/Nesting", "enter", "()Z"⟩ : MethodName)) hown (mvT hZ (hw _ (List.mem_of_getElem? (i := 83) rfl))) (mvT hZ (hw _ (List.mem_of_getElem? (i := 33) rfl))) (notFace_of_selects (args := #[]) (mvT hZ (hw _ (List.mem_of_getElem? (i := 35) rfl)))) (mvT hZ (hw _ (List.mem_of_getElem? (i := 35) rfl))) (mvT hZ (hw _ (List.mem_of_getElem? (i := 34) rfl))) (by decide) (backOf (W := 0) (own_rm5 l Z a0 hw [] b85 (2 : Int32) w172_depth Tg172.heap n0 Zz_10 F_79 F_80 F_89 g_b85) hZ (hw _ (List.mem_of_getElem? (i := 36) rfl)) (hw _ (List.mem_of_getElem? (i := 3) rfl)) (by decide) (by decide)) qg179a qg179c (g := (mkF m 179 #[.val (.int p0), .val (.int p1), .val (.int p2), .val (.int p3), .val (.int p4), .val (.int (2 : Int32)), .val (.int (own_b (¬ ((p1 &&& (1 : Int32)) = (0 : Int32))))), .val (.int (own_b (¬ ((p1 &&& (1 : Int32)) = (0 : Int32))))), .val (.int v43), .val (.int v51), .val (.int (own_b (¬ ((p4 &&& (1 : Int32)) = (0 : Int32)) ∧ (¬ (v51 < (1 : Int32)))))), .val (.ref b74), .val (.ref b85), .val (.ref b111), .val (.int v43), .val (.int j156_l15), .val (.int (own_b (j156_f_b111_position = v43))), .val (.int (own_b (¬ (w160_depth = (2 : Int32))))), .unset, .unset] [(.ref b85)])) rfl (by rw [hml]; rfl) (Steps.refl _) (argsL := []) (rest := []) (lenOf own_pd3 rfl) rfl (by show 2 * 0 + _ ≤ _; exact Nat.le_of_eq rfl) (hb hby at_179) (fun _ _ => ⟨rfl, rfl, (by decide : 3 + 0 ≤ _), (by decide : 11 + 0 ≤ _)⟩)
      dsimp only [Pt.U, Pt.locs, Pt.cells, Pt.slots] at Xg179 lg179 yg179 zg179 stg179 hQg179
      subst lg179 yg179 zg179
      obtain ⟨rfl, Ng179q, Kg179, F_90, F_91, F_92⟩ := hQg179
      have F_93 := F_82.keep Kg179 (ninS ne_b74_b85 nin0)
      have F_94 := F_83.keep Kg179
      have F_95 := F_84.keep Kg179 (ninS (Ne.symm ne_b85_b111) nin0)
      have F_96 := F_85.keep Kg179 (ninS (Ne.symm ne_b85_b111) nin0)
      have F_97 := F_86.keep Kg179 (ninS (Ne.symm ne_b85_b111) nin0)
      have F_98 := F_87.keep Kg179 (ninS (Ne.symm ne_b85_b111) nin0)
      have F_99 := F_88.keep Kg179 (ninS (Ne.symm ne_b85_b111) nin0)
      have Zz_11 : n0 ≤ Tg179.heap.size := Nat.le_trans Zz_10 Kg179.1
      obtain ⟨w179_depth, hw179_depth⟩ : ∃ z : Int32, z = (if w172_depth = (2 : Int32) then w172_depth else (w172_depth + (1 : Int32))) := ⟨_, rfl⟩
      have F_100 : Fld Z Tg179.heap b85 "com/example/wireform/wireform/wire/Nesting" "depth" "I" (.int w179_depth) := by subst hw179_depth; exact F_92
      have Ng179 := Fr.app Ng172 Ng179q
      refine own_st (fun _ k => stg179.trans k) ?_
      refine own_st (B := Tg179.setTop (mkF m 186 #[.val (.int p0), .val (.int p1), .val (.int p2), .val (.int p3), .val (.int p4), .val (.int (2 : Int32)), .val (.int (own_b (¬ ((p1 &&& (1 : Int32)) = (0 : Int32))))), .val (.int (own_b (¬ ((p1 &&& (1 : Int32)) = (0 : Int32))))), .val (.int v43), .val (.int v51), .val (.int (own_b (¬ ((p4 &&& (1 : Int32)) = (0 : Int32)) ∧ (¬ (v51 < (1 : Int32)))))), .val (.ref b74), .val (.ref b85), .val (.ref b111), .val (.int v43), .val (.int j156_l15), .val (.int (own_b (j156_f_b111_position = v43))), .val (.int (own_b (¬ (w160_depth = (2 : Int32))))), .val (.int (own_b (¬ (w172_depth = (2 : Int32))))), .unset] [(.ref b85)])) (fun target kt => ?_) ?_
      · show Steps p.tables e below (Tg179.setTop (mkF m 182 #[.val (.int p0), .val (.int p1), .val (.int p2), .val (.int p3), .val (.int p4), .val (.int (2 : Int32)), .val (.int (own_b (¬ ((p1 &&& (1 : Int32)) = (0 : Int32))))), .val (.int (own_b (¬ ((p1 &&& (1 : Int32)) = (0 : Int32))))), .val (.int v43), .val (.int v51), .val (.int (own_b (¬ ((p4 &&& (1 : Int32)) = (0 : Int32)) ∧ (¬ (v51 < (1 : Int32)))))), .val (.ref b74), .val (.ref b85), .val (.ref b111), .val (.int v43), .val (.int j156_l15), .val (.int (own_b (j156_f_b111_position = v43))), .val (.int (own_b (¬ (w160_depth = (2 : Int32))))), .unset, .unset] [(.int (own_b (¬ (w172_depth = (2 : Int32)))))])) target
        refine XS.istore Xg179.here hx rfl (hb hby at_182) rfl (l' := #[.val (.int p0), .val (.int p1), .val (.int p2), .val (.int p3), .val (.int p4), .val (.int (2 : Int32)), .val (.int (own_b (¬ ((p1 &&& (1 : Int32)) = (0 : Int32))))), .val (.int (own_b (¬ ((p1 &&& (1 : Int32)) = (0 : Int32))))), .val (.int v43), .val (.int v51), .val (.int (own_b (¬ ((p4 &&& (1 : Int32)) = (0 : Int32)) ∧ (¬ (v51 < (1 : Int32)))))), .val (.ref b74), .val (.ref b85), .val (.ref b111), .val (.int v43), .val (.int j156_l15), .val (.int (own_b (j156_f_b111_position = v43))), .val (.int (own_b (¬ (w160_depth = (2 : Int32))))), .val (.int (own_b (¬ (w172_depth = (2 : Int32))))), .unset]) rfl ?_
        show Steps p.tables e below (Tg179.setTop (mkF m 184 #[.val (.int p0), .val (.int p1), .val (.int p2), .val (.int p3), .val (.int p4), .val (.int (2 : Int32)), .val (.int (own_b (¬ ((p1 &&& (1 : Int32)) = (0 : Int32))))), .val (.int (own_b (¬ ((p1 &&& (1 : Int32)) = (0 : Int32))))), .val (.int v43), .val (.int v51), .val (.int (own_b (¬ ((p4 &&& (1 : Int32)) = (0 : Int32)) ∧ (¬ (v51 < (1 : Int32)))))), .val (.ref b74), .val (.ref b85), .val (.ref b111), .val (.int v43), .val (.int j156_l15), .val (.int (own_b (j156_f_b111_position = v43))), .val (.int (own_b (¬ (w160_depth = (2 : Int32))))), .val (.int (own_b (¬ (w172_depth = (2 : Int32))))), .unset] [])) target
        refine XS.aload Xg179.here hx rfl (hb hby at_184) rfl rfl ?_
        exact kt
      obtain ⟨cqg186, kqg186, qg186a, qg186b, qg186c⟩ := isOf hZ rfl F_90
      obtain ⟨_, _, ⟨Tg186, Lg186, kg186, ng186⟩, -, Xg186, ⟨Lcg186, hQg186, lg186, yg186, zg186⟩, stg186⟩ := Xg179.virtualBack hx (y := (⟨"com/example/wireform/wireform/wire/Nesting", "enter", "()Z"⟩ : MethodName)) (z := (⟨"com/example/wireform/wireform/wire/Nesting", "enter", "()Z"⟩ : MethodName)) hown (mvT hZ (hw _ (List.mem_of_getElem? (i := 83) rfl))) (mvT hZ (hw _ (List.mem_of_getElem? (i := 33) rfl))) (notFace_of_selects (args := #[]) (mvT hZ (hw _ (List.mem_of_getElem? (i := 35) rfl)))) (mvT hZ (hw _ (List.mem_of_getElem? (i := 35) rfl))) (mvT hZ (hw _ (List.mem_of_getElem? (i := 34) rfl))) (by decide) (backOf (W := 0) (own_rm5 l Z a0 hw [] b85 (2 : Int32) w179_depth Tg179.heap n0 Zz_11 F_90 F_91 F_100 g_b85) hZ (hw _ (List.mem_of_getElem? (i := 36) rfl)) (hw _ (List.mem_of_getElem? (i := 3) rfl)) (by decide) (by decide)) qg186a qg186c (g := (mkF m 186 #[.val (.int p0), .val (.int p1), .val (.int p2), .val (.int p3), .val (.int p4), .val (.int (2 : Int32)), .val (.int (own_b (¬ ((p1 &&& (1 : Int32)) = (0 : Int32))))), .val (.int (own_b (¬ ((p1 &&& (1 : Int32)) = (0 : Int32))))), .val (.int v43), .val (.int v51), .val (.int (own_b (¬ ((p4 &&& (1 : Int32)) = (0 : Int32)) ∧ (¬ (v51 < (1 : Int32)))))), .val (.ref b74), .val (.ref b85), .val (.ref b111), .val (.int v43), .val (.int j156_l15), .val (.int (own_b (j156_f_b111_position = v43))), .val (.int (own_b (¬ (w160_depth = (2 : Int32))))), .val (.int (own_b (¬ (w172_depth = (2 : Int32))))), .unset] [(.ref b85)])) rfl (by rw [hml]; rfl) (Steps.refl _) (argsL := []) (rest := []) (lenOf own_pd3 rfl) rfl (by show 2 * 0 + _ ≤ _; exact Nat.le_of_eq rfl) (hb hby at_186) (fun _ _ => ⟨rfl, rfl, (by decide : 3 + 0 ≤ _), (by decide : 11 + 0 ≤ _)⟩)
      dsimp only [Pt.U, Pt.locs, Pt.cells, Pt.slots] at Xg186 lg186 yg186 zg186 stg186 hQg186
      subst lg186 yg186 zg186
      obtain ⟨rfl, Ng186q, Kg186, F_101, F_102, F_103⟩ := hQg186
      have F_104 := F_93.keep Kg186 (ninS ne_b74_b85 nin0)
      have F_105 := F_94.keep Kg186
      have F_106 := F_95.keep Kg186 (ninS (Ne.symm ne_b85_b111) nin0)
      have F_107 := F_96.keep Kg186 (ninS (Ne.symm ne_b85_b111) nin0)
      have F_108 := F_97.keep Kg186 (ninS (Ne.symm ne_b85_b111) nin0)
      have F_109 := F_98.keep Kg186 (ninS (Ne.symm ne_b85_b111) nin0)
      have F_110 := F_99.keep Kg186 (ninS (Ne.symm ne_b85_b111) nin0)
      have Zz_12 : n0 ≤ Tg186.heap.size := Nat.le_trans Zz_11 Kg186.1
      obtain ⟨w186_depth, hw186_depth⟩ : ∃ z : Int32, z = (if w179_depth = (2 : Int32) then w179_depth else (w179_depth + (1 : Int32))) := ⟨_, rfl⟩
      have F_111 : Fld Z Tg186.heap b85 "com/example/wireform/wireform/wire/Nesting" "depth" "I" (.int w186_depth) := by subst hw186_depth; exact F_103
      have Ng186 := Fr.app Ng179 Ng186q
      refine own_st (fun _ k => stg186.trans k) ?_
      refine own_st (B := Tg186.setTop (mkF m 197 #[.val (.int p0), .val (.int p1), .val (.int p2), .val (.int p3), .val (.int p4), .val (.int (2 : Int32)), .val (.int (own_b (¬ ((p1 &&& (1 : Int32)) = (0 : Int32))))), .val (.int (own_b (¬ ((p1 &&& (1 : Int32)) = (0 : Int32))))), .val (.int v43), .val (.int v51), .val (.int (own_b (¬ ((p4 &&& (1 : Int32)) = (0 : Int32)) ∧ (¬ (v51 < (1 : Int32)))))), .val (.ref b74), .val (.ref b85), .val (.ref b111), .val (.int v43), .val (.int j156_l15), .val (.int (own_b (j156_f_b111_position = v43))), .val (.int (own_b (¬ (w160_depth = (2 : Int32))))), .val (.int (own_b (¬ (w172_depth = (2 : Int32))))), .val (.int (own_b (¬ (w179_depth = (2 : Int32)))))] [(.int v43), (.int j156_l15), (.int (own_b (j156_f_b111_position = v43)))])) (fun target kt => ?_) ?_
      · show Steps p.tables e below (Tg186.setTop (mkF m 189 #[.val (.int p0), .val (.int p1), .val (.int p2), .val (.int p3), .val (.int p4), .val (.int (2 : Int32)), .val (.int (own_b (¬ ((p1 &&& (1 : Int32)) = (0 : Int32))))), .val (.int (own_b (¬ ((p1 &&& (1 : Int32)) = (0 : Int32))))), .val (.int v43), .val (.int v51), .val (.int (own_b (¬ ((p4 &&& (1 : Int32)) = (0 : Int32)) ∧ (¬ (v51 < (1 : Int32)))))), .val (.ref b74), .val (.ref b85), .val (.ref b111), .val (.int v43), .val (.int j156_l15), .val (.int (own_b (j156_f_b111_position = v43))), .val (.int (own_b (¬ (w160_depth = (2 : Int32))))), .val (.int (own_b (¬ (w172_depth = (2 : Int32))))), .unset] [(.int (own_b (¬ (w179_depth = (2 : Int32)))))])) target
        refine XS.istore Xg186.here hx rfl (hb hby at_189) rfl (l' := #[.val (.int p0), .val (.int p1), .val (.int p2), .val (.int p3), .val (.int p4), .val (.int (2 : Int32)), .val (.int (own_b (¬ ((p1 &&& (1 : Int32)) = (0 : Int32))))), .val (.int (own_b (¬ ((p1 &&& (1 : Int32)) = (0 : Int32))))), .val (.int v43), .val (.int v51), .val (.int (own_b (¬ ((p4 &&& (1 : Int32)) = (0 : Int32)) ∧ (¬ (v51 < (1 : Int32)))))), .val (.ref b74), .val (.ref b85), .val (.ref b111), .val (.int v43), .val (.int j156_l15), .val (.int (own_b (j156_f_b111_position = v43))), .val (.int (own_b (¬ (w160_depth = (2 : Int32))))), .val (.int (own_b (¬ (w172_depth = (2 : Int32))))), .val (.int (own_b (¬ (w179_depth = (2 : Int32)))))]) rfl ?_
        show Steps p.tables e below (Tg186.setTop (mkF m 191 #[.val (.int p0), .val (.int p1), .val (.int p2), .val (.int p3), .val (.int p4), .val (.int (2 : Int32)), .val (.int (own_b (¬ ((p1 &&& (1 : Int32)) = (0 : Int32))))), .val (.int (own_b (¬ ((p1 &&& (1 : Int32)) = (0 : Int32))))), .val (.int v43), .val (.int v51), .val (.int (own_b (¬ ((p4 &&& (1 : Int32)) = (0 : Int32)) ∧ (¬ (v51 < (1 : Int32)))))), .val (.ref b74), .val (.ref b85), .val (.ref b111), .val (.int v43), .val (.int j156_l15), .val (.int (own_b (j156_f_b111_position = v43))), .val (.int (own_b (¬ (w160_depth = (2 : Int32))))), .val (.int (own_b (¬ (w172_depth = (2 : Int32))))), .val (.int (own_b (¬ (w179_depth = (2 : Int32)))))] [])) target
        refine XS.iload Xg186.here hx rfl (hb hby at_191) rfl ?_
        show Steps p.tables e below (Tg186.setTop (mkF m 193 #[.val (.int p0), .val (.int p1), .val (.int p2), .val (.int p3), .val (.int p4), .val (.int (2 : Int32)), .val (.int (own_b (¬ ((p1 &&& (1 : Int32)) = (0 : Int32))))), .val (.int (own_b (¬ ((p1 &&& (1 : Int32)) = (0 : Int32))))), .val (.int v43), .val (.int v51), .val (.int (own_b (¬ ((p4 &&& (1 : Int32)) = (0 : Int32)) ∧ (¬ (v51 < (1 : Int32)))))), .val (.ref b74), .val (.ref b85), .val (.ref b111), .val (.int v43), .val (.int j156_l15), .val (.int (own_b (j156_f_b111_position = v43))), .val (.int (own_b (¬ (w160_depth = (2 : Int32))))), .val (.int (own_b (¬ (w172_depth = (2 : Int32))))), .val (.int (own_b (¬ (w179_depth = (2 : Int32)))))] [(.int (own_b (j156_f_b111_position = v43)))])) target
        refine XS.iload Xg186.here hx rfl (hb hby at_193) rfl ?_
        show Steps p.tables e below (Tg186.setTop (mkF m 195 #[.val (.int p0), .val (.int p1), .val (.int p2), .val (.int p3), .val (.int p4), .val (.int (2 : Int32)), .val (.int (own_b (¬ ((p1 &&& (1 : Int32)) = (0 : Int32))))), .val (.int (own_b (¬ ((p1 &&& (1 : Int32)) = (0 : Int32))))), .val (.int v43), .val (.int v51), .val (.int (own_b (¬ ((p4 &&& (1 : Int32)) = (0 : Int32)) ∧ (¬ (v51 < (1 : Int32)))))), .val (.ref b74), .val (.ref b85), .val (.ref b111), .val (.int v43), .val (.int j156_l15), .val (.int (own_b (j156_f_b111_position = v43))), .val (.int (own_b (¬ (w160_depth = (2 : Int32))))), .val (.int (own_b (¬ (w172_depth = (2 : Int32))))), .val (.int (own_b (¬ (w179_depth = (2 : Int32)))))] [(.int j156_l15), (.int (own_b (j156_f_b111_position = v43)))])) target
        refine XS.iload Xg186.here hx rfl (hb hby at_195) rfl ?_
        exact kt
      obtain ⟨_, ⟨j205_s0, rfl, rfl⟩, st_M205⟩ : own_Lead p.tables e below (Tg186.setTop (mkF m 197 #[.val (.int p0), .val (.int p1), .val (.int p2), .val (.int p3), .val (.int p4), .val (.int (2 : Int32)), .val (.int (own_b (¬ ((p1 &&& (1 : Int32)) = (0 : Int32))))), .val (.int (own_b (¬ ((p1 &&& (1 : Int32)) = (0 : Int32))))), .val (.int v43), .val (.int v51), .val (.int (own_b (¬ ((p4 &&& (1 : Int32)) = (0 : Int32)) ∧ (¬ (v51 < (1 : Int32)))))), .val (.ref b74), .val (.ref b85), .val (.ref b111), .val (.int v43), .val (.int j156_l15), .val (.int (own_b (j156_f_b111_position = v43))), .val (.int (own_b (¬ (w160_depth = (2 : Int32))))), .val (.int (own_b (¬ (w172_depth = (2 : Int32))))), .val (.int (own_b (¬ (w179_depth = (2 : Int32)))))] [(.int v43), (.int j156_l15), (.int (own_b (j156_f_b111_position = v43)))])) (fun B => ∃ (j205_s0 : Int32), B = Tg186.setTop (mkF m 205 #[.val (.int p0), .val (.int p1), .val (.int p2), .val (.int p3), .val (.int p4), .val (.int (2 : Int32)), .val (.int (own_b (¬ ((p1 &&& (1 : Int32)) = (0 : Int32))))), .val (.int (own_b (¬ ((p1 &&& (1 : Int32)) = (0 : Int32))))), .val (.int v43), .val (.int v51), .val (.int (own_b (¬ ((p4 &&& (1 : Int32)) = (0 : Int32)) ∧ (¬ (v51 < (1 : Int32)))))), .val (.ref b74), .val (.ref b85), .val (.ref b111), .val (.int v43), .val (.int j156_l15), .val (.int (own_b (j156_f_b111_position = v43))), .val (.int (own_b (¬ (w160_depth = (2 : Int32))))), .val (.int (own_b (¬ (w172_depth = (2 : Int32))))), .val (.int (own_b (¬ (w179_depth = (2 : Int32)))))] [(.int j205_s0), (.int (own_b (j156_f_b111_position = v43)))]) ∧ j205_s0 = own_b (j156_l15 = v43)) := by
        by_cases c197 : j156_l15 = v43
        · refine own_st (B := Tg186.setTop (mkF m 205 #[.val (.int p0), .val (.int p1), .val (.int p2), .val (.int p3), .val (.int p4), .val (.int (2 : Int32)), .val (.int (own_b (¬ ((p1 &&& (1 : Int32)) = (0 : Int32))))), .val (.int (own_b (¬ ((p1 &&& (1 : Int32)) = (0 : Int32))))), .val (.int v43), .val (.int v51), .val (.int (own_b (¬ ((p4 &&& (1 : Int32)) = (0 : Int32)) ∧ (¬ (v51 < (1 : Int32)))))), .val (.ref b74), .val (.ref b85), .val (.ref b111), .val (.int v43), .val (.int j156_l15), .val (.int (own_b (j156_f_b111_position = v43))), .val (.int (own_b (¬ (w160_depth = (2 : Int32))))), .val (.int (own_b (¬ (w172_depth = (2 : Int32))))), .val (.int (own_b (¬ (w179_depth = (2 : Int32)))))] [(.int (1 : Int32)), (.int (own_b (j156_f_b111_position = v43)))])) (fun target kt => ?_) ?_
          · show Steps p.tables e below (Tg186.setTop (mkF m 197 #[.val (.int p0), .val (.int p1), .val (.int p2), .val (.int p3), .val (.int p4), .val (.int (2 : Int32)), .val (.int (own_b (¬ ((p1 &&& (1 : Int32)) = (0 : Int32))))), .val (.int (own_b (¬ ((p1 &&& (1 : Int32)) = (0 : Int32))))), .val (.int v43), .val (.int v51), .val (.int (own_b (¬ ((p4 &&& (1 : Int32)) = (0 : Int32)) ∧ (¬ (v51 < (1 : Int32)))))), .val (.ref b74), .val (.ref b85), .val (.ref b111), .val (.int v43), .val (.int j156_l15), .val (.int (own_b (j156_f_b111_position = v43))), .val (.int (own_b (¬ (w160_depth = (2 : Int32))))), .val (.int (own_b (¬ (w172_depth = (2 : Int32))))), .val (.int (own_b (¬ (w179_depth = (2 : Int32)))))] [(.int v43), (.int j156_l15), (.int (own_b (j156_f_b111_position = v43)))])) target
            refine XS.icmpNo Xg186.here hx rfl (hb hby at_197) rfl (teq c197).2 ?_
            show Steps p.tables e below (Tg186.setTop (mkF m 200 #[.val (.int p0), .val (.int p1), .val (.int p2), .val (.int p3), .val (.int p4), .val (.int (2 : Int32)), .val (.int (own_b (¬ ((p1 &&& (1 : Int32)) = (0 : Int32))))), .val (.int (own_b (¬ ((p1 &&& (1 : Int32)) = (0 : Int32))))), .val (.int v43), .val (.int v51), .val (.int (own_b (¬ ((p4 &&& (1 : Int32)) = (0 : Int32)) ∧ (¬ (v51 < (1 : Int32)))))), .val (.ref b74), .val (.ref b85), .val (.ref b111), .val (.int v43), .val (.int j156_l15), .val (.int (own_b (j156_f_b111_position = v43))), .val (.int (own_b (¬ (w160_depth = (2 : Int32))))), .val (.int (own_b (¬ (w172_depth = (2 : Int32))))), .val (.int (own_b (¬ (w179_depth = (2 : Int32)))))] [(.int (own_b (j156_f_b111_position = v43)))])) target
            refine XS.iconst Xg186.here hx rfl (hb hby at_200) ?_
            show Steps p.tables e below (Tg186.setTop (mkF m 201 #[.val (.int p0), .val (.int p1), .val (.int p2), .val (.int p3), .val (.int p4), .val (.int (2 : Int32)), .val (.int (own_b (¬ ((p1 &&& (1 : Int32)) = (0 : Int32))))), .val (.int (own_b (¬ ((p1 &&& (1 : Int32)) = (0 : Int32))))), .val (.int v43), .val (.int v51), .val (.int (own_b (¬ ((p4 &&& (1 : Int32)) = (0 : Int32)) ∧ (¬ (v51 < (1 : Int32)))))), .val (.ref b74), .val (.ref b85), .val (.ref b111), .val (.int v43), .val (.int j156_l15), .val (.int (own_b (j156_f_b111_position = v43))), .val (.int (own_b (¬ (w160_depth = (2 : Int32))))), .val (.int (own_b (¬ (w172_depth = (2 : Int32))))), .val (.int (own_b (¬ (w179_depth = (2 : Int32)))))] [(.int (1 : Int32)), (.int (own_b (j156_f_b111_position = v43)))])) target
            refine XS.goto Xg186.here hx rfl (pc0 := 201) (pc' := 205) rfl (hb hby at_201) (by decide) (by decide) ?_
            exact kt
          exact ⟨_, ⟨(1 : Int32), rfl, (own_b1 c197).symm⟩, fun _ k => k⟩
        · refine own_st (B := Tg186.setTop (mkF m 205 #[.val (.int p0), .val (.int p1), .val (.int p2), .val (.int p3), .val (.int p4), .val (.int (2 : Int32)), .val (.int (own_b (¬ ((p1 &&& (1 : Int32)) = (0 : Int32))))), .val (.int (own_b (¬ ((p1 &&& (1 : Int32)) = (0 : Int32))))), .val (.int v43), .val (.int v51), .val (.int (own_b (¬ ((p4 &&& (1 : Int32)) = (0 : Int32)) ∧ (¬ (v51 < (1 : Int32)))))), .val (.ref b74), .val (.ref b85), .val (.ref b111), .val (.int v43), .val (.int j156_l15), .val (.int (own_b (j156_f_b111_position = v43))), .val (.int (own_b (¬ (w160_depth = (2 : Int32))))), .val (.int (own_b (¬ (w172_depth = (2 : Int32))))), .val (.int (own_b (¬ (w179_depth = (2 : Int32)))))] [(.int (0 : Int32)), (.int (own_b (j156_f_b111_position = v43)))])) (fun target kt => ?_) ?_
          · show Steps p.tables e below (Tg186.setTop (mkF m 197 #[.val (.int p0), .val (.int p1), .val (.int p2), .val (.int p3), .val (.int p4), .val (.int (2 : Int32)), .val (.int (own_b (¬ ((p1 &&& (1 : Int32)) = (0 : Int32))))), .val (.int (own_b (¬ ((p1 &&& (1 : Int32)) = (0 : Int32))))), .val (.int v43), .val (.int v51), .val (.int (own_b (¬ ((p4 &&& (1 : Int32)) = (0 : Int32)) ∧ (¬ (v51 < (1 : Int32)))))), .val (.ref b74), .val (.ref b85), .val (.ref b111), .val (.int v43), .val (.int j156_l15), .val (.int (own_b (j156_f_b111_position = v43))), .val (.int (own_b (¬ (w160_depth = (2 : Int32))))), .val (.int (own_b (¬ (w172_depth = (2 : Int32))))), .val (.int (own_b (¬ (w179_depth = (2 : Int32)))))] [(.int v43), (.int j156_l15), (.int (own_b (j156_f_b111_position = v43)))])) target
            refine XS.icmpYes Xg186.here hx rfl (pc0 := 197) (pc' := 204) rfl (hb hby at_197) rfl (feq c197).2 (by decide) (by decide) ?_
            show Steps p.tables e below (Tg186.setTop (mkF m 204 #[.val (.int p0), .val (.int p1), .val (.int p2), .val (.int p3), .val (.int p4), .val (.int (2 : Int32)), .val (.int (own_b (¬ ((p1 &&& (1 : Int32)) = (0 : Int32))))), .val (.int (own_b (¬ ((p1 &&& (1 : Int32)) = (0 : Int32))))), .val (.int v43), .val (.int v51), .val (.int (own_b (¬ ((p4 &&& (1 : Int32)) = (0 : Int32)) ∧ (¬ (v51 < (1 : Int32)))))), .val (.ref b74), .val (.ref b85), .val (.ref b111), .val (.int v43), .val (.int j156_l15), .val (.int (own_b (j156_f_b111_position = v43))), .val (.int (own_b (¬ (w160_depth = (2 : Int32))))), .val (.int (own_b (¬ (w172_depth = (2 : Int32))))), .val (.int (own_b (¬ (w179_depth = (2 : Int32)))))] [(.int (own_b (j156_f_b111_position = v43)))])) target
            refine XS.iconst Xg186.here hx rfl (hb hby at_204) ?_
            exact kt
          exact ⟨_, ⟨(0 : Int32), rfl, (own_b0 c197).symm⟩, fun _ k => k⟩
      refine own_st st_M205 ?_
      have c205 : (j156_f_b111_position = v43) ↔ (j156_l15 = v43) := by
        rw [hj156_f_b111_position, hj156_l15, hw128_position]
        exact Iff.rfl
      refine own_st (B := Tg186.setTop (mkF m 214 #[.val (.int p0), .val (.int p1), .val (.int p2), .val (.int p3), .val (.int p4), .val (.int (2 : Int32)), .val (.int (own_b (¬ ((p1 &&& (1 : Int32)) = (0 : Int32))))), .val (.int (own_b (¬ ((p1 &&& (1 : Int32)) = (0 : Int32))))), .val (.int v43), .val (.int v51), .val (.int (own_b (¬ ((p4 &&& (1 : Int32)) = (0 : Int32)) ∧ (¬ (v51 < (1 : Int32)))))), .val (.ref b74), .val (.ref b85), .val (.ref b111), .val (.int v43), .val (.int j156_l15), .val (.int (own_b (j156_f_b111_position = v43))), .val (.int (own_b (¬ (w160_depth = (2 : Int32))))), .val (.int (own_b (¬ (w172_depth = (2 : Int32))))), .val (.int (own_b (¬ (w179_depth = (2 : Int32)))))] [(.int (2 : Int32)), (.int (own_b (¬ ((p1 &&& (1 : Int32)) = (0 : Int32))))), (.int (own_b (¬ (w160_depth = (2 : Int32)))))])) (fun target kt => ?_) ?_
      · show Steps p.tables e below (Tg186.setTop (mkF m 205 #[.val (.int p0), .val (.int p1), .val (.int p2), .val (.int p3), .val (.int p4), .val (.int (2 : Int32)), .val (.int (own_b (¬ ((p1 &&& (1 : Int32)) = (0 : Int32))))), .val (.int (own_b (¬ ((p1 &&& (1 : Int32)) = (0 : Int32))))), .val (.int v43), .val (.int v51), .val (.int (own_b (¬ ((p4 &&& (1 : Int32)) = (0 : Int32)) ∧ (¬ (v51 < (1 : Int32)))))), .val (.ref b74), .val (.ref b85), .val (.ref b111), .val (.int v43), .val (.int j156_l15), .val (.int (own_b (j156_f_b111_position = v43))), .val (.int (own_b (¬ (w160_depth = (2 : Int32))))), .val (.int (own_b (¬ (w172_depth = (2 : Int32))))), .val (.int (own_b (¬ (w179_depth = (2 : Int32)))))] [(.int (own_b (j156_l15 = v43))), (.int (own_b (j156_f_b111_position = v43)))])) target
        refine XS.icmpNo Xg186.here hx rfl (hb hby at_205) rfl (teq (own_bb rfl rfl c205)).2 ?_
        show Steps p.tables e below (Tg186.setTop (mkF m 208 #[.val (.int p0), .val (.int p1), .val (.int p2), .val (.int p3), .val (.int p4), .val (.int (2 : Int32)), .val (.int (own_b (¬ ((p1 &&& (1 : Int32)) = (0 : Int32))))), .val (.int (own_b (¬ ((p1 &&& (1 : Int32)) = (0 : Int32))))), .val (.int v43), .val (.int v51), .val (.int (own_b (¬ ((p4 &&& (1 : Int32)) = (0 : Int32)) ∧ (¬ (v51 < (1 : Int32)))))), .val (.ref b74), .val (.ref b85), .val (.ref b111), .val (.int v43), .val (.int j156_l15), .val (.int (own_b (j156_f_b111_position = v43))), .val (.int (own_b (¬ (w160_depth = (2 : Int32))))), .val (.int (own_b (¬ (w172_depth = (2 : Int32))))), .val (.int (own_b (¬ (w179_depth = (2 : Int32)))))] [])) target
        refine XS.iload Xg186.here hx rfl (hb hby at_208) rfl ?_
        show Steps p.tables e below (Tg186.setTop (mkF m 210 #[.val (.int p0), .val (.int p1), .val (.int p2), .val (.int p3), .val (.int p4), .val (.int (2 : Int32)), .val (.int (own_b (¬ ((p1 &&& (1 : Int32)) = (0 : Int32))))), .val (.int (own_b (¬ ((p1 &&& (1 : Int32)) = (0 : Int32))))), .val (.int v43), .val (.int v51), .val (.int (own_b (¬ ((p4 &&& (1 : Int32)) = (0 : Int32)) ∧ (¬ (v51 < (1 : Int32)))))), .val (.ref b74), .val (.ref b85), .val (.ref b111), .val (.int v43), .val (.int j156_l15), .val (.int (own_b (j156_f_b111_position = v43))), .val (.int (own_b (¬ (w160_depth = (2 : Int32))))), .val (.int (own_b (¬ (w172_depth = (2 : Int32))))), .val (.int (own_b (¬ (w179_depth = (2 : Int32)))))] [(.int (own_b (¬ (w160_depth = (2 : Int32)))))])) target
        refine XS.iload Xg186.here hx rfl (hb hby at_210) rfl ?_
        show Steps p.tables e below (Tg186.setTop (mkF m 212 #[.val (.int p0), .val (.int p1), .val (.int p2), .val (.int p3), .val (.int p4), .val (.int (2 : Int32)), .val (.int (own_b (¬ ((p1 &&& (1 : Int32)) = (0 : Int32))))), .val (.int (own_b (¬ ((p1 &&& (1 : Int32)) = (0 : Int32))))), .val (.int v43), .val (.int v51), .val (.int (own_b (¬ ((p4 &&& (1 : Int32)) = (0 : Int32)) ∧ (¬ (v51 < (1 : Int32)))))), .val (.ref b74), .val (.ref b85), .val (.ref b111), .val (.int v43), .val (.int j156_l15), .val (.int (own_b (j156_f_b111_position = v43))), .val (.int (own_b (¬ (w160_depth = (2 : Int32))))), .val (.int (own_b (¬ (w172_depth = (2 : Int32))))), .val (.int (own_b (¬ (w179_depth = (2 : Int32)))))] [(.int (own_b (¬ ((p1 &&& (1 : Int32)) = (0 : Int32))))), (.int (own_b (¬ (w160_depth = (2 : Int32)))))])) target
        refine XS.iload Xg186.here hx rfl (hb hby at_212) rfl ?_
        exact kt
      obtain ⟨_, ⟨j222_s0, rfl, rfl⟩, st_M222⟩ : own_Lead p.tables e below (Tg186.setTop (mkF m 214 #[.val (.int p0), .val (.int p1), .val (.int p2), .val (.int p3), .val (.int p4), .val (.int (2 : Int32)), .val (.int (own_b (¬ ((p1 &&& (1 : Int32)) = (0 : Int32))))), .val (.int (own_b (¬ ((p1 &&& (1 : Int32)) = (0 : Int32))))), .val (.int v43), .val (.int v51), .val (.int (own_b (¬ ((p4 &&& (1 : Int32)) = (0 : Int32)) ∧ (¬ (v51 < (1 : Int32)))))), .val (.ref b74), .val (.ref b85), .val (.ref b111), .val (.int v43), .val (.int j156_l15), .val (.int (own_b (j156_f_b111_position = v43))), .val (.int (own_b (¬ (w160_depth = (2 : Int32))))), .val (.int (own_b (¬ (w172_depth = (2 : Int32))))), .val (.int (own_b (¬ (w179_depth = (2 : Int32)))))] [(.int (2 : Int32)), (.int (own_b (¬ ((p1 &&& (1 : Int32)) = (0 : Int32))))), (.int (own_b (¬ (w160_depth = (2 : Int32)))))])) (fun B => ∃ (j222_s0 : Int32), B = Tg186.setTop (mkF m 222 #[.val (.int p0), .val (.int p1), .val (.int p2), .val (.int p3), .val (.int p4), .val (.int (2 : Int32)), .val (.int (own_b (¬ ((p1 &&& (1 : Int32)) = (0 : Int32))))), .val (.int (own_b (¬ ((p1 &&& (1 : Int32)) = (0 : Int32))))), .val (.int v43), .val (.int v51), .val (.int (own_b (¬ ((p4 &&& (1 : Int32)) = (0 : Int32)) ∧ (¬ (v51 < (1 : Int32)))))), .val (.ref b74), .val (.ref b85), .val (.ref b111), .val (.int v43), .val (.int j156_l15), .val (.int (own_b (j156_f_b111_position = v43))), .val (.int (own_b (¬ (w160_depth = (2 : Int32))))), .val (.int (own_b (¬ (w172_depth = (2 : Int32))))), .val (.int (own_b (¬ (w179_depth = (2 : Int32)))))] [(.int j222_s0), (.int (own_b (¬ (w160_depth = (2 : Int32)))))]) ∧ j222_s0 = own_b ((own_b (¬ ((p1 &&& (1 : Int32)) = (0 : Int32)))) < (2 : Int32))) := by
        by_cases c214 : (own_b (¬ ((p1 &&& (1 : Int32)) = (0 : Int32)))) < (2 : Int32)
        · refine own_st (B := Tg186.setTop (mkF m 222 #[.val (.int p0), .val (.int p1), .val (.int p2), .val (.int p3), .val (.int p4), .val (.int (2 : Int32)), .val (.int (own_b (¬ ((p1 &&& (1 : Int32)) = (0 : Int32))))), .val (.int (own_b (¬ ((p1 &&& (1 : Int32)) = (0 : Int32))))), .val (.int v43), .val (.int v51), .val (.int (own_b (¬ ((p4 &&& (1 : Int32)) = (0 : Int32)) ∧ (¬ (v51 < (1 : Int32)))))), .val (.ref b74), .val (.ref b85), .val (.ref b111), .val (.int v43), .val (.int j156_l15), .val (.int (own_b (j156_f_b111_position = v43))), .val (.int (own_b (¬ (w160_depth = (2 : Int32))))), .val (.int (own_b (¬ (w172_depth = (2 : Int32))))), .val (.int (own_b (¬ (w179_depth = (2 : Int32)))))] [(.int (1 : Int32)), (.int (own_b (¬ (w160_depth = (2 : Int32)))))])) (fun target kt => ?_) ?_
          · show Steps p.tables e below (Tg186.setTop (mkF m 214 #[.val (.int p0), .val (.int p1), .val (.int p2), .val (.int p3), .val (.int p4), .val (.int (2 : Int32)), .val (.int (own_b (¬ ((p1 &&& (1 : Int32)) = (0 : Int32))))), .val (.int (own_b (¬ ((p1 &&& (1 : Int32)) = (0 : Int32))))), .val (.int v43), .val (.int v51), .val (.int (own_b (¬ ((p4 &&& (1 : Int32)) = (0 : Int32)) ∧ (¬ (v51 < (1 : Int32)))))), .val (.ref b74), .val (.ref b85), .val (.ref b111), .val (.int v43), .val (.int j156_l15), .val (.int (own_b (j156_f_b111_position = v43))), .val (.int (own_b (¬ (w160_depth = (2 : Int32))))), .val (.int (own_b (¬ (w172_depth = (2 : Int32))))), .val (.int (own_b (¬ (w179_depth = (2 : Int32)))))] [(.int (2 : Int32)), (.int (own_b (¬ ((p1 &&& (1 : Int32)) = (0 : Int32))))), (.int (own_b (¬ (w160_depth = (2 : Int32)))))])) target
            refine XS.icmpNo Xg186.here hx rfl (hb hby at_214) rfl (tlt c214).2.1 ?_
            show Steps p.tables e below (Tg186.setTop (mkF m 217 #[.val (.int p0), .val (.int p1), .val (.int p2), .val (.int p3), .val (.int p4), .val (.int (2 : Int32)), .val (.int (own_b (¬ ((p1 &&& (1 : Int32)) = (0 : Int32))))), .val (.int (own_b (¬ ((p1 &&& (1 : Int32)) = (0 : Int32))))), .val (.int v43), .val (.int v51), .val (.int (own_b (¬ ((p4 &&& (1 : Int32)) = (0 : Int32)) ∧ (¬ (v51 < (1 : Int32)))))), .val (.ref b74), .val (.ref b85), .val (.ref b111), .val (.int v43), .val (.int j156_l15), .val (.int (own_b (j156_f_b111_position = v43))), .val (.int (own_b (¬ (w160_depth = (2 : Int32))))), .val (.int (own_b (¬ (w172_depth = (2 : Int32))))), .val (.int (own_b (¬ (w179_depth = (2 : Int32)))))] [(.int (own_b (¬ (w160_depth = (2 : Int32)))))])) target
            refine XS.iconst Xg186.here hx rfl (hb hby at_217) ?_
            show Steps p.tables e below (Tg186.setTop (mkF m 218 #[.val (.int p0), .val (.int p1), .val (.int p2), .val (.int p3), .val (.int p4), .val (.int (2 : Int32)), .val (.int (own_b (¬ ((p1 &&& (1 : Int32)) = (0 : Int32))))), .val (.int (own_b (¬ ((p1 &&& (1 : Int32)) = (0 : Int32))))), .val (.int v43), .val (.int v51), .val (.int (own_b (¬ ((p4 &&& (1 : Int32)) = (0 : Int32)) ∧ (¬ (v51 < (1 : Int32)))))), .val (.ref b74), .val (.ref b85), .val (.ref b111), .val (.int v43), .val (.int j156_l15), .val (.int (own_b (j156_f_b111_position = v43))), .val (.int (own_b (¬ (w160_depth = (2 : Int32))))), .val (.int (own_b (¬ (w172_depth = (2 : Int32))))), .val (.int (own_b (¬ (w179_depth = (2 : Int32)))))] [(.int (1 : Int32)), (.int (own_b (¬ (w160_depth = (2 : Int32)))))])) target
            refine XS.goto Xg186.here hx rfl (pc0 := 218) (pc' := 222) rfl (hb hby at_218) (by decide) (by decide) ?_
            exact kt
          exact ⟨_, ⟨(1 : Int32), rfl, (own_b1 c214).symm⟩, fun _ k => k⟩
        · refine own_st (B := Tg186.setTop (mkF m 222 #[.val (.int p0), .val (.int p1), .val (.int p2), .val (.int p3), .val (.int p4), .val (.int (2 : Int32)), .val (.int (own_b (¬ ((p1 &&& (1 : Int32)) = (0 : Int32))))), .val (.int (own_b (¬ ((p1 &&& (1 : Int32)) = (0 : Int32))))), .val (.int v43), .val (.int v51), .val (.int (own_b (¬ ((p4 &&& (1 : Int32)) = (0 : Int32)) ∧ (¬ (v51 < (1 : Int32)))))), .val (.ref b74), .val (.ref b85), .val (.ref b111), .val (.int v43), .val (.int j156_l15), .val (.int (own_b (j156_f_b111_position = v43))), .val (.int (own_b (¬ (w160_depth = (2 : Int32))))), .val (.int (own_b (¬ (w172_depth = (2 : Int32))))), .val (.int (own_b (¬ (w179_depth = (2 : Int32)))))] [(.int (0 : Int32)), (.int (own_b (¬ (w160_depth = (2 : Int32)))))])) (fun target kt => ?_) ?_
          · show Steps p.tables e below (Tg186.setTop (mkF m 214 #[.val (.int p0), .val (.int p1), .val (.int p2), .val (.int p3), .val (.int p4), .val (.int (2 : Int32)), .val (.int (own_b (¬ ((p1 &&& (1 : Int32)) = (0 : Int32))))), .val (.int (own_b (¬ ((p1 &&& (1 : Int32)) = (0 : Int32))))), .val (.int v43), .val (.int v51), .val (.int (own_b (¬ ((p4 &&& (1 : Int32)) = (0 : Int32)) ∧ (¬ (v51 < (1 : Int32)))))), .val (.ref b74), .val (.ref b85), .val (.ref b111), .val (.int v43), .val (.int j156_l15), .val (.int (own_b (j156_f_b111_position = v43))), .val (.int (own_b (¬ (w160_depth = (2 : Int32))))), .val (.int (own_b (¬ (w172_depth = (2 : Int32))))), .val (.int (own_b (¬ (w179_depth = (2 : Int32)))))] [(.int (2 : Int32)), (.int (own_b (¬ ((p1 &&& (1 : Int32)) = (0 : Int32))))), (.int (own_b (¬ (w160_depth = (2 : Int32)))))])) target
            refine XS.icmpYes Xg186.here hx rfl (pc0 := 214) (pc' := 221) rfl (hb hby at_214) rfl (flt c214).2.1 (by decide) (by decide) ?_
            show Steps p.tables e below (Tg186.setTop (mkF m 221 #[.val (.int p0), .val (.int p1), .val (.int p2), .val (.int p3), .val (.int p4), .val (.int (2 : Int32)), .val (.int (own_b (¬ ((p1 &&& (1 : Int32)) = (0 : Int32))))), .val (.int (own_b (¬ ((p1 &&& (1 : Int32)) = (0 : Int32))))), .val (.int v43), .val (.int v51), .val (.int (own_b (¬ ((p4 &&& (1 : Int32)) = (0 : Int32)) ∧ (¬ (v51 < (1 : Int32)))))), .val (.ref b74), .val (.ref b85), .val (.ref b111), .val (.int v43), .val (.int j156_l15), .val (.int (own_b (j156_f_b111_position = v43))), .val (.int (own_b (¬ (w160_depth = (2 : Int32))))), .val (.int (own_b (¬ (w172_depth = (2 : Int32))))), .val (.int (own_b (¬ (w179_depth = (2 : Int32)))))] [(.int (own_b (¬ (w160_depth = (2 : Int32)))))])) target
            refine XS.iconst Xg186.here hx rfl (hb hby at_221) ?_
            exact kt
          exact ⟨_, ⟨(0 : Int32), rfl, (own_b0 c214).symm⟩, fun _ k => k⟩
      refine own_st st_M222 ?_
      have c222 : (¬ (w160_depth = (2 : Int32))) ↔ ((own_b (¬ ((p1 &&& (1 : Int32)) = (0 : Int32)))) < (2 : Int32)) := by
        simp only [own_b1 c98, hw186_depth, hw179_depth, hw172_depth, hw160_depth, hw128_depth, hw103_depth]
        decide
      refine own_st (B := Tg186.setTop (mkF m 233 #[.val (.int p0), .val (.int p1), .val (.int p2), .val (.int p3), .val (.int p4), .val (.int (2 : Int32)), .val (.int (own_b (¬ ((p1 &&& (1 : Int32)) = (0 : Int32))))), .val (.int (own_b (¬ ((p1 &&& (1 : Int32)) = (0 : Int32))))), .val (.int v43), .val (.int v51), .val (.int (own_b (¬ ((p4 &&& (1 : Int32)) = (0 : Int32)) ∧ (¬ (v51 < (1 : Int32)))))), .val (.ref b74), .val (.ref b85), .val (.ref b111), .val (.int v43), .val (.int j156_l15), .val (.int (own_b (j156_f_b111_position = v43))), .val (.int (own_b (¬ (w160_depth = (2 : Int32))))), .val (.int (own_b (¬ (w172_depth = (2 : Int32))))), .val (.int (own_b (¬ (w179_depth = (2 : Int32)))))] [(.int (2 : Int32)), (.int ((own_b (¬ ((p1 &&& (1 : Int32)) = (0 : Int32)))) + (1 : Int32))), (.int (own_b (¬ (w172_depth = (2 : Int32)))))])) (fun target kt => ?_) ?_
      · show Steps p.tables e below (Tg186.setTop (mkF m 222 #[.val (.int p0), .val (.int p1), .val (.int p2), .val (.int p3), .val (.int p4), .val (.int (2 : Int32)), .val (.int (own_b (¬ ((p1 &&& (1 : Int32)) = (0 : Int32))))), .val (.int (own_b (¬ ((p1 &&& (1 : Int32)) = (0 : Int32))))), .val (.int v43), .val (.int v51), .val (.int (own_b (¬ ((p4 &&& (1 : Int32)) = (0 : Int32)) ∧ (¬ (v51 < (1 : Int32)))))), .val (.ref b74), .val (.ref b85), .val (.ref b111), .val (.int v43), .val (.int j156_l15), .val (.int (own_b (j156_f_b111_position = v43))), .val (.int (own_b (¬ (w160_depth = (2 : Int32))))), .val (.int (own_b (¬ (w172_depth = (2 : Int32))))), .val (.int (own_b (¬ (w179_depth = (2 : Int32)))))] [(.int (own_b ((own_b (¬ ((p1 &&& (1 : Int32)) = (0 : Int32)))) < (2 : Int32)))), (.int (own_b (¬ (w160_depth = (2 : Int32)))))])) target
        refine XS.icmpNo Xg186.here hx rfl (hb hby at_222) rfl (teq (own_bb rfl rfl c222)).2 ?_
        show Steps p.tables e below (Tg186.setTop (mkF m 225 #[.val (.int p0), .val (.int p1), .val (.int p2), .val (.int p3), .val (.int p4), .val (.int (2 : Int32)), .val (.int (own_b (¬ ((p1 &&& (1 : Int32)) = (0 : Int32))))), .val (.int (own_b (¬ ((p1 &&& (1 : Int32)) = (0 : Int32))))), .val (.int v43), .val (.int v51), .val (.int (own_b (¬ ((p4 &&& (1 : Int32)) = (0 : Int32)) ∧ (¬ (v51 < (1 : Int32)))))), .val (.ref b74), .val (.ref b85), .val (.ref b111), .val (.int v43), .val (.int j156_l15), .val (.int (own_b (j156_f_b111_position = v43))), .val (.int (own_b (¬ (w160_depth = (2 : Int32))))), .val (.int (own_b (¬ (w172_depth = (2 : Int32))))), .val (.int (own_b (¬ (w179_depth = (2 : Int32)))))] [])) target
        refine XS.iload Xg186.here hx rfl (hb hby at_225) rfl ?_
        show Steps p.tables e below (Tg186.setTop (mkF m 227 #[.val (.int p0), .val (.int p1), .val (.int p2), .val (.int p3), .val (.int p4), .val (.int (2 : Int32)), .val (.int (own_b (¬ ((p1 &&& (1 : Int32)) = (0 : Int32))))), .val (.int (own_b (¬ ((p1 &&& (1 : Int32)) = (0 : Int32))))), .val (.int v43), .val (.int v51), .val (.int (own_b (¬ ((p4 &&& (1 : Int32)) = (0 : Int32)) ∧ (¬ (v51 < (1 : Int32)))))), .val (.ref b74), .val (.ref b85), .val (.ref b111), .val (.int v43), .val (.int j156_l15), .val (.int (own_b (j156_f_b111_position = v43))), .val (.int (own_b (¬ (w160_depth = (2 : Int32))))), .val (.int (own_b (¬ (w172_depth = (2 : Int32))))), .val (.int (own_b (¬ (w179_depth = (2 : Int32)))))] [(.int (own_b (¬ (w172_depth = (2 : Int32)))))])) target
        refine XS.iload Xg186.here hx rfl (hb hby at_227) rfl ?_
        show Steps p.tables e below (Tg186.setTop (mkF m 229 #[.val (.int p0), .val (.int p1), .val (.int p2), .val (.int p3), .val (.int p4), .val (.int (2 : Int32)), .val (.int (own_b (¬ ((p1 &&& (1 : Int32)) = (0 : Int32))))), .val (.int (own_b (¬ ((p1 &&& (1 : Int32)) = (0 : Int32))))), .val (.int v43), .val (.int v51), .val (.int (own_b (¬ ((p4 &&& (1 : Int32)) = (0 : Int32)) ∧ (¬ (v51 < (1 : Int32)))))), .val (.ref b74), .val (.ref b85), .val (.ref b111), .val (.int v43), .val (.int j156_l15), .val (.int (own_b (j156_f_b111_position = v43))), .val (.int (own_b (¬ (w160_depth = (2 : Int32))))), .val (.int (own_b (¬ (w172_depth = (2 : Int32))))), .val (.int (own_b (¬ (w179_depth = (2 : Int32)))))] [(.int (own_b (¬ ((p1 &&& (1 : Int32)) = (0 : Int32))))), (.int (own_b (¬ (w172_depth = (2 : Int32)))))])) target
        refine XS.iconst Xg186.here hx rfl (hb hby at_229) ?_
        show Steps p.tables e below (Tg186.setTop (mkF m 230 #[.val (.int p0), .val (.int p1), .val (.int p2), .val (.int p3), .val (.int p4), .val (.int (2 : Int32)), .val (.int (own_b (¬ ((p1 &&& (1 : Int32)) = (0 : Int32))))), .val (.int (own_b (¬ ((p1 &&& (1 : Int32)) = (0 : Int32))))), .val (.int v43), .val (.int v51), .val (.int (own_b (¬ ((p4 &&& (1 : Int32)) = (0 : Int32)) ∧ (¬ (v51 < (1 : Int32)))))), .val (.ref b74), .val (.ref b85), .val (.ref b111), .val (.int v43), .val (.int j156_l15), .val (.int (own_b (j156_f_b111_position = v43))), .val (.int (own_b (¬ (w160_depth = (2 : Int32))))), .val (.int (own_b (¬ (w172_depth = (2 : Int32))))), .val (.int (own_b (¬ (w179_depth = (2 : Int32)))))] [(.int (1 : Int32)), (.int (own_b (¬ ((p1 &&& (1 : Int32)) = (0 : Int32))))), (.int (own_b (¬ (w172_depth = (2 : Int32)))))])) target
        refine XS.iadd Xg186.here hx rfl (hb hby at_230) rfl ?_
        show Steps p.tables e below (Tg186.setTop (mkF m 231 #[.val (.int p0), .val (.int p1), .val (.int p2), .val (.int p3), .val (.int p4), .val (.int (2 : Int32)), .val (.int (own_b (¬ ((p1 &&& (1 : Int32)) = (0 : Int32))))), .val (.int (own_b (¬ ((p1 &&& (1 : Int32)) = (0 : Int32))))), .val (.int v43), .val (.int v51), .val (.int (own_b (¬ ((p4 &&& (1 : Int32)) = (0 : Int32)) ∧ (¬ (v51 < (1 : Int32)))))), .val (.ref b74), .val (.ref b85), .val (.ref b111), .val (.int v43), .val (.int j156_l15), .val (.int (own_b (j156_f_b111_position = v43))), .val (.int (own_b (¬ (w160_depth = (2 : Int32))))), .val (.int (own_b (¬ (w172_depth = (2 : Int32))))), .val (.int (own_b (¬ (w179_depth = (2 : Int32)))))] [(.int ((own_b (¬ ((p1 &&& (1 : Int32)) = (0 : Int32)))) + (1 : Int32))), (.int (own_b (¬ (w172_depth = (2 : Int32)))))])) target
        refine XS.iload Xg186.here hx rfl (hb hby at_231) rfl ?_
        exact kt
      obtain ⟨_, ⟨j241_s0, rfl, rfl⟩, st_M241⟩ : own_Lead p.tables e below (Tg186.setTop (mkF m 233 #[.val (.int p0), .val (.int p1), .val (.int p2), .val (.int p3), .val (.int p4), .val (.int (2 : Int32)), .val (.int (own_b (¬ ((p1 &&& (1 : Int32)) = (0 : Int32))))), .val (.int (own_b (¬ ((p1 &&& (1 : Int32)) = (0 : Int32))))), .val (.int v43), .val (.int v51), .val (.int (own_b (¬ ((p4 &&& (1 : Int32)) = (0 : Int32)) ∧ (¬ (v51 < (1 : Int32)))))), .val (.ref b74), .val (.ref b85), .val (.ref b111), .val (.int v43), .val (.int j156_l15), .val (.int (own_b (j156_f_b111_position = v43))), .val (.int (own_b (¬ (w160_depth = (2 : Int32))))), .val (.int (own_b (¬ (w172_depth = (2 : Int32))))), .val (.int (own_b (¬ (w179_depth = (2 : Int32)))))] [(.int (2 : Int32)), (.int ((own_b (¬ ((p1 &&& (1 : Int32)) = (0 : Int32)))) + (1 : Int32))), (.int (own_b (¬ (w172_depth = (2 : Int32)))))])) (fun B => ∃ (j241_s0 : Int32), B = Tg186.setTop (mkF m 241 #[.val (.int p0), .val (.int p1), .val (.int p2), .val (.int p3), .val (.int p4), .val (.int (2 : Int32)), .val (.int (own_b (¬ ((p1 &&& (1 : Int32)) = (0 : Int32))))), .val (.int (own_b (¬ ((p1 &&& (1 : Int32)) = (0 : Int32))))), .val (.int v43), .val (.int v51), .val (.int (own_b (¬ ((p4 &&& (1 : Int32)) = (0 : Int32)) ∧ (¬ (v51 < (1 : Int32)))))), .val (.ref b74), .val (.ref b85), .val (.ref b111), .val (.int v43), .val (.int j156_l15), .val (.int (own_b (j156_f_b111_position = v43))), .val (.int (own_b (¬ (w160_depth = (2 : Int32))))), .val (.int (own_b (¬ (w172_depth = (2 : Int32))))), .val (.int (own_b (¬ (w179_depth = (2 : Int32)))))] [(.int j241_s0), (.int (own_b (¬ (w172_depth = (2 : Int32)))))]) ∧ j241_s0 = own_b (((own_b (¬ ((p1 &&& (1 : Int32)) = (0 : Int32)))) + (1 : Int32)) < (2 : Int32))) := by
        by_cases c233 : ((own_b (¬ ((p1 &&& (1 : Int32)) = (0 : Int32)))) + (1 : Int32)) < (2 : Int32)
        · refine own_st (B := Tg186.setTop (mkF m 241 #[.val (.int p0), .val (.int p1), .val (.int p2), .val (.int p3), .val (.int p4), .val (.int (2 : Int32)), .val (.int (own_b (¬ ((p1 &&& (1 : Int32)) = (0 : Int32))))), .val (.int (own_b (¬ ((p1 &&& (1 : Int32)) = (0 : Int32))))), .val (.int v43), .val (.int v51), .val (.int (own_b (¬ ((p4 &&& (1 : Int32)) = (0 : Int32)) ∧ (¬ (v51 < (1 : Int32)))))), .val (.ref b74), .val (.ref b85), .val (.ref b111), .val (.int v43), .val (.int j156_l15), .val (.int (own_b (j156_f_b111_position = v43))), .val (.int (own_b (¬ (w160_depth = (2 : Int32))))), .val (.int (own_b (¬ (w172_depth = (2 : Int32))))), .val (.int (own_b (¬ (w179_depth = (2 : Int32)))))] [(.int (1 : Int32)), (.int (own_b (¬ (w172_depth = (2 : Int32)))))])) (fun target kt => ?_) ?_
          · show Steps p.tables e below (Tg186.setTop (mkF m 233 #[.val (.int p0), .val (.int p1), .val (.int p2), .val (.int p3), .val (.int p4), .val (.int (2 : Int32)), .val (.int (own_b (¬ ((p1 &&& (1 : Int32)) = (0 : Int32))))), .val (.int (own_b (¬ ((p1 &&& (1 : Int32)) = (0 : Int32))))), .val (.int v43), .val (.int v51), .val (.int (own_b (¬ ((p4 &&& (1 : Int32)) = (0 : Int32)) ∧ (¬ (v51 < (1 : Int32)))))), .val (.ref b74), .val (.ref b85), .val (.ref b111), .val (.int v43), .val (.int j156_l15), .val (.int (own_b (j156_f_b111_position = v43))), .val (.int (own_b (¬ (w160_depth = (2 : Int32))))), .val (.int (own_b (¬ (w172_depth = (2 : Int32))))), .val (.int (own_b (¬ (w179_depth = (2 : Int32)))))] [(.int (2 : Int32)), (.int ((own_b (¬ ((p1 &&& (1 : Int32)) = (0 : Int32)))) + (1 : Int32))), (.int (own_b (¬ (w172_depth = (2 : Int32)))))])) target
            refine XS.icmpNo Xg186.here hx rfl (hb hby at_233) rfl (tlt c233).2.1 ?_
            show Steps p.tables e below (Tg186.setTop (mkF m 236 #[.val (.int p0), .val (.int p1), .val (.int p2), .val (.int p3), .val (.int p4), .val (.int (2 : Int32)), .val (.int (own_b (¬ ((p1 &&& (1 : Int32)) = (0 : Int32))))), .val (.int (own_b (¬ ((p1 &&& (1 : Int32)) = (0 : Int32))))), .val (.int v43), .val (.int v51), .val (.int (own_b (¬ ((p4 &&& (1 : Int32)) = (0 : Int32)) ∧ (¬ (v51 < (1 : Int32)))))), .val (.ref b74), .val (.ref b85), .val (.ref b111), .val (.int v43), .val (.int j156_l15), .val (.int (own_b (j156_f_b111_position = v43))), .val (.int (own_b (¬ (w160_depth = (2 : Int32))))), .val (.int (own_b (¬ (w172_depth = (2 : Int32))))), .val (.int (own_b (¬ (w179_depth = (2 : Int32)))))] [(.int (own_b (¬ (w172_depth = (2 : Int32)))))])) target
            refine XS.iconst Xg186.here hx rfl (hb hby at_236) ?_
            show Steps p.tables e below (Tg186.setTop (mkF m 237 #[.val (.int p0), .val (.int p1), .val (.int p2), .val (.int p3), .val (.int p4), .val (.int (2 : Int32)), .val (.int (own_b (¬ ((p1 &&& (1 : Int32)) = (0 : Int32))))), .val (.int (own_b (¬ ((p1 &&& (1 : Int32)) = (0 : Int32))))), .val (.int v43), .val (.int v51), .val (.int (own_b (¬ ((p4 &&& (1 : Int32)) = (0 : Int32)) ∧ (¬ (v51 < (1 : Int32)))))), .val (.ref b74), .val (.ref b85), .val (.ref b111), .val (.int v43), .val (.int j156_l15), .val (.int (own_b (j156_f_b111_position = v43))), .val (.int (own_b (¬ (w160_depth = (2 : Int32))))), .val (.int (own_b (¬ (w172_depth = (2 : Int32))))), .val (.int (own_b (¬ (w179_depth = (2 : Int32)))))] [(.int (1 : Int32)), (.int (own_b (¬ (w172_depth = (2 : Int32)))))])) target
            refine XS.goto Xg186.here hx rfl (pc0 := 237) (pc' := 241) rfl (hb hby at_237) (by decide) (by decide) ?_
            exact kt
          exact ⟨_, ⟨(1 : Int32), rfl, (own_b1 c233).symm⟩, fun _ k => k⟩
        · refine own_st (B := Tg186.setTop (mkF m 241 #[.val (.int p0), .val (.int p1), .val (.int p2), .val (.int p3), .val (.int p4), .val (.int (2 : Int32)), .val (.int (own_b (¬ ((p1 &&& (1 : Int32)) = (0 : Int32))))), .val (.int (own_b (¬ ((p1 &&& (1 : Int32)) = (0 : Int32))))), .val (.int v43), .val (.int v51), .val (.int (own_b (¬ ((p4 &&& (1 : Int32)) = (0 : Int32)) ∧ (¬ (v51 < (1 : Int32)))))), .val (.ref b74), .val (.ref b85), .val (.ref b111), .val (.int v43), .val (.int j156_l15), .val (.int (own_b (j156_f_b111_position = v43))), .val (.int (own_b (¬ (w160_depth = (2 : Int32))))), .val (.int (own_b (¬ (w172_depth = (2 : Int32))))), .val (.int (own_b (¬ (w179_depth = (2 : Int32)))))] [(.int (0 : Int32)), (.int (own_b (¬ (w172_depth = (2 : Int32)))))])) (fun target kt => ?_) ?_
          · show Steps p.tables e below (Tg186.setTop (mkF m 233 #[.val (.int p0), .val (.int p1), .val (.int p2), .val (.int p3), .val (.int p4), .val (.int (2 : Int32)), .val (.int (own_b (¬ ((p1 &&& (1 : Int32)) = (0 : Int32))))), .val (.int (own_b (¬ ((p1 &&& (1 : Int32)) = (0 : Int32))))), .val (.int v43), .val (.int v51), .val (.int (own_b (¬ ((p4 &&& (1 : Int32)) = (0 : Int32)) ∧ (¬ (v51 < (1 : Int32)))))), .val (.ref b74), .val (.ref b85), .val (.ref b111), .val (.int v43), .val (.int j156_l15), .val (.int (own_b (j156_f_b111_position = v43))), .val (.int (own_b (¬ (w160_depth = (2 : Int32))))), .val (.int (own_b (¬ (w172_depth = (2 : Int32))))), .val (.int (own_b (¬ (w179_depth = (2 : Int32)))))] [(.int (2 : Int32)), (.int ((own_b (¬ ((p1 &&& (1 : Int32)) = (0 : Int32)))) + (1 : Int32))), (.int (own_b (¬ (w172_depth = (2 : Int32)))))])) target
            refine XS.icmpYes Xg186.here hx rfl (pc0 := 233) (pc' := 240) rfl (hb hby at_233) rfl (flt c233).2.1 (by decide) (by decide) ?_
            show Steps p.tables e below (Tg186.setTop (mkF m 240 #[.val (.int p0), .val (.int p1), .val (.int p2), .val (.int p3), .val (.int p4), .val (.int (2 : Int32)), .val (.int (own_b (¬ ((p1 &&& (1 : Int32)) = (0 : Int32))))), .val (.int (own_b (¬ ((p1 &&& (1 : Int32)) = (0 : Int32))))), .val (.int v43), .val (.int v51), .val (.int (own_b (¬ ((p4 &&& (1 : Int32)) = (0 : Int32)) ∧ (¬ (v51 < (1 : Int32)))))), .val (.ref b74), .val (.ref b85), .val (.ref b111), .val (.int v43), .val (.int j156_l15), .val (.int (own_b (j156_f_b111_position = v43))), .val (.int (own_b (¬ (w160_depth = (2 : Int32))))), .val (.int (own_b (¬ (w172_depth = (2 : Int32))))), .val (.int (own_b (¬ (w179_depth = (2 : Int32)))))] [(.int (own_b (¬ (w172_depth = (2 : Int32)))))])) target
            refine XS.iconst Xg186.here hx rfl (hb hby at_240) ?_
            exact kt
          exact ⟨_, ⟨(0 : Int32), rfl, (own_b0 c233).symm⟩, fun _ k => k⟩
      refine own_st st_M241 ?_
      have c241 : (¬ (w172_depth = (2 : Int32))) ↔ (((own_b (¬ ((p1 &&& (1 : Int32)) = (0 : Int32)))) + (1 : Int32)) < (2 : Int32)) := by
        simp only [own_b1 c98, hw186_depth, hw179_depth, hw172_depth, hw160_depth, hw128_depth, hw103_depth]
        decide
      refine own_st (B := Tg186.setTop (mkF m 252 #[.val (.int p0), .val (.int p1), .val (.int p2), .val (.int p3), .val (.int p4), .val (.int (2 : Int32)), .val (.int (own_b (¬ ((p1 &&& (1 : Int32)) = (0 : Int32))))), .val (.int (own_b (¬ ((p1 &&& (1 : Int32)) = (0 : Int32))))), .val (.int v43), .val (.int v51), .val (.int (own_b (¬ ((p4 &&& (1 : Int32)) = (0 : Int32)) ∧ (¬ (v51 < (1 : Int32)))))), .val (.ref b74), .val (.ref b85), .val (.ref b111), .val (.int v43), .val (.int j156_l15), .val (.int (own_b (j156_f_b111_position = v43))), .val (.int (own_b (¬ (w160_depth = (2 : Int32))))), .val (.int (own_b (¬ (w172_depth = (2 : Int32))))), .val (.int (own_b (¬ (w179_depth = (2 : Int32)))))] [(.int (2 : Int32)), (.int ((own_b (¬ ((p1 &&& (1 : Int32)) = (0 : Int32)))) + (2 : Int32))), (.int (own_b (¬ (w179_depth = (2 : Int32)))))])) (fun target kt => ?_) ?_
      · show Steps p.tables e below (Tg186.setTop (mkF m 241 #[.val (.int p0), .val (.int p1), .val (.int p2), .val (.int p3), .val (.int p4), .val (.int (2 : Int32)), .val (.int (own_b (¬ ((p1 &&& (1 : Int32)) = (0 : Int32))))), .val (.int (own_b (¬ ((p1 &&& (1 : Int32)) = (0 : Int32))))), .val (.int v43), .val (.int v51), .val (.int (own_b (¬ ((p4 &&& (1 : Int32)) = (0 : Int32)) ∧ (¬ (v51 < (1 : Int32)))))), .val (.ref b74), .val (.ref b85), .val (.ref b111), .val (.int v43), .val (.int j156_l15), .val (.int (own_b (j156_f_b111_position = v43))), .val (.int (own_b (¬ (w160_depth = (2 : Int32))))), .val (.int (own_b (¬ (w172_depth = (2 : Int32))))), .val (.int (own_b (¬ (w179_depth = (2 : Int32)))))] [(.int (own_b (((own_b (¬ ((p1 &&& (1 : Int32)) = (0 : Int32)))) + (1 : Int32)) < (2 : Int32)))), (.int (own_b (¬ (w172_depth = (2 : Int32)))))])) target
        refine XS.icmpNo Xg186.here hx rfl (hb hby at_241) rfl (teq (own_bb rfl rfl c241)).2 ?_
        show Steps p.tables e below (Tg186.setTop (mkF m 244 #[.val (.int p0), .val (.int p1), .val (.int p2), .val (.int p3), .val (.int p4), .val (.int (2 : Int32)), .val (.int (own_b (¬ ((p1 &&& (1 : Int32)) = (0 : Int32))))), .val (.int (own_b (¬ ((p1 &&& (1 : Int32)) = (0 : Int32))))), .val (.int v43), .val (.int v51), .val (.int (own_b (¬ ((p4 &&& (1 : Int32)) = (0 : Int32)) ∧ (¬ (v51 < (1 : Int32)))))), .val (.ref b74), .val (.ref b85), .val (.ref b111), .val (.int v43), .val (.int j156_l15), .val (.int (own_b (j156_f_b111_position = v43))), .val (.int (own_b (¬ (w160_depth = (2 : Int32))))), .val (.int (own_b (¬ (w172_depth = (2 : Int32))))), .val (.int (own_b (¬ (w179_depth = (2 : Int32)))))] [])) target
        refine XS.iload Xg186.here hx rfl (hb hby at_244) rfl ?_
        show Steps p.tables e below (Tg186.setTop (mkF m 246 #[.val (.int p0), .val (.int p1), .val (.int p2), .val (.int p3), .val (.int p4), .val (.int (2 : Int32)), .val (.int (own_b (¬ ((p1 &&& (1 : Int32)) = (0 : Int32))))), .val (.int (own_b (¬ ((p1 &&& (1 : Int32)) = (0 : Int32))))), .val (.int v43), .val (.int v51), .val (.int (own_b (¬ ((p4 &&& (1 : Int32)) = (0 : Int32)) ∧ (¬ (v51 < (1 : Int32)))))), .val (.ref b74), .val (.ref b85), .val (.ref b111), .val (.int v43), .val (.int j156_l15), .val (.int (own_b (j156_f_b111_position = v43))), .val (.int (own_b (¬ (w160_depth = (2 : Int32))))), .val (.int (own_b (¬ (w172_depth = (2 : Int32))))), .val (.int (own_b (¬ (w179_depth = (2 : Int32)))))] [(.int (own_b (¬ (w179_depth = (2 : Int32)))))])) target
        refine XS.iload Xg186.here hx rfl (hb hby at_246) rfl ?_
        show Steps p.tables e below (Tg186.setTop (mkF m 248 #[.val (.int p0), .val (.int p1), .val (.int p2), .val (.int p3), .val (.int p4), .val (.int (2 : Int32)), .val (.int (own_b (¬ ((p1 &&& (1 : Int32)) = (0 : Int32))))), .val (.int (own_b (¬ ((p1 &&& (1 : Int32)) = (0 : Int32))))), .val (.int v43), .val (.int v51), .val (.int (own_b (¬ ((p4 &&& (1 : Int32)) = (0 : Int32)) ∧ (¬ (v51 < (1 : Int32)))))), .val (.ref b74), .val (.ref b85), .val (.ref b111), .val (.int v43), .val (.int j156_l15), .val (.int (own_b (j156_f_b111_position = v43))), .val (.int (own_b (¬ (w160_depth = (2 : Int32))))), .val (.int (own_b (¬ (w172_depth = (2 : Int32))))), .val (.int (own_b (¬ (w179_depth = (2 : Int32)))))] [(.int (own_b (¬ ((p1 &&& (1 : Int32)) = (0 : Int32))))), (.int (own_b (¬ (w179_depth = (2 : Int32)))))])) target
        refine XS.iconst Xg186.here hx rfl (hb hby at_248) ?_
        show Steps p.tables e below (Tg186.setTop (mkF m 249 #[.val (.int p0), .val (.int p1), .val (.int p2), .val (.int p3), .val (.int p4), .val (.int (2 : Int32)), .val (.int (own_b (¬ ((p1 &&& (1 : Int32)) = (0 : Int32))))), .val (.int (own_b (¬ ((p1 &&& (1 : Int32)) = (0 : Int32))))), .val (.int v43), .val (.int v51), .val (.int (own_b (¬ ((p4 &&& (1 : Int32)) = (0 : Int32)) ∧ (¬ (v51 < (1 : Int32)))))), .val (.ref b74), .val (.ref b85), .val (.ref b111), .val (.int v43), .val (.int j156_l15), .val (.int (own_b (j156_f_b111_position = v43))), .val (.int (own_b (¬ (w160_depth = (2 : Int32))))), .val (.int (own_b (¬ (w172_depth = (2 : Int32))))), .val (.int (own_b (¬ (w179_depth = (2 : Int32)))))] [(.int (2 : Int32)), (.int (own_b (¬ ((p1 &&& (1 : Int32)) = (0 : Int32))))), (.int (own_b (¬ (w179_depth = (2 : Int32)))))])) target
        refine XS.iadd Xg186.here hx rfl (hb hby at_249) rfl ?_
        show Steps p.tables e below (Tg186.setTop (mkF m 250 #[.val (.int p0), .val (.int p1), .val (.int p2), .val (.int p3), .val (.int p4), .val (.int (2 : Int32)), .val (.int (own_b (¬ ((p1 &&& (1 : Int32)) = (0 : Int32))))), .val (.int (own_b (¬ ((p1 &&& (1 : Int32)) = (0 : Int32))))), .val (.int v43), .val (.int v51), .val (.int (own_b (¬ ((p4 &&& (1 : Int32)) = (0 : Int32)) ∧ (¬ (v51 < (1 : Int32)))))), .val (.ref b74), .val (.ref b85), .val (.ref b111), .val (.int v43), .val (.int j156_l15), .val (.int (own_b (j156_f_b111_position = v43))), .val (.int (own_b (¬ (w160_depth = (2 : Int32))))), .val (.int (own_b (¬ (w172_depth = (2 : Int32))))), .val (.int (own_b (¬ (w179_depth = (2 : Int32)))))] [(.int ((own_b (¬ ((p1 &&& (1 : Int32)) = (0 : Int32)))) + (2 : Int32))), (.int (own_b (¬ (w179_depth = (2 : Int32)))))])) target
        refine XS.iload Xg186.here hx rfl (hb hby at_250) rfl ?_
        exact kt
      obtain ⟨_, ⟨j260_s0, rfl, rfl⟩, st_M260⟩ : own_Lead p.tables e below (Tg186.setTop (mkF m 252 #[.val (.int p0), .val (.int p1), .val (.int p2), .val (.int p3), .val (.int p4), .val (.int (2 : Int32)), .val (.int (own_b (¬ ((p1 &&& (1 : Int32)) = (0 : Int32))))), .val (.int (own_b (¬ ((p1 &&& (1 : Int32)) = (0 : Int32))))), .val (.int v43), .val (.int v51), .val (.int (own_b (¬ ((p4 &&& (1 : Int32)) = (0 : Int32)) ∧ (¬ (v51 < (1 : Int32)))))), .val (.ref b74), .val (.ref b85), .val (.ref b111), .val (.int v43), .val (.int j156_l15), .val (.int (own_b (j156_f_b111_position = v43))), .val (.int (own_b (¬ (w160_depth = (2 : Int32))))), .val (.int (own_b (¬ (w172_depth = (2 : Int32))))), .val (.int (own_b (¬ (w179_depth = (2 : Int32)))))] [(.int (2 : Int32)), (.int ((own_b (¬ ((p1 &&& (1 : Int32)) = (0 : Int32)))) + (2 : Int32))), (.int (own_b (¬ (w179_depth = (2 : Int32)))))])) (fun B => ∃ (j260_s0 : Int32), B = Tg186.setTop (mkF m 260 #[.val (.int p0), .val (.int p1), .val (.int p2), .val (.int p3), .val (.int p4), .val (.int (2 : Int32)), .val (.int (own_b (¬ ((p1 &&& (1 : Int32)) = (0 : Int32))))), .val (.int (own_b (¬ ((p1 &&& (1 : Int32)) = (0 : Int32))))), .val (.int v43), .val (.int v51), .val (.int (own_b (¬ ((p4 &&& (1 : Int32)) = (0 : Int32)) ∧ (¬ (v51 < (1 : Int32)))))), .val (.ref b74), .val (.ref b85), .val (.ref b111), .val (.int v43), .val (.int j156_l15), .val (.int (own_b (j156_f_b111_position = v43))), .val (.int (own_b (¬ (w160_depth = (2 : Int32))))), .val (.int (own_b (¬ (w172_depth = (2 : Int32))))), .val (.int (own_b (¬ (w179_depth = (2 : Int32)))))] [(.int j260_s0), (.int (own_b (¬ (w179_depth = (2 : Int32)))))]) ∧ j260_s0 = own_b (((own_b (¬ ((p1 &&& (1 : Int32)) = (0 : Int32)))) + (2 : Int32)) < (2 : Int32))) := by
        by_cases c252 : ((own_b (¬ ((p1 &&& (1 : Int32)) = (0 : Int32)))) + (2 : Int32)) < (2 : Int32)
        · refine own_st (B := Tg186.setTop (mkF m 260 #[.val (.int p0), .val (.int p1), .val (.int p2), .val (.int p3), .val (.int p4), .val (.int (2 : Int32)), .val (.int (own_b (¬ ((p1 &&& (1 : Int32)) = (0 : Int32))))), .val (.int (own_b (¬ ((p1 &&& (1 : Int32)) = (0 : Int32))))), .val (.int v43), .val (.int v51), .val (.int (own_b (¬ ((p4 &&& (1 : Int32)) = (0 : Int32)) ∧ (¬ (v51 < (1 : Int32)))))), .val (.ref b74), .val (.ref b85), .val (.ref b111), .val (.int v43), .val (.int j156_l15), .val (.int (own_b (j156_f_b111_position = v43))), .val (.int (own_b (¬ (w160_depth = (2 : Int32))))), .val (.int (own_b (¬ (w172_depth = (2 : Int32))))), .val (.int (own_b (¬ (w179_depth = (2 : Int32)))))] [(.int (1 : Int32)), (.int (own_b (¬ (w179_depth = (2 : Int32)))))])) (fun target kt => ?_) ?_
          · show Steps p.tables e below (Tg186.setTop (mkF m 252 #[.val (.int p0), .val (.int p1), .val (.int p2), .val (.int p3), .val (.int p4), .val (.int (2 : Int32)), .val (.int (own_b (¬ ((p1 &&& (1 : Int32)) = (0 : Int32))))), .val (.int (own_b (¬ ((p1 &&& (1 : Int32)) = (0 : Int32))))), .val (.int v43), .val (.int v51), .val (.int (own_b (¬ ((p4 &&& (1 : Int32)) = (0 : Int32)) ∧ (¬ (v51 < (1 : Int32)))))), .val (.ref b74), .val (.ref b85), .val (.ref b111), .val (.int v43), .val (.int j156_l15), .val (.int (own_b (j156_f_b111_position = v43))), .val (.int (own_b (¬ (w160_depth = (2 : Int32))))), .val (.int (own_b (¬ (w172_depth = (2 : Int32))))), .val (.int (own_b (¬ (w179_depth = (2 : Int32)))))] [(.int (2 : Int32)), (.int ((own_b (¬ ((p1 &&& (1 : Int32)) = (0 : Int32)))) + (2 : Int32))), (.int (own_b (¬ (w179_depth = (2 : Int32)))))])) target
            refine XS.icmpNo Xg186.here hx rfl (hb hby at_252) rfl (tlt c252).2.1 ?_
            show Steps p.tables e below (Tg186.setTop (mkF m 255 #[.val (.int p0), .val (.int p1), .val (.int p2), .val (.int p3), .val (.int p4), .val (.int (2 : Int32)), .val (.int (own_b (¬ ((p1 &&& (1 : Int32)) = (0 : Int32))))), .val (.int (own_b (¬ ((p1 &&& (1 : Int32)) = (0 : Int32))))), .val (.int v43), .val (.int v51), .val (.int (own_b (¬ ((p4 &&& (1 : Int32)) = (0 : Int32)) ∧ (¬ (v51 < (1 : Int32)))))), .val (.ref b74), .val (.ref b85), .val (.ref b111), .val (.int v43), .val (.int j156_l15), .val (.int (own_b (j156_f_b111_position = v43))), .val (.int (own_b (¬ (w160_depth = (2 : Int32))))), .val (.int (own_b (¬ (w172_depth = (2 : Int32))))), .val (.int (own_b (¬ (w179_depth = (2 : Int32)))))] [(.int (own_b (¬ (w179_depth = (2 : Int32)))))])) target
            refine XS.iconst Xg186.here hx rfl (hb hby at_255) ?_
            show Steps p.tables e below (Tg186.setTop (mkF m 256 #[.val (.int p0), .val (.int p1), .val (.int p2), .val (.int p3), .val (.int p4), .val (.int (2 : Int32)), .val (.int (own_b (¬ ((p1 &&& (1 : Int32)) = (0 : Int32))))), .val (.int (own_b (¬ ((p1 &&& (1 : Int32)) = (0 : Int32))))), .val (.int v43), .val (.int v51), .val (.int (own_b (¬ ((p4 &&& (1 : Int32)) = (0 : Int32)) ∧ (¬ (v51 < (1 : Int32)))))), .val (.ref b74), .val (.ref b85), .val (.ref b111), .val (.int v43), .val (.int j156_l15), .val (.int (own_b (j156_f_b111_position = v43))), .val (.int (own_b (¬ (w160_depth = (2 : Int32))))), .val (.int (own_b (¬ (w172_depth = (2 : Int32))))), .val (.int (own_b (¬ (w179_depth = (2 : Int32)))))] [(.int (1 : Int32)), (.int (own_b (¬ (w179_depth = (2 : Int32)))))])) target
            refine XS.goto Xg186.here hx rfl (pc0 := 256) (pc' := 260) rfl (hb hby at_256) (by decide) (by decide) ?_
            exact kt
          exact ⟨_, ⟨(1 : Int32), rfl, (own_b1 c252).symm⟩, fun _ k => k⟩
        · refine own_st (B := Tg186.setTop (mkF m 260 #[.val (.int p0), .val (.int p1), .val (.int p2), .val (.int p3), .val (.int p4), .val (.int (2 : Int32)), .val (.int (own_b (¬ ((p1 &&& (1 : Int32)) = (0 : Int32))))), .val (.int (own_b (¬ ((p1 &&& (1 : Int32)) = (0 : Int32))))), .val (.int v43), .val (.int v51), .val (.int (own_b (¬ ((p4 &&& (1 : Int32)) = (0 : Int32)) ∧ (¬ (v51 < (1 : Int32)))))), .val (.ref b74), .val (.ref b85), .val (.ref b111), .val (.int v43), .val (.int j156_l15), .val (.int (own_b (j156_f_b111_position = v43))), .val (.int (own_b (¬ (w160_depth = (2 : Int32))))), .val (.int (own_b (¬ (w172_depth = (2 : Int32))))), .val (.int (own_b (¬ (w179_depth = (2 : Int32)))))] [(.int (0 : Int32)), (.int (own_b (¬ (w179_depth = (2 : Int32)))))])) (fun target kt => ?_) ?_
          · show Steps p.tables e below (Tg186.setTop (mkF m 252 #[.val (.int p0), .val (.int p1), .val (.int p2), .val (.int p3), .val (.int p4), .val (.int (2 : Int32)), .val (.int (own_b (¬ ((p1 &&& (1 : Int32)) = (0 : Int32))))), .val (.int (own_b (¬ ((p1 &&& (1 : Int32)) = (0 : Int32))))), .val (.int v43), .val (.int v51), .val (.int (own_b (¬ ((p4 &&& (1 : Int32)) = (0 : Int32)) ∧ (¬ (v51 < (1 : Int32)))))), .val (.ref b74), .val (.ref b85), .val (.ref b111), .val (.int v43), .val (.int j156_l15), .val (.int (own_b (j156_f_b111_position = v43))), .val (.int (own_b (¬ (w160_depth = (2 : Int32))))), .val (.int (own_b (¬ (w172_depth = (2 : Int32))))), .val (.int (own_b (¬ (w179_depth = (2 : Int32)))))] [(.int (2 : Int32)), (.int ((own_b (¬ ((p1 &&& (1 : Int32)) = (0 : Int32)))) + (2 : Int32))), (.int (own_b (¬ (w179_depth = (2 : Int32)))))])) target
            refine XS.icmpYes Xg186.here hx rfl (pc0 := 252) (pc' := 259) rfl (hb hby at_252) rfl (flt c252).2.1 (by decide) (by decide) ?_
            show Steps p.tables e below (Tg186.setTop (mkF m 259 #[.val (.int p0), .val (.int p1), .val (.int p2), .val (.int p3), .val (.int p4), .val (.int (2 : Int32)), .val (.int (own_b (¬ ((p1 &&& (1 : Int32)) = (0 : Int32))))), .val (.int (own_b (¬ ((p1 &&& (1 : Int32)) = (0 : Int32))))), .val (.int v43), .val (.int v51), .val (.int (own_b (¬ ((p4 &&& (1 : Int32)) = (0 : Int32)) ∧ (¬ (v51 < (1 : Int32)))))), .val (.ref b74), .val (.ref b85), .val (.ref b111), .val (.int v43), .val (.int j156_l15), .val (.int (own_b (j156_f_b111_position = v43))), .val (.int (own_b (¬ (w160_depth = (2 : Int32))))), .val (.int (own_b (¬ (w172_depth = (2 : Int32))))), .val (.int (own_b (¬ (w179_depth = (2 : Int32)))))] [(.int (own_b (¬ (w179_depth = (2 : Int32)))))])) target
            refine XS.iconst Xg186.here hx rfl (hb hby at_259) ?_
            exact kt
          exact ⟨_, ⟨(0 : Int32), rfl, (own_b0 c252).symm⟩, fun _ k => k⟩
      refine own_st st_M260 ?_
      have c260 : (¬ (w179_depth = (2 : Int32))) ↔ (((own_b (¬ ((p1 &&& (1 : Int32)) = (0 : Int32)))) + (2 : Int32)) < (2 : Int32)) := by
        simp only [own_b1 c98, hw186_depth, hw179_depth, hw172_depth, hw160_depth, hw128_depth, hw103_depth]
        decide
      refine own_st (B := Tg186.setTop (mkF m 268 #[.val (.int p0), .val (.int p1), .val (.int p2), .val (.int p3), .val (.int p4), .val (.int (2 : Int32)), .val (.int (own_b (¬ ((p1 &&& (1 : Int32)) = (0 : Int32))))), .val (.int (own_b (¬ ((p1 &&& (1 : Int32)) = (0 : Int32))))), .val (.int v43), .val (.int v51), .val (.int (own_b (¬ ((p4 &&& (1 : Int32)) = (0 : Int32)) ∧ (¬ (v51 < (1 : Int32)))))), .val (.ref b74), .val (.ref b85), .val (.ref b111), .val (.int v43), .val (.int j156_l15), .val (.int (own_b (j156_f_b111_position = v43))), .val (.int (own_b (¬ (w160_depth = (2 : Int32))))), .val (.int (own_b (¬ (w172_depth = (2 : Int32))))), .val (.int (own_b (¬ (w179_depth = (2 : Int32)))))] [(.int (1 : Int32))])) (fun target kt => ?_) ?_
      · show Steps p.tables e below (Tg186.setTop (mkF m 260 #[.val (.int p0), .val (.int p1), .val (.int p2), .val (.int p3), .val (.int p4), .val (.int (2 : Int32)), .val (.int (own_b (¬ ((p1 &&& (1 : Int32)) = (0 : Int32))))), .val (.int (own_b (¬ ((p1 &&& (1 : Int32)) = (0 : Int32))))), .val (.int v43), .val (.int v51), .val (.int (own_b (¬ ((p4 &&& (1 : Int32)) = (0 : Int32)) ∧ (¬ (v51 < (1 : Int32)))))), .val (.ref b74), .val (.ref b85), .val (.ref b111), .val (.int v43), .val (.int j156_l15), .val (.int (own_b (j156_f_b111_position = v43))), .val (.int (own_b (¬ (w160_depth = (2 : Int32))))), .val (.int (own_b (¬ (w172_depth = (2 : Int32))))), .val (.int (own_b (¬ (w179_depth = (2 : Int32)))))] [(.int (own_b (((own_b (¬ ((p1 &&& (1 : Int32)) = (0 : Int32)))) + (2 : Int32)) < (2 : Int32)))), (.int (own_b (¬ (w179_depth = (2 : Int32)))))])) target
        refine XS.icmpNo Xg186.here hx rfl (hb hby at_260) rfl (teq (own_bb rfl rfl c260)).2 ?_
        show Steps p.tables e below (Tg186.setTop (mkF m 263 #[.val (.int p0), .val (.int p1), .val (.int p2), .val (.int p3), .val (.int p4), .val (.int (2 : Int32)), .val (.int (own_b (¬ ((p1 &&& (1 : Int32)) = (0 : Int32))))), .val (.int (own_b (¬ ((p1 &&& (1 : Int32)) = (0 : Int32))))), .val (.int v43), .val (.int v51), .val (.int (own_b (¬ ((p4 &&& (1 : Int32)) = (0 : Int32)) ∧ (¬ (v51 < (1 : Int32)))))), .val (.ref b74), .val (.ref b85), .val (.ref b111), .val (.int v43), .val (.int j156_l15), .val (.int (own_b (j156_f_b111_position = v43))), .val (.int (own_b (¬ (w160_depth = (2 : Int32))))), .val (.int (own_b (¬ (w172_depth = (2 : Int32))))), .val (.int (own_b (¬ (w179_depth = (2 : Int32)))))] [])) target
        refine XS.iconst Xg186.here hx rfl (hb hby at_263) ?_
        show Steps p.tables e below (Tg186.setTop (mkF m 264 #[.val (.int p0), .val (.int p1), .val (.int p2), .val (.int p3), .val (.int p4), .val (.int (2 : Int32)), .val (.int (own_b (¬ ((p1 &&& (1 : Int32)) = (0 : Int32))))), .val (.int (own_b (¬ ((p1 &&& (1 : Int32)) = (0 : Int32))))), .val (.int v43), .val (.int v51), .val (.int (own_b (¬ ((p4 &&& (1 : Int32)) = (0 : Int32)) ∧ (¬ (v51 < (1 : Int32)))))), .val (.ref b74), .val (.ref b85), .val (.ref b111), .val (.int v43), .val (.int j156_l15), .val (.int (own_b (j156_f_b111_position = v43))), .val (.int (own_b (¬ (w160_depth = (2 : Int32))))), .val (.int (own_b (¬ (w172_depth = (2 : Int32))))), .val (.int (own_b (¬ (w179_depth = (2 : Int32)))))] [(.int (1 : Int32))])) target
        refine XS.goto Xg186.here hx rfl (pc0 := 264) (pc' := 268) rfl (hb hby at_264) (by decide) (by decide) ?_
        exact kt
      obtain ⟨fs, hr, hrun, hended, hW, hsame⟩ := Xg186.leave (v := some (.int (1 : Int32))) (fun h => by rw [Bd.returns] at h; cases h)
      have hend : Steps p.tables e below (Tg186.setTop (mkF m 268 #[.val (.int p0), .val (.int p1), .val (.int p2), .val (.int p3), .val (.int p4), .val (.int (2 : Int32)), .val (.int (own_b (¬ ((p1 &&& (1 : Int32)) = (0 : Int32))))), .val (.int (own_b (¬ ((p1 &&& (1 : Int32)) = (0 : Int32))))), .val (.int v43), .val (.int v51), .val (.int (own_b (¬ ((p4 &&& (1 : Int32)) = (0 : Int32)) ∧ (¬ (v51 < (1 : Int32)))))), .val (.ref b74), .val (.ref b85), .val (.ref b111), .val (.int v43), .val (.int j156_l15), .val (.int (own_b (j156_f_b111_position = v43))), .val (.int (own_b (¬ (w160_depth = (2 : Int32))))), .val (.int (own_b (¬ (w172_depth = (2 : Int32))))), .val (.int (own_b (¬ (w179_depth = (2 : Int32)))))] [(.int (1 : Int32))])) (Tg186.setFrames fs) := by
        exact retN Xg186 hx (t := .boolean) Bd.returns (by simp) (hb hby at_268) hr
      refine own_fin hend ⟨_, hrun, hended, _, _, rfl, ?_, ⟨_, rfl⟩, hW, hsame.mono (by decide) (by decide)⟩
      show own_Q0 Z p0 p1 p2 p3 p4 h0 n0 _ Tg186.heap _
      exact ⟨rfl, Ng186⟩
    · refine own_st (B := Tg91.setTop (mkF m 111 #[.val (.int p0), .val (.int p1), .val (.int p2), .val (.int p3), .val (.int p4), .val (.int (2 : Int32)), .val (.int (own_b (¬ ((p1 &&& (1 : Int32)) = (0 : Int32))))), .val (.int (own_b (¬ ((p1 &&& (1 : Int32)) = (0 : Int32))))), .val (.int v43), .val (.int v51), .val (.int (own_b (¬ ((p4 &&& (1 : Int32)) = (0 : Int32)) ∧ (¬ (v51 < (1 : Int32)))))), .val (.ref b74), .val (.ref b85), .unset, .unset, .unset, .unset, .unset, .unset, .unset] [])) (fun target kt => ?_) ?_
      · show Steps p.tables e below (Tg91.setTop (mkF m 98 #[.val (.int p0), .val (.int p1), .val (.int p2), .val (.int p3), .val (.int p4), .val (.int (2 : Int32)), .val (.int (own_b (¬ ((p1 &&& (1 : Int32)) = (0 : Int32))))), .val (.int (own_b (¬ ((p1 &&& (1 : Int32)) = (0 : Int32))))), .val (.int v43), .val (.int v51), .val (.int (own_b (¬ ((p4 &&& (1 : Int32)) = (0 : Int32)) ∧ (¬ (v51 < (1 : Int32)))))), .val (.ref b74), .val (.ref b85), .unset, .unset, .unset, .unset, .unset, .unset, .unset] [(.int (own_b (¬ ((p1 &&& (1 : Int32)) = (0 : Int32)))))])) target
        refine XS.ifYes Xg91.here hx rfl (pc0 := 98) (pc' := 111) rfl (hb hby at_98) rfl ((if0 _ _).trans (teq (own_b00 rfl c98)).1) (by decide) (by decide) ?_
        exact kt
      obtain ⟨Tg111, hg111, Xg111, eg111, Eg111, Ag111, Dg111, -, stg111⟩ := newO Xg91 hx hZ hown (hw _ (List.mem_of_getElem? (i := 12) rfl)) (hw _ (List.mem_of_getElem? (i := 13) rfl)) (hw _ (List.mem_of_getElem? (i := 14) rfl)) rfl (g := (mkF m 111 #[.val (.int p0), .val (.int p1), .val (.int p2), .val (.int p3), .val (.int p4), .val (.int (2 : Int32)), .val (.int (own_b (¬ ((p1 &&& (1 : Int32)) = (0 : Int32))))), .val (.int (own_b (¬ ((p1 &&& (1 : Int32)) = (0 : Int32))))), .val (.int v43), .val (.int v51), .val (.int (own_b (¬ ((p4 &&& (1 : Int32)) = (0 : Int32)) ∧ (¬ (v51 < (1 : Int32)))))), .val (.ref b74), .val (.ref b85), .unset, .unset, .unset, .unset, .unset, .unset, .unset] [])) rfl (hb hby at_111) (by decide) (by decide)
      obtain ⟨b111, gg111⟩ : ∃ z, z = Tg91.heap.size := ⟨_, rfl⟩
      rw [← gg111] at Ag111 Dg111 stg111
      refine own_st stg111 ?_
      have ne_b74_b111 : b74 ≠ b111 := Nat.ne_of_lt (Nat.lt_of_lt_of_le F_9.lt (Nat.le_of_eq gg111.symm))
      have ne_b85_b111 : b85 ≠ b111 := Nat.ne_of_lt (Nat.lt_of_lt_of_le F_6.lt (Nat.le_of_eq gg111.symm))
      have g_b111 : n0 ≤ b111 := Nat.le_trans Zz_3 (Nat.le_of_eq gg111.symm)
      have F_10 := F_9.ext Eg111
      have F_11 := F_6.ext Eg111
      have F_12 := F_7.ext Eg111
      have F_13 := F_8.ext Eg111
      have Zz_4 : n0 ≤ hg111.size := Nat.le_trans Zz_3 Eg111.1
      have F_14 : Fld Z hg111 b111 "com/example/wireform/wireform/wire/WireReader" "bytes" "[B" .null := Dg111 (Or.inr (hw _ (List.mem_of_getElem? (i := 20) rfl))) (ty := (.array .byte)) (by decide)
      have F_15 : Fld Z hg111 b111 "com/example/wireform/wireform/wire/WireReader" "end" "I" (.int (0 : Int32)) := Dg111 (Or.inr (hw _ (List.mem_of_getElem? (i := 22) rfl))) (ty := .int) (by decide)
      have F_16 : Fld Z hg111 b111 "com/example/wireform/wireform/wire/WireReader" "nesting" "Lcom/example/wireform/wireform/wire/Nesting;" .null := Dg111 (Or.inr (hw _ (List.mem_of_getElem? (i := 24) rfl))) (ty := (.object "com/example/wireform/wireform/wire/Nesting")) (by decide)
      have F_17 : Fld Z hg111 b111 "com/example/wireform/wireform/wire/WireReader" "limit" "I" (.int (0 : Int32)) := Dg111 (Or.inl (hw _ (List.mem_of_getElem? (i := 26) rfl))) (ty := .int) (by decide)
      have F_18 : Fld Z hg111 b111 "com/example/wireform/wireform/wire/WireReader" "position" "I" (.int (0 : Int32)) := Dg111 (Or.inl (hw _ (List.mem_of_getElem? (i := 49) rfl))) (ty := .int) (by decide)
      refine own_st (B := Tg111.setTop (mkF m 121 #[.val (.int p0), .val (.int p1), .val (.int p2), .val (.int p3), .val (.int p4), .val (.int (2 : Int32)), .val (.int (own_b (¬ ((p1 &&& (1 : Int32)) = (0 : Int32))))), .val (.int (own_b (¬ ((p1 &&& (1 : Int32)) = (0 : Int32))))), .val (.int v43), .val (.int v51), .val (.int (own_b (¬ ((p4 &&& (1 : Int32)) = (0 : Int32)) ∧ (¬ (v51 < (1 : Int32)))))), .val (.ref b74), .val (.ref b85), .unset, .unset, .unset, .unset, .unset, .unset, .unset] [(.ref b85), (.int v43), (.ref b74), (.ref b111), (.ref b111)])) (fun target kt => ?_) ?_
      · show Steps p.tables e below (Tg111.setTop (mkF m 114 #[.val (.int p0), .val (.int p1), .val (.int p2), .val (.int p3), .val (.int p4), .val (.int (2 : Int32)), .val (.int (own_b (¬ ((p1 &&& (1 : Int32)) = (0 : Int32))))), .val (.int (own_b (¬ ((p1 &&& (1 : Int32)) = (0 : Int32))))), .val (.int v43), .val (.int v51), .val (.int (own_b (¬ ((p4 &&& (1 : Int32)) = (0 : Int32)) ∧ (¬ (v51 < (1 : Int32)))))), .val (.ref b74), .val (.ref b85), .unset, .unset, .unset, .unset, .unset, .unset, .unset] [(.ref b111)])) target
        refine XS.dup Xg111.here hx rfl (hb hby at_114) rfl rfl ?_
        show Steps p.tables e below (Tg111.setTop (mkF m 115 #[.val (.int p0), .val (.int p1), .val (.int p2), .val (.int p3), .val (.int p4), .val (.int (2 : Int32)), .val (.int (own_b (¬ ((p1 &&& (1 : Int32)) = (0 : Int32))))), .val (.int (own_b (¬ ((p1 &&& (1 : Int32)) = (0 : Int32))))), .val (.int v43), .val (.int v51), .val (.int (own_b (¬ ((p4 &&& (1 : Int32)) = (0 : Int32)) ∧ (¬ (v51 < (1 : Int32)))))), .val (.ref b74), .val (.ref b85), .unset, .unset, .unset, .unset, .unset, .unset, .unset] [(.ref b111), (.ref b111)])) target
        refine XS.aload Xg111.here hx rfl (hb hby at_115) rfl rfl ?_
        show Steps p.tables e below (Tg111.setTop (mkF m 117 #[.val (.int p0), .val (.int p1), .val (.int p2), .val (.int p3), .val (.int p4), .val (.int (2 : Int32)), .val (.int (own_b (¬ ((p1 &&& (1 : Int32)) = (0 : Int32))))), .val (.int (own_b (¬ ((p1 &&& (1 : Int32)) = (0 : Int32))))), .val (.int v43), .val (.int v51), .val (.int (own_b (¬ ((p4 &&& (1 : Int32)) = (0 : Int32)) ∧ (¬ (v51 < (1 : Int32)))))), .val (.ref b74), .val (.ref b85), .unset, .unset, .unset, .unset, .unset, .unset, .unset] [(.ref b74), (.ref b111), (.ref b111)])) target
        refine XS.iload Xg111.here hx rfl (hb hby at_117) rfl ?_
        show Steps p.tables e below (Tg111.setTop (mkF m 119 #[.val (.int p0), .val (.int p1), .val (.int p2), .val (.int p3), .val (.int p4), .val (.int (2 : Int32)), .val (.int (own_b (¬ ((p1 &&& (1 : Int32)) = (0 : Int32))))), .val (.int (own_b (¬ ((p1 &&& (1 : Int32)) = (0 : Int32))))), .val (.int v43), .val (.int v51), .val (.int (own_b (¬ ((p4 &&& (1 : Int32)) = (0 : Int32)) ∧ (¬ (v51 < (1 : Int32)))))), .val (.ref b74), .val (.ref b85), .unset, .unset, .unset, .unset, .unset, .unset, .unset] [(.int v43), (.ref b74), (.ref b111), (.ref b111)])) target
        refine XS.aload Xg111.here hx rfl (hb hby at_119) rfl rfl ?_
        exact kt
      obtain ⟨_, _, ⟨Tg121, Lg121, kg121, ng121⟩, -, Xg121, ⟨Lcg121, hQg121, lg121, yg121, zg121⟩, stg121⟩ := Xg111.specialBack hx (y := (⟨"com/example/wireform/wireform/wire/WireReader", "<init>", "([BILcom/example/wireform/wireform/wire/Nesting;)V"⟩ : MethodName)) rfl hown (mvT hZ (hw _ (List.mem_of_getElem? (i := 15) rfl))) (mvT hZ (hw _ (List.mem_of_getElem? (i := 16) rfl))) (mvT hZ (hw _ (List.mem_of_getElem? (i := 17) rfl))) (by decide) (backOf (W := 1) (own_rm3 l Z a0 hw [] b111 b74 v43 b85 hg111 n0 Zz_4 Ag111 F_14 F_15 F_16 F_17 F_18 g_b111) hZ (hw _ (List.mem_of_getElem? (i := 17) rfl)) (hw _ (List.mem_of_getElem? (i := 14) rfl)) (by decide) (by decide)) (g := (mkF m 121 #[.val (.int p0), .val (.int p1), .val (.int p2), .val (.int p3), .val (.int p4), .val (.int (2 : Int32)), .val (.int (own_b (¬ ((p1 &&& (1 : Int32)) = (0 : Int32))))), .val (.int (own_b (¬ ((p1 &&& (1 : Int32)) = (0 : Int32))))), .val (.int v43), .val (.int v51), .val (.int (own_b (¬ ((p4 &&& (1 : Int32)) = (0 : Int32)) ∧ (¬ (v51 < (1 : Int32)))))), .val (.ref b74), .val (.ref b85), .unset, .unset, .unset, .unset, .unset, .unset, .unset] [(.ref b85), (.int v43), (.ref b74), (.ref b111), (.ref b111)])) rfl (by rw [hml]; rfl) (Steps.refl _) (a := b111) (argsL := [(.ref b74), (.int v43), (.ref b85)]) (rest := [(.ref b111)]) (lenOf own_pd6 rfl) rfl (by show 2 * 0 + _ ≤ _; exact Nat.le_of_eq rfl) (hb hby at_121) (fun _ _ => ⟨rfl, eg111, (by decide : 3 + 0 ≤ _), (by decide : 11 + 0 ≤ _)⟩)
      dsimp only [Pt.U, Pt.locs, Pt.cells, Pt.slots] at Xg121 lg121 yg121 zg121 stg121 hQg121
      subst lg121 yg121 zg121
      obtain ⟨rfl, Ng121q, Kg121, F_19, F_20, F_21, F_22, F_23, F_24⟩ := hQg121
      have F_25 := F_10.keep Kg121 (ninS ne_b74_b111 nin0)
      have F_26 := F_11.keep Kg121
      have F_27 := F_12.keep Kg121 (ninS ne_b85_b111 nin0)
      have F_28 := F_13.keep Kg121 (ninS ne_b85_b111 nin0)
      have Zz_5 : n0 ≤ Tg121.heap.size := Nat.le_trans Zz_4 Kg121.1
      have Ng121 := Fr.app Ng91 Ng121q
      refine own_st (fun _ k => stg121.trans k) ?_
      refine own_st (B := Tg121.setTop (mkF m 128 #[.val (.int p0), .val (.int p1), .val (.int p2), .val (.int p3), .val (.int p4), .val (.int (2 : Int32)), .val (.int (own_b (¬ ((p1 &&& (1 : Int32)) = (0 : Int32))))), .val (.int (own_b (¬ ((p1 &&& (1 : Int32)) = (0 : Int32))))), .val (.int v43), .val (.int v51), .val (.int (own_b (¬ ((p4 &&& (1 : Int32)) = (0 : Int32)) ∧ (¬ (v51 < (1 : Int32)))))), .val (.ref b74), .val (.ref b85), .val (.ref b111), .unset, .unset, .unset, .unset, .unset, .unset] [(.ref b111)])) (fun target kt => ?_) ?_
      · show Steps p.tables e below (Tg121.setTop (mkF m 124 #[.val (.int p0), .val (.int p1), .val (.int p2), .val (.int p3), .val (.int p4), .val (.int (2 : Int32)), .val (.int (own_b (¬ ((p1 &&& (1 : Int32)) = (0 : Int32))))), .val (.int (own_b (¬ ((p1 &&& (1 : Int32)) = (0 : Int32))))), .val (.int v43), .val (.int v51), .val (.int (own_b (¬ ((p4 &&& (1 : Int32)) = (0 : Int32)) ∧ (¬ (v51 < (1 : Int32)))))), .val (.ref b74), .val (.ref b85), .unset, .unset, .unset, .unset, .unset, .unset, .unset] [(.ref b111)])) target
        refine XS.astore Xg121.here hx rfl (hb hby at_124) rfl rfl (l' := #[.val (.int p0), .val (.int p1), .val (.int p2), .val (.int p3), .val (.int p4), .val (.int (2 : Int32)), .val (.int (own_b (¬ ((p1 &&& (1 : Int32)) = (0 : Int32))))), .val (.int (own_b (¬ ((p1 &&& (1 : Int32)) = (0 : Int32))))), .val (.int v43), .val (.int v51), .val (.int (own_b (¬ ((p4 &&& (1 : Int32)) = (0 : Int32)) ∧ (¬ (v51 < (1 : Int32)))))), .val (.ref b74), .val (.ref b85), .val (.ref b111), .unset, .unset, .unset, .unset, .unset, .unset]) rfl ?_
        show Steps p.tables e below (Tg121.setTop (mkF m 126 #[.val (.int p0), .val (.int p1), .val (.int p2), .val (.int p3), .val (.int p4), .val (.int (2 : Int32)), .val (.int (own_b (¬ ((p1 &&& (1 : Int32)) = (0 : Int32))))), .val (.int (own_b (¬ ((p1 &&& (1 : Int32)) = (0 : Int32))))), .val (.int v43), .val (.int v51), .val (.int (own_b (¬ ((p4 &&& (1 : Int32)) = (0 : Int32)) ∧ (¬ (v51 < (1 : Int32)))))), .val (.ref b74), .val (.ref b85), .val (.ref b111), .unset, .unset, .unset, .unset, .unset, .unset] [])) target
        refine XS.aload Xg121.here hx rfl (hb hby at_126) rfl rfl ?_
        exact kt
      obtain ⟨cqg128, kqg128, qg128a, qg128b, qg128c⟩ := isOf hZ rfl F_19
      obtain ⟨_, _, ⟨Tg128, Lg128, kg128, ng128⟩, -, Xg128, ⟨Lcg128, hQg128, lg128, yg128, zg128⟩, stg128⟩ := Xg121.virtualBack hx (y := (⟨"com/example/wireform/wireform/wire/WireReader", "beginMessage", "()I"⟩ : MethodName)) (z := (⟨"com/example/wireform/wireform/wire/WireReader", "beginMessage", "()I"⟩ : MethodName)) hown (mvT hZ (hw _ (List.mem_of_getElem? (i := 27) rfl))) (mvT hZ (hw _ (List.mem_of_getElem? (i := 28) rfl))) (notFace_of_selects (args := #[]) (mvT hZ (hw _ (List.mem_of_getElem? (i := 30) rfl)))) (mvT hZ (hw _ (List.mem_of_getElem? (i := 30) rfl))) (mvT hZ (hw _ (List.mem_of_getElem? (i := 29) rfl))) (by decide) (backOf (W := 0) (own_rm4 l Z a0 hw [] b111 b74 v43 b85 v43 (0 : Int32) (2 : Int32) (0 : Int32) a84 Tg121.heap n0 Zz_5 F_19 F_20 F_21 F_22 F_23 F_24 F_26 F_27 F_28 F_25 g_b111 g_b85 (Ne.symm ne_b74_b111) (Ne.symm ne_b85_b111) (Ne.symm ne_b74_b85) (show own_V (0 : Int32) v43 (a84 (0 : Int32).toNatClampNeg) 4 from hV0) (show ¬ ((0 : Int32) = (2 : Int32)) from by decide)) hZ (hw _ (List.mem_of_getElem? (i := 31) rfl)) (hw _ (List.mem_of_getElem? (i := 14) rfl)) (by decide) (by decide)) qg128a qg128c (g := (mkF m 128 #[.val (.int p0), .val (.int p1), .val (.int p2), .val (.int p3), .val (.int p4), .val (.int (2 : Int32)), .val (.int (own_b (¬ ((p1 &&& (1 : Int32)) = (0 : Int32))))), .val (.int (own_b (¬ ((p1 &&& (1 : Int32)) = (0 : Int32))))), .val (.int v43), .val (.int v51), .val (.int (own_b (¬ ((p4 &&& (1 : Int32)) = (0 : Int32)) ∧ (¬ (v51 < (1 : Int32)))))), .val (.ref b74), .val (.ref b85), .val (.ref b111), .unset, .unset, .unset, .unset, .unset, .unset] [(.ref b111)])) rfl (by rw [hml]; rfl) (Steps.refl _) (argsL := []) (rest := []) (lenOf own_pd2 rfl) rfl (by show 2 * 0 + _ ≤ _; exact Nat.le_of_eq rfl) (hb hby at_128) (fun _ _ => ⟨rfl, rfl, (by decide : 3 + 0 ≤ _), (by decide : 11 + 0 ≤ _)⟩)
      dsimp only [Pt.U, Pt.locs, Pt.cells, Pt.slots] at Xg128 lg128 yg128 zg128 stg128 hQg128
      subst lg128 yg128 zg128
      obtain ⟨rfl, Ng128q, Kg128, F_29, F_30, F_31, F_32, F_33, F_34, F_35, F_36, F_37⟩ := hQg128
      have F_38 := F_25.keep Kg128 (ninS ne_b74_b111 (ninS ne_b74_b85 nin0))
      have Zz_6 : n0 ≤ Tg128.heap.size := Nat.le_trans Zz_5 Kg128.1
      obtain ⟨w128_limit, hw128_limit⟩ : ∃ z : Int32, z = ((((0 : Int32) + (1 : Int32))) + (a84 (0 : Int32).toNatClampNeg)) := ⟨_, rfl⟩
      have F_39 : Fld Z Tg128.heap b111 "com/example/wireform/wireform/wire/WireReader" "limit" "I" (.int w128_limit) := by subst hw128_limit; exact F_33
      obtain ⟨w128_position, hw128_position⟩ : ∃ z : Int32, z = ((0 : Int32) + (1 : Int32)) := ⟨_, rfl⟩
      have F_40 : Fld Z Tg128.heap b111 "com/example/wireform/wireform/wire/WireReader" "position" "I" (.int w128_position) := by subst hw128_position; exact F_34
      obtain ⟨w128_depth, hw128_depth⟩ : ∃ z : Int32, z = (if (0 : Int32) = (2 : Int32) then (0 : Int32) else ((0 : Int32) + (1 : Int32))) := ⟨_, rfl⟩
      have F_41 : Fld Z Tg128.heap b85 "com/example/wireform/wireform/wire/Nesting" "depth" "I" (.int w128_depth) := by subst hw128_depth; exact F_37
      have Ng128 := Fr.app Ng121 Ng128q
      refine own_st (fun _ k => stg128.trans k) ?_
      refine own_st (B := Tg128.setTop (mkF m 138 #[.val (.int p0), .val (.int p1), .val (.int p2), .val (.int p3), .val (.int p4), .val (.int (2 : Int32)), .val (.int (own_b (¬ ((p1 &&& (1 : Int32)) = (0 : Int32))))), .val (.int (own_b (¬ ((p1 &&& (1 : Int32)) = (0 : Int32))))), .val (.int v43), .val (.int v51), .val (.int (own_b (¬ ((p4 &&& (1 : Int32)) = (0 : Int32)) ∧ (¬ (v51 < (1 : Int32)))))), .val (.ref b74), .val (.ref b85), .val (.ref b111), .val (.int v43), .val (.int (1 : Int32)), .unset, .unset, .unset, .unset] [(.int (own_b (¬ ((p4 &&& (1 : Int32)) = (0 : Int32)) ∧ (¬ (v51 < (1 : Int32))))))])) (fun target kt => ?_) ?_
      · show Steps p.tables e below (Tg128.setTop (mkF m 131 #[.val (.int p0), .val (.int p1), .val (.int p2), .val (.int p3), .val (.int p4), .val (.int (2 : Int32)), .val (.int (own_b (¬ ((p1 &&& (1 : Int32)) = (0 : Int32))))), .val (.int (own_b (¬ ((p1 &&& (1 : Int32)) = (0 : Int32))))), .val (.int v43), .val (.int v51), .val (.int (own_b (¬ ((p4 &&& (1 : Int32)) = (0 : Int32)) ∧ (¬ (v51 < (1 : Int32)))))), .val (.ref b74), .val (.ref b85), .val (.ref b111), .unset, .unset, .unset, .unset, .unset, .unset] [(.int v43)])) target
        refine XS.istore Xg128.here hx rfl (hb hby at_131) rfl (l' := #[.val (.int p0), .val (.int p1), .val (.int p2), .val (.int p3), .val (.int p4), .val (.int (2 : Int32)), .val (.int (own_b (¬ ((p1 &&& (1 : Int32)) = (0 : Int32))))), .val (.int (own_b (¬ ((p1 &&& (1 : Int32)) = (0 : Int32))))), .val (.int v43), .val (.int v51), .val (.int (own_b (¬ ((p4 &&& (1 : Int32)) = (0 : Int32)) ∧ (¬ (v51 < (1 : Int32)))))), .val (.ref b74), .val (.ref b85), .val (.ref b111), .val (.int v43), .unset, .unset, .unset, .unset, .unset]) rfl ?_
        show Steps p.tables e below (Tg128.setTop (mkF m 133 #[.val (.int p0), .val (.int p1), .val (.int p2), .val (.int p3), .val (.int p4), .val (.int (2 : Int32)), .val (.int (own_b (¬ ((p1 &&& (1 : Int32)) = (0 : Int32))))), .val (.int (own_b (¬ ((p1 &&& (1 : Int32)) = (0 : Int32))))), .val (.int v43), .val (.int v51), .val (.int (own_b (¬ ((p4 &&& (1 : Int32)) = (0 : Int32)) ∧ (¬ (v51 < (1 : Int32)))))), .val (.ref b74), .val (.ref b85), .val (.ref b111), .val (.int v43), .unset, .unset, .unset, .unset, .unset] [])) target
        refine XS.iconst Xg128.here hx rfl (hb hby at_133) ?_
        show Steps p.tables e below (Tg128.setTop (mkF m 134 #[.val (.int p0), .val (.int p1), .val (.int p2), .val (.int p3), .val (.int p4), .val (.int (2 : Int32)), .val (.int (own_b (¬ ((p1 &&& (1 : Int32)) = (0 : Int32))))), .val (.int (own_b (¬ ((p1 &&& (1 : Int32)) = (0 : Int32))))), .val (.int v43), .val (.int v51), .val (.int (own_b (¬ ((p4 &&& (1 : Int32)) = (0 : Int32)) ∧ (¬ (v51 < (1 : Int32)))))), .val (.ref b74), .val (.ref b85), .val (.ref b111), .val (.int v43), .unset, .unset, .unset, .unset, .unset] [(.int (1 : Int32))])) target
        refine XS.istore Xg128.here hx rfl (hb hby at_134) rfl (l' := #[.val (.int p0), .val (.int p1), .val (.int p2), .val (.int p3), .val (.int p4), .val (.int (2 : Int32)), .val (.int (own_b (¬ ((p1 &&& (1 : Int32)) = (0 : Int32))))), .val (.int (own_b (¬ ((p1 &&& (1 : Int32)) = (0 : Int32))))), .val (.int v43), .val (.int v51), .val (.int (own_b (¬ ((p4 &&& (1 : Int32)) = (0 : Int32)) ∧ (¬ (v51 < (1 : Int32)))))), .val (.ref b74), .val (.ref b85), .val (.ref b111), .val (.int v43), .val (.int (1 : Int32)), .unset, .unset, .unset, .unset]) rfl ?_
        show Steps p.tables e below (Tg128.setTop (mkF m 136 #[.val (.int p0), .val (.int p1), .val (.int p2), .val (.int p3), .val (.int p4), .val (.int (2 : Int32)), .val (.int (own_b (¬ ((p1 &&& (1 : Int32)) = (0 : Int32))))), .val (.int (own_b (¬ ((p1 &&& (1 : Int32)) = (0 : Int32))))), .val (.int v43), .val (.int v51), .val (.int (own_b (¬ ((p4 &&& (1 : Int32)) = (0 : Int32)) ∧ (¬ (v51 < (1 : Int32)))))), .val (.ref b74), .val (.ref b85), .val (.ref b111), .val (.int v43), .val (.int (1 : Int32)), .unset, .unset, .unset, .unset] [])) target
        refine XS.iload Xg128.here hx rfl (hb hby at_136) rfl ?_
        exact kt
      obtain ⟨_, ⟨T_M156, h_M156, lc_M156, j156_l15, j156_f_b111_position, rfl, X_M156, e_M156, N_M156, Z_M156, F_53, F_54, F_55, F_56, F_57, F_58, F_59, F_60, F_61, F_62, hj156_l15, hj156_f_b111_position⟩, st_M156⟩ : own_Lead p.tables e below (Tg128.setTop (mkF m 138 #[.val (.int p0), .val (.int p1), .val (.int p2), .val (.int p3), .val (.int p4), .val (.int (2 : Int32)), .val (.int (own_b (¬ ((p1 &&& (1 : Int32)) = (0 : Int32))))), .val (.int (own_b (¬ ((p1 &&& (1 : Int32)) = (0 : Int32))))), .val (.int v43), .val (.int v51), .val (.int (own_b (¬ ((p4 &&& (1 : Int32)) = (0 : Int32)) ∧ (¬ (v51 < (1 : Int32)))))), .val (.ref b74), .val (.ref b85), .val (.ref b111), .val (.int v43), .val (.int (1 : Int32)), .unset, .unset, .unset, .unset] [(.int (own_b (¬ ((p4 &&& (1 : Int32)) = (0 : Int32)) ∧ (¬ (v51 < (1 : Int32))))))])) (fun B => ∃ (T_M156 : State) (h_M156 : Heap) (lc_M156 : List Loc) (j156_l15 : Int32) (j156_f_b111_position : Int32), B = T_M156.setTop (mkF m 156 #[.val (.int p0), .val (.int p1), .val (.int p2), .val (.int p3), .val (.int p4), .val (.int (2 : Int32)), .val (.int (own_b (¬ ((p1 &&& (1 : Int32)) = (0 : Int32))))), .val (.int (own_b (¬ ((p1 &&& (1 : Int32)) = (0 : Int32))))), .val (.int v43), .val (.int v51), .val (.int (own_b (¬ ((p4 &&& (1 : Int32)) = (0 : Int32)) ∧ (¬ (v51 < (1 : Int32)))))), .val (.ref b74), .val (.ref b85), .val (.ref b111), .val (.int v43), .val (.int j156_l15), .unset, .unset, .unset, .unset] []) ∧ Stand p l e room_1 s m #[(.int p0), (.int p1), (.int p2), (.int p3), (.int p4)] below meth c T_M156 lc_M156 3 11 ∧ T_M156.heap = h_M156 ∧ Fr n0 lc_M156 ∧ n0 ≤ h_M156.size ∧ own_RayB Z h_M156 b74 4 a84 ∧ Exa Z h_M156 b85 "com/example/wireform/wireform/wire/Nesting" ∧ Fld Z h_M156 b85 "com/example/wireform/wireform/wire/Nesting" "limit" "I" (.int (2 : Int32)) ∧ Fld Z h_M156 b85 "com/example/wireform/wireform/wire/Nesting" "depth" "I" (.int w128_depth) ∧ Exa Z h_M156 b111 "com/example/wireform/wireform/wire/WireReader" ∧ Fld Z h_M156 b111 "com/example/wireform/wireform/wire/WireReader" "bytes" "[B" (.ref b74) ∧ Fld Z h_M156 b111 "com/example/wireform/wireform/wire/WireReader" "end" "I" (.int v43) ∧ Fld Z h_M156 b111 "com/example/wireform/wireform/wire/WireReader" "nesting" "Lcom/example/wireform/wireform/wire/Nesting;" (.ref b85) ∧ Fld Z h_M156 b111 "com/example/wireform/wireform/wire/WireReader" "limit" "I" (.int w128_limit) ∧ Fld Z h_M156 b111 "com/example/wireform/wireform/wire/WireReader" "position" "I" (.int j156_f_b111_position) ∧ j156_l15 = (if ¬ ((p4 &&& (1 : Int32)) = (0 : Int32)) ∧ (¬ (v51 < (1 : Int32))) then (2 : Int32) else (1 : Int32)) ∧ j156_f_b111_position = (if ¬ ((p4 &&& (1 : Int32)) = (0 : Int32)) ∧ (¬ (v51 < (1 : Int32))) then ((w128_position + (1 : Int32))) else w128_position)) := by
        by_cases c138 : ¬ ((p4 &&& (1 : Int32)) = (0 : Int32)) ∧ (¬ (v51 < (1 : Int32)))
        · refine own_st (B := Tg128.setTop (mkF m 143 #[.val (.int p0), .val (.int p1), .val (.int p2), .val (.int p3), .val (.int p4), .val (.int (2 : Int32)), .val (.int (own_b (¬ ((p1 &&& (1 : Int32)) = (0 : Int32))))), .val (.int (own_b (¬ ((p1 &&& (1 : Int32)) = (0 : Int32))))), .val (.int v43), .val (.int v51), .val (.int (own_b (¬ ((p4 &&& (1 : Int32)) = (0 : Int32)) ∧ (¬ (v51 < (1 : Int32)))))), .val (.ref b74), .val (.ref b85), .val (.ref b111), .val (.int v43), .val (.int (1 : Int32)), .unset, .unset, .unset, .unset] [(.ref b111)])) (fun target kt => ?_) ?_
          · show Steps p.tables e below (Tg128.setTop (mkF m 138 #[.val (.int p0), .val (.int p1), .val (.int p2), .val (.int p3), .val (.int p4), .val (.int (2 : Int32)), .val (.int (own_b (¬ ((p1 &&& (1 : Int32)) = (0 : Int32))))), .val (.int (own_b (¬ ((p1 &&& (1 : Int32)) = (0 : Int32))))), .val (.int v43), .val (.int v51), .val (.int (own_b (¬ ((p4 &&& (1 : Int32)) = (0 : Int32)) ∧ (¬ (v51 < (1 : Int32)))))), .val (.ref b74), .val (.ref b85), .val (.ref b111), .val (.int v43), .val (.int (1 : Int32)), .unset, .unset, .unset, .unset] [(.int (own_b (¬ ((p4 &&& (1 : Int32)) = (0 : Int32)) ∧ (¬ (v51 < (1 : Int32))))))])) target
            refine XS.ifNo Xg128.here hx rfl (hb hby at_138) rfl ((if0 _ _).trans (feq (own_bn0 rfl c138)).1) ?_
            show Steps p.tables e below (Tg128.setTop (mkF m 141 #[.val (.int p0), .val (.int p1), .val (.int p2), .val (.int p3), .val (.int p4), .val (.int (2 : Int32)), .val (.int (own_b (¬ ((p1 &&& (1 : Int32)) = (0 : Int32))))), .val (.int (own_b (¬ ((p1 &&& (1 : Int32)) = (0 : Int32))))), .val (.int v43), .val (.int v51), .val (.int (own_b (¬ ((p4 &&& (1 : Int32)) = (0 : Int32)) ∧ (¬ (v51 < (1 : Int32)))))), .val (.ref b74), .val (.ref b85), .val (.ref b111), .val (.int v43), .val (.int (1 : Int32)), .unset, .unset, .unset, .unset] [])) target
            refine XS.aload Xg128.here hx rfl (hb hby at_141) rfl rfl ?_
            exact kt
          obtain ⟨cqg143, kqg143, qg143a, qg143b, qg143c⟩ := isOf hZ rfl F_29
          obtain ⟨_, _, ⟨Tg143, Lg143, kg143, ng143⟩, -, Xg143, ⟨Lcg143, hQg143, lg143, yg143, zg143⟩, stg143⟩ := Xg128.virtualBack hx (y := (⟨"com/example/wireform/wireform/wire/WireReader", "readVarint", "()J"⟩ : MethodName)) (z := (⟨"com/example/wireform/wireform/wire/WireReader", "readVarint", "()J"⟩ : MethodName)) hown (mvT hZ (hw _ (List.mem_of_getElem? (i := 84) rfl))) (mvT hZ (hw _ (List.mem_of_getElem? (i := 51) rfl))) (notFace_of_selects (args := #[]) (mvT hZ (hw _ (List.mem_of_getElem? (i := 53) rfl)))) (mvT hZ (hw _ (List.mem_of_getElem? (i := 53) rfl))) (mvT hZ (hw _ (List.mem_of_getElem? (i := 52) rfl))) (by decide) (backOf (W := 0) (own_rm8 l Z a0 hw [] b111 b74 v43 b85 w128_limit w128_position a84 Tg128.heap n0 Zz_6 F_29 F_30 F_31 F_32 F_39 F_40 F_38 g_b111 (Ne.symm ne_b74_b111) (show own_V w128_position w128_limit (a84 (w128_position).toNatClampNeg) 4 from (by have hp : w128_position = 1 := by { rw [hw128_position]; decide }; have hl : w128_limit = (1 : Int32) + v51 := by { rw [hw128_limit, hA0]; rfl }; have hx : a84 (w128_position).toNatClampNeg = 0 := by { rw [hp, ha84]; first | rfl | decide | simp }; rw [hx, hp, hl]; exact own_V1 v51 c138.2 (by omega) (by omega)))) hZ (hw _ (List.mem_of_getElem? (i := 54) rfl)) (hw _ (List.mem_of_getElem? (i := 14) rfl)) (by decide) (by decide)) qg143a qg143c (g := (mkF m 143 #[.val (.int p0), .val (.int p1), .val (.int p2), .val (.int p3), .val (.int p4), .val (.int (2 : Int32)), .val (.int (own_b (¬ ((p1 &&& (1 : Int32)) = (0 : Int32))))), .val (.int (own_b (¬ ((p1 &&& (1 : Int32)) = (0 : Int32))))), .val (.int v43), .val (.int v51), .val (.int (own_b (¬ ((p4 &&& (1 : Int32)) = (0 : Int32)) ∧ (¬ (v51 < (1 : Int32)))))), .val (.ref b74), .val (.ref b85), .val (.ref b111), .val (.int v43), .val (.int (1 : Int32)), .unset, .unset, .unset, .unset] [(.ref b111)])) rfl (by rw [hml]; rfl) (Steps.refl _) (argsL := []) (rest := []) (lenOf own_pd1 rfl) rfl (by show 2 * 0 + _ ≤ _; exact Nat.le_of_eq rfl) (hb hby at_143) (fun _ _ => ⟨rfl, rfl, (by decide : 3 + 0 ≤ _), (by decide : 11 + 0 ≤ _)⟩)
          dsimp only [Pt.U, Pt.locs, Pt.cells, Pt.slots] at Xg143 lg143 yg143 zg143 stg143 hQg143
          subst lg143 yg143 zg143
          obtain ⟨rfl, Ng143q, Kg143, F_42, F_43, F_44, F_45, F_46, F_47⟩ := hQg143
          have F_48 := F_38.keep Kg143 (ninS ne_b74_b111 nin0)
          have F_49 := F_35.keep Kg143
          have F_50 := F_36.keep Kg143 (ninS ne_b85_b111 nin0)
          have F_51 := F_41.keep Kg143 (ninS ne_b85_b111 nin0)
          have Zz_7 : n0 ≤ Tg143.heap.size := Nat.le_trans Zz_6 Kg143.1
          obtain ⟨w143_position, hw143_position⟩ : ∃ z : Int32, z = (w128_position + (1 : Int32)) := ⟨_, rfl⟩
          have F_52 : Fld Z Tg143.heap b111 "com/example/wireform/wireform/wire/WireReader" "position" "I" (.int w143_position) := by subst hw143_position; exact F_47
          have Ng143 := Fr.app Ng128 Ng143q
          refine own_st (fun _ k => stg143.trans k) ?_
          refine own_st (B := Tg143.setTop (mkF m 148 #[.val (.int p0), .val (.int p1), .val (.int p2), .val (.int p3), .val (.int p4), .val (.int (2 : Int32)), .val (.int (own_b (¬ ((p1 &&& (1 : Int32)) = (0 : Int32))))), .val (.int (own_b (¬ ((p1 &&& (1 : Int32)) = (0 : Int32))))), .val (.int v43), .val (.int v51), .val (.int (own_b (¬ ((p4 &&& (1 : Int32)) = (0 : Int32)) ∧ (¬ (v51 < (1 : Int32)))))), .val (.ref b74), .val (.ref b85), .val (.ref b111), .val (.int v43), .val (.int (1 : Int32)), .unset, .unset, .unset, .unset] [(.int (lcmpW ((a84 (w128_position).toNatClampNeg).toInt64) (0 : Int64)))])) (fun target kt => ?_) ?_
          · show Steps p.tables e below (Tg143.setTop (mkF m 146 #[.val (.int p0), .val (.int p1), .val (.int p2), .val (.int p3), .val (.int p4), .val (.int (2 : Int32)), .val (.int (own_b (¬ ((p1 &&& (1 : Int32)) = (0 : Int32))))), .val (.int (own_b (¬ ((p1 &&& (1 : Int32)) = (0 : Int32))))), .val (.int v43), .val (.int v51), .val (.int (own_b (¬ ((p4 &&& (1 : Int32)) = (0 : Int32)) ∧ (¬ (v51 < (1 : Int32)))))), .val (.ref b74), .val (.ref b85), .val (.ref b111), .val (.int v43), .val (.int (1 : Int32)), .unset, .unset, .unset, .unset] [(.long ((a84 (w128_position).toNatClampNeg).toInt64))])) target
            refine XS.lconst Xg143.here hx rfl (hb hby at_146) ?_
            show Steps p.tables e below (Tg143.setTop (mkF m 147 #[.val (.int p0), .val (.int p1), .val (.int p2), .val (.int p3), .val (.int p4), .val (.int (2 : Int32)), .val (.int (own_b (¬ ((p1 &&& (1 : Int32)) = (0 : Int32))))), .val (.int (own_b (¬ ((p1 &&& (1 : Int32)) = (0 : Int32))))), .val (.int v43), .val (.int v51), .val (.int (own_b (¬ ((p4 &&& (1 : Int32)) = (0 : Int32)) ∧ (¬ (v51 < (1 : Int32)))))), .val (.ref b74), .val (.ref b85), .val (.ref b111), .val (.int v43), .val (.int (1 : Int32)), .unset, .unset, .unset, .unset] [(.long (0 : Int64)), (.long ((a84 (w128_position).toNatClampNeg).toInt64))])) target
            refine XS.lcmp Xg143.here hx rfl (hb hby at_147) rfl ?_
            exact kt
          have c148 : ((a84 (w128_position).toNatClampNeg).toInt64) = (0 : Int64) := by
            have hp : w128_position = 1 := by rw [hw128_position]; decide
            rw [hp, ha84]
            first | rfl | decide | simp
          refine own_st (B := Tg143.setTop (mkF m 156 #[.val (.int p0), .val (.int p1), .val (.int p2), .val (.int p3), .val (.int p4), .val (.int (2 : Int32)), .val (.int (own_b (¬ ((p1 &&& (1 : Int32)) = (0 : Int32))))), .val (.int (own_b (¬ ((p1 &&& (1 : Int32)) = (0 : Int32))))), .val (.int v43), .val (.int v51), .val (.int (own_b (¬ ((p4 &&& (1 : Int32)) = (0 : Int32)) ∧ (¬ (v51 < (1 : Int32)))))), .val (.ref b74), .val (.ref b85), .val (.ref b111), .val (.int v43), .val (.int (2 : Int32)), .unset, .unset, .unset, .unset] [])) (fun target kt => ?_) ?_
          · show Steps p.tables e below (Tg143.setTop (mkF m 148 #[.val (.int p0), .val (.int p1), .val (.int p2), .val (.int p3), .val (.int p4), .val (.int (2 : Int32)), .val (.int (own_b (¬ ((p1 &&& (1 : Int32)) = (0 : Int32))))), .val (.int (own_b (¬ ((p1 &&& (1 : Int32)) = (0 : Int32))))), .val (.int v43), .val (.int v51), .val (.int (own_b (¬ ((p4 &&& (1 : Int32)) = (0 : Int32)) ∧ (¬ (v51 < (1 : Int32)))))), .val (.ref b74), .val (.ref b85), .val (.ref b111), .val (.int v43), .val (.int (1 : Int32)), .unset, .unset, .unset, .unset] [(.int (lcmpW ((a84 (w128_position).toNatClampNeg).toInt64) (0 : Int64)))])) target
            refine XS.ifYes Xg143.here hx rfl (pc0 := 148) (pc' := 153) rfl (hb hby at_148) rfl ((if0 _ _).trans (teq ((lw_eq ((a84 (w128_position).toNatClampNeg).toInt64) (0 : Int64)).mpr c148)).1) (by decide) (by decide) ?_
            show Steps p.tables e below (Tg143.setTop (mkF m 153 #[.val (.int p0), .val (.int p1), .val (.int p2), .val (.int p3), .val (.int p4), .val (.int (2 : Int32)), .val (.int (own_b (¬ ((p1 &&& (1 : Int32)) = (0 : Int32))))), .val (.int (own_b (¬ ((p1 &&& (1 : Int32)) = (0 : Int32))))), .val (.int v43), .val (.int v51), .val (.int (own_b (¬ ((p4 &&& (1 : Int32)) = (0 : Int32)) ∧ (¬ (v51 < (1 : Int32)))))), .val (.ref b74), .val (.ref b85), .val (.ref b111), .val (.int v43), .val (.int (1 : Int32)), .unset, .unset, .unset, .unset] [])) target
            refine XS.iconst Xg143.here hx rfl (hb hby at_153) ?_
            show Steps p.tables e below (Tg143.setTop (mkF m 154 #[.val (.int p0), .val (.int p1), .val (.int p2), .val (.int p3), .val (.int p4), .val (.int (2 : Int32)), .val (.int (own_b (¬ ((p1 &&& (1 : Int32)) = (0 : Int32))))), .val (.int (own_b (¬ ((p1 &&& (1 : Int32)) = (0 : Int32))))), .val (.int v43), .val (.int v51), .val (.int (own_b (¬ ((p4 &&& (1 : Int32)) = (0 : Int32)) ∧ (¬ (v51 < (1 : Int32)))))), .val (.ref b74), .val (.ref b85), .val (.ref b111), .val (.int v43), .val (.int (1 : Int32)), .unset, .unset, .unset, .unset] [(.int (2 : Int32))])) target
            refine XS.istore Xg143.here hx rfl (hb hby at_154) rfl (l' := #[.val (.int p0), .val (.int p1), .val (.int p2), .val (.int p3), .val (.int p4), .val (.int (2 : Int32)), .val (.int (own_b (¬ ((p1 &&& (1 : Int32)) = (0 : Int32))))), .val (.int (own_b (¬ ((p1 &&& (1 : Int32)) = (0 : Int32))))), .val (.int v43), .val (.int v51), .val (.int (own_b (¬ ((p4 &&& (1 : Int32)) = (0 : Int32)) ∧ (¬ (v51 < (1 : Int32)))))), .val (.ref b74), .val (.ref b85), .val (.ref b111), .val (.int v43), .val (.int (2 : Int32)), .unset, .unset, .unset, .unset]) rfl ?_
            exact kt
          subst hw143_position
          exact ⟨_, ⟨Tg143, Tg143.heap, _, (2 : Int32), ((w128_position + (1 : Int32))), rfl, Xg143, rfl, Ng143, Zz_7, F_48, F_49, F_50, F_51, F_42, F_43, F_44, F_45, F_46, F_52, (if_pos c138).symm, (if_pos c138).symm⟩, fun _ k => k⟩
        · refine own_st (B := Tg128.setTop (mkF m 156 #[.val (.int p0), .val (.int p1), .val (.int p2), .val (.int p3), .val (.int p4), .val (.int (2 : Int32)), .val (.int (own_b (¬ ((p1 &&& (1 : Int32)) = (0 : Int32))))), .val (.int (own_b (¬ ((p1 &&& (1 : Int32)) = (0 : Int32))))), .val (.int v43), .val (.int v51), .val (.int (own_b (¬ ((p4 &&& (1 : Int32)) = (0 : Int32)) ∧ (¬ (v51 < (1 : Int32)))))), .val (.ref b74), .val (.ref b85), .val (.ref b111), .val (.int v43), .val (.int (1 : Int32)), .unset, .unset, .unset, .unset] [])) (fun target kt => ?_) ?_
          · show Steps p.tables e below (Tg128.setTop (mkF m 138 #[.val (.int p0), .val (.int p1), .val (.int p2), .val (.int p3), .val (.int p4), .val (.int (2 : Int32)), .val (.int (own_b (¬ ((p1 &&& (1 : Int32)) = (0 : Int32))))), .val (.int (own_b (¬ ((p1 &&& (1 : Int32)) = (0 : Int32))))), .val (.int v43), .val (.int v51), .val (.int (own_b (¬ ((p4 &&& (1 : Int32)) = (0 : Int32)) ∧ (¬ (v51 < (1 : Int32)))))), .val (.ref b74), .val (.ref b85), .val (.ref b111), .val (.int v43), .val (.int (1 : Int32)), .unset, .unset, .unset, .unset] [(.int (own_b (¬ ((p4 &&& (1 : Int32)) = (0 : Int32)) ∧ (¬ (v51 < (1 : Int32))))))])) target
            refine XS.ifYes Xg128.here hx rfl (pc0 := 138) (pc' := 156) rfl (hb hby at_138) rfl ((if0 _ _).trans (teq (own_b00 rfl c138)).1) (by decide) (by decide) ?_
            exact kt
          exact ⟨_, ⟨Tg128, Tg128.heap, _, (1 : Int32), w128_position, rfl, Xg128, rfl, Ng128, Zz_6, F_38, F_35, F_36, F_41, F_29, F_30, F_31, F_32, F_39, F_40, (if_neg c138).symm, (if_neg c138).symm⟩, fun _ k => k⟩
      refine own_st st_M156 ?_
      refine own_st (B := T_M156.setTop (mkF m 160 #[.val (.int p0), .val (.int p1), .val (.int p2), .val (.int p3), .val (.int p4), .val (.int (2 : Int32)), .val (.int (own_b (¬ ((p1 &&& (1 : Int32)) = (0 : Int32))))), .val (.int (own_b (¬ ((p1 &&& (1 : Int32)) = (0 : Int32))))), .val (.int v43), .val (.int v51), .val (.int (own_b (¬ ((p4 &&& (1 : Int32)) = (0 : Int32)) ∧ (¬ (v51 < (1 : Int32)))))), .val (.ref b74), .val (.ref b85), .val (.ref b111), .val (.int v43), .val (.int j156_l15), .unset, .unset, .unset, .unset] [(.int v43), (.ref b111)])) (fun target kt => ?_) ?_
      · show Steps p.tables e below (T_M156.setTop (mkF m 156 #[.val (.int p0), .val (.int p1), .val (.int p2), .val (.int p3), .val (.int p4), .val (.int (2 : Int32)), .val (.int (own_b (¬ ((p1 &&& (1 : Int32)) = (0 : Int32))))), .val (.int (own_b (¬ ((p1 &&& (1 : Int32)) = (0 : Int32))))), .val (.int v43), .val (.int v51), .val (.int (own_b (¬ ((p4 &&& (1 : Int32)) = (0 : Int32)) ∧ (¬ (v51 < (1 : Int32)))))), .val (.ref b74), .val (.ref b85), .val (.ref b111), .val (.int v43), .val (.int j156_l15), .unset, .unset, .unset, .unset] [])) target
        refine XS.aload X_M156.here hx rfl (hb hby at_156) rfl rfl ?_
        show Steps p.tables e below (T_M156.setTop (mkF m 158 #[.val (.int p0), .val (.int p1), .val (.int p2), .val (.int p3), .val (.int p4), .val (.int (2 : Int32)), .val (.int (own_b (¬ ((p1 &&& (1 : Int32)) = (0 : Int32))))), .val (.int (own_b (¬ ((p1 &&& (1 : Int32)) = (0 : Int32))))), .val (.int v43), .val (.int v51), .val (.int (own_b (¬ ((p4 &&& (1 : Int32)) = (0 : Int32)) ∧ (¬ (v51 < (1 : Int32)))))), .val (.ref b74), .val (.ref b85), .val (.ref b111), .val (.int v43), .val (.int j156_l15), .unset, .unset, .unset, .unset] [(.ref b111)])) target
        refine XS.iload X_M156.here hx rfl (hb hby at_158) rfl ?_
        exact kt
      obtain ⟨cqg160, kqg160, qg160a, qg160b, qg160c⟩ := isOf hZ e_M156 F_57
      obtain ⟨_, _, ⟨Tg160, Lg160, kg160, ng160⟩, -, Xg160, ⟨Lcg160, hQg160, lg160, yg160, zg160⟩, stg160⟩ := X_M156.virtualBack hx (y := (⟨"com/example/wireform/wireform/wire/WireReader", "endMessage", "(I)V"⟩ : MethodName)) (z := (⟨"com/example/wireform/wireform/wire/WireReader", "endMessage", "(I)V"⟩ : MethodName)) hown (mvT hZ (hw _ (List.mem_of_getElem? (i := 63) rfl))) (mvT hZ (hw _ (List.mem_of_getElem? (i := 64) rfl))) (notFace_of_selects (args := #[]) (mvT hZ (hw _ (List.mem_of_getElem? (i := 66) rfl)))) (mvT hZ (hw _ (List.mem_of_getElem? (i := 66) rfl))) (mvT hZ (hw _ (List.mem_of_getElem? (i := 65) rfl))) (by decide) (backOf (W := 0) (own_rm11 l Z a0 hw [] b111 v43 b74 v43 b85 w128_limit j156_f_b111_position (2 : Int32) w128_depth h_M156 n0 Z_M156 F_57 F_58 F_59 F_60 F_61 F_62 F_54 F_55 F_56 g_b111 g_b85 (Ne.symm ne_b85_b111)) hZ (hw _ (List.mem_of_getElem? (i := 67) rfl)) (hw _ (List.mem_of_getElem? (i := 14) rfl)) (by decide) (by decide)) qg160a qg160c (g := (mkF m 160 #[.val (.int p0), .val (.int p1), .val (.int p2), .val (.int p3), .val (.int p4), .val (.int (2 : Int32)), .val (.int (own_b (¬ ((p1 &&& (1 : Int32)) = (0 : Int32))))), .val (.int (own_b (¬ ((p1 &&& (1 : Int32)) = (0 : Int32))))), .val (.int v43), .val (.int v51), .val (.int (own_b (¬ ((p4 &&& (1 : Int32)) = (0 : Int32)) ∧ (¬ (v51 < (1 : Int32)))))), .val (.ref b74), .val (.ref b85), .val (.ref b111), .val (.int v43), .val (.int j156_l15), .unset, .unset, .unset, .unset] [(.int v43), (.ref b111)])) rfl (by rw [hml]; rfl) (Steps.refl _) (argsL := [(.int v43)]) (rest := []) (lenOf own_pd4 rfl) rfl (by show 2 * 0 + _ ≤ _; exact Nat.le_of_eq rfl) (hb hby at_160) (fun _ _ => ⟨rfl, e_M156, (by decide : 3 + 0 ≤ _), (by decide : 11 + 0 ≤ _)⟩)
      dsimp only [Pt.U, Pt.locs, Pt.cells, Pt.slots] at Xg160 lg160 yg160 zg160 stg160 hQg160
      subst lg160 yg160 zg160
      obtain ⟨rfl, Ng160q, Kg160, F_63, F_64, F_65, F_66, F_67, F_68, F_69, F_70, F_71⟩ := hQg160
      have F_72 := F_53.keep Kg160 (ninS ne_b74_b111 (ninS ne_b74_b85 nin0))
      have Zz_8 : n0 ≤ Tg160.heap.size := Nat.le_trans Z_M156 Kg160.1
      obtain ⟨w160_depth, hw160_depth⟩ : ∃ z : Int32, z = (w128_depth - (1 : Int32)) := ⟨_, rfl⟩
      have F_73 : Fld Z Tg160.heap b85 "com/example/wireform/wireform/wire/Nesting" "depth" "I" (.int w160_depth) := by subst hw160_depth; exact F_71
      have Ng160 := Fr.app N_M156 Ng160q
      refine own_st (fun _ k => stg160.trans k) ?_
      refine own_st (B := Tg160.setTop (mkF m 165 #[.val (.int p0), .val (.int p1), .val (.int p2), .val (.int p3), .val (.int p4), .val (.int (2 : Int32)), .val (.int (own_b (¬ ((p1 &&& (1 : Int32)) = (0 : Int32))))), .val (.int (own_b (¬ ((p1 &&& (1 : Int32)) = (0 : Int32))))), .val (.int v43), .val (.int v51), .val (.int (own_b (¬ ((p4 &&& (1 : Int32)) = (0 : Int32)) ∧ (¬ (v51 < (1 : Int32)))))), .val (.ref b74), .val (.ref b85), .val (.ref b111), .val (.int v43), .val (.int j156_l15), .unset, .unset, .unset, .unset] [(.ref b111)])) (fun target kt => ?_) ?_
      · show Steps p.tables e below (Tg160.setTop (mkF m 163 #[.val (.int p0), .val (.int p1), .val (.int p2), .val (.int p3), .val (.int p4), .val (.int (2 : Int32)), .val (.int (own_b (¬ ((p1 &&& (1 : Int32)) = (0 : Int32))))), .val (.int (own_b (¬ ((p1 &&& (1 : Int32)) = (0 : Int32))))), .val (.int v43), .val (.int v51), .val (.int (own_b (¬ ((p4 &&& (1 : Int32)) = (0 : Int32)) ∧ (¬ (v51 < (1 : Int32)))))), .val (.ref b74), .val (.ref b85), .val (.ref b111), .val (.int v43), .val (.int j156_l15), .unset, .unset, .unset, .unset] [])) target
        refine XS.aload Xg160.here hx rfl (hb hby at_163) rfl rfl ?_
        exact kt
      obtain ⟨cqg165, kqg165, qg165a, qg165b, qg165c⟩ := isOf hZ rfl F_63
      obtain ⟨_, _, ⟨Tg165, Lg165, kg165, ng165⟩, -, Xg165, ⟨Lcg165, hQg165, lg165, yg165, zg165⟩, stg165⟩ := Xg160.virtualBack hx (y := (⟨"com/example/wireform/wireform/wire/WireReader", "isAtEnd", "()Z"⟩ : MethodName)) (z := (⟨"com/example/wireform/wireform/wire/WireReader", "isAtEnd", "()Z"⟩ : MethodName)) hown (mvT hZ (hw _ (List.mem_of_getElem? (i := 78) rfl))) (mvT hZ (hw _ (List.mem_of_getElem? (i := 79) rfl))) (notFace_of_selects (args := #[]) (mvT hZ (hw _ (List.mem_of_getElem? (i := 81) rfl)))) (mvT hZ (hw _ (List.mem_of_getElem? (i := 81) rfl))) (mvT hZ (hw _ (List.mem_of_getElem? (i := 80) rfl))) (by decide) (backOf (W := 0) (own_rm14 l Z a0 hw [] b111 v43 j156_f_b111_position Tg160.heap n0 Zz_8 F_67 F_68) hZ (hw _ (List.mem_of_getElem? (i := 82) rfl)) (hw _ (List.mem_of_getElem? (i := 14) rfl)) (by decide) (by decide)) qg165a qg165c (g := (mkF m 165 #[.val (.int p0), .val (.int p1), .val (.int p2), .val (.int p3), .val (.int p4), .val (.int (2 : Int32)), .val (.int (own_b (¬ ((p1 &&& (1 : Int32)) = (0 : Int32))))), .val (.int (own_b (¬ ((p1 &&& (1 : Int32)) = (0 : Int32))))), .val (.int v43), .val (.int v51), .val (.int (own_b (¬ ((p4 &&& (1 : Int32)) = (0 : Int32)) ∧ (¬ (v51 < (1 : Int32)))))), .val (.ref b74), .val (.ref b85), .val (.ref b111), .val (.int v43), .val (.int j156_l15), .unset, .unset, .unset, .unset] [(.ref b111)])) rfl (by rw [hml]; rfl) (Steps.refl _) (argsL := []) (rest := []) (lenOf own_pd3 rfl) rfl (by show 2 * 0 + _ ≤ _; exact Nat.le_of_eq rfl) (hb hby at_165) (fun _ _ => ⟨rfl, rfl, (by decide : 3 + 0 ≤ _), (by decide : 11 + 0 ≤ _)⟩)
      dsimp only [Pt.U, Pt.locs, Pt.cells, Pt.slots] at Xg165 lg165 yg165 zg165 stg165 hQg165
      subst lg165 yg165 zg165
      obtain ⟨rfl, Ng165q, eg165⟩ := hQg165
      have Ng165 := Fr.app Ng160 Ng165q
      refine own_st (fun _ k => stg165.trans k) ?_
      refine own_st (B := Tg165.setTop (mkF m 172 #[.val (.int p0), .val (.int p1), .val (.int p2), .val (.int p3), .val (.int p4), .val (.int (2 : Int32)), .val (.int (own_b (¬ ((p1 &&& (1 : Int32)) = (0 : Int32))))), .val (.int (own_b (¬ ((p1 &&& (1 : Int32)) = (0 : Int32))))), .val (.int v43), .val (.int v51), .val (.int (own_b (¬ ((p4 &&& (1 : Int32)) = (0 : Int32)) ∧ (¬ (v51 < (1 : Int32)))))), .val (.ref b74), .val (.ref b85), .val (.ref b111), .val (.int v43), .val (.int j156_l15), .val (.int (own_b (j156_f_b111_position = v43))), .unset, .unset, .unset] [(.ref b85)])) (fun target kt => ?_) ?_
      · show Steps p.tables e below (Tg165.setTop (mkF m 168 #[.val (.int p0), .val (.int p1), .val (.int p2), .val (.int p3), .val (.int p4), .val (.int (2 : Int32)), .val (.int (own_b (¬ ((p1 &&& (1 : Int32)) = (0 : Int32))))), .val (.int (own_b (¬ ((p1 &&& (1 : Int32)) = (0 : Int32))))), .val (.int v43), .val (.int v51), .val (.int (own_b (¬ ((p4 &&& (1 : Int32)) = (0 : Int32)) ∧ (¬ (v51 < (1 : Int32)))))), .val (.ref b74), .val (.ref b85), .val (.ref b111), .val (.int v43), .val (.int j156_l15), .unset, .unset, .unset, .unset] [(.int (own_b (j156_f_b111_position = v43)))])) target
        refine XS.istore Xg165.here hx rfl (hb hby at_168) rfl (l' := #[.val (.int p0), .val (.int p1), .val (.int p2), .val (.int p3), .val (.int p4), .val (.int (2 : Int32)), .val (.int (own_b (¬ ((p1 &&& (1 : Int32)) = (0 : Int32))))), .val (.int (own_b (¬ ((p1 &&& (1 : Int32)) = (0 : Int32))))), .val (.int v43), .val (.int v51), .val (.int (own_b (¬ ((p4 &&& (1 : Int32)) = (0 : Int32)) ∧ (¬ (v51 < (1 : Int32)))))), .val (.ref b74), .val (.ref b85), .val (.ref b111), .val (.int v43), .val (.int j156_l15), .val (.int (own_b (j156_f_b111_position = v43))), .unset, .unset, .unset]) rfl ?_
        show Steps p.tables e below (Tg165.setTop (mkF m 170 #[.val (.int p0), .val (.int p1), .val (.int p2), .val (.int p3), .val (.int p4), .val (.int (2 : Int32)), .val (.int (own_b (¬ ((p1 &&& (1 : Int32)) = (0 : Int32))))), .val (.int (own_b (¬ ((p1 &&& (1 : Int32)) = (0 : Int32))))), .val (.int v43), .val (.int v51), .val (.int (own_b (¬ ((p4 &&& (1 : Int32)) = (0 : Int32)) ∧ (¬ (v51 < (1 : Int32)))))), .val (.ref b74), .val (.ref b85), .val (.ref b111), .val (.int v43), .val (.int j156_l15), .val (.int (own_b (j156_f_b111_position = v43))), .unset, .unset, .unset] [])) target
        refine XS.aload Xg165.here hx rfl (hb hby at_170) rfl rfl ?_
        exact kt
      obtain ⟨cqg172, kqg172, qg172a, qg172b, qg172c⟩ := isOf hZ eg165 F_69
      obtain ⟨_, _, ⟨Tg172, Lg172, kg172, ng172⟩, -, Xg172, ⟨Lcg172, hQg172, lg172, yg172, zg172⟩, stg172⟩ := Xg165.virtualBack hx (y := (⟨"com/example/wireform/wireform/wire/Nesting", "enter", "()Z"⟩ : MethodName)) (z := (⟨"com/example/wireform/wireform/wire/Nesting", "enter", "()Z"⟩ : MethodName)) hown (mvT hZ (hw _ (List.mem_of_getElem? (i := 83) rfl))) (mvT hZ (hw _ (List.mem_of_getElem? (i := 33) rfl))) (notFace_of_selects (args := #[]) (mvT hZ (hw _ (List.mem_of_getElem? (i := 35) rfl)))) (mvT hZ (hw _ (List.mem_of_getElem? (i := 35) rfl))) (mvT hZ (hw _ (List.mem_of_getElem? (i := 34) rfl))) (by decide) (backOf (W := 0) (own_rm5 l Z a0 hw [] b85 (2 : Int32) w160_depth Tg160.heap n0 Zz_8 F_69 F_70 F_73 g_b85) hZ (hw _ (List.mem_of_getElem? (i := 36) rfl)) (hw _ (List.mem_of_getElem? (i := 3) rfl)) (by decide) (by decide)) qg172a qg172c (g := (mkF m 172 #[.val (.int p0), .val (.int p1), .val (.int p2), .val (.int p3), .val (.int p4), .val (.int (2 : Int32)), .val (.int (own_b (¬ ((p1 &&& (1 : Int32)) = (0 : Int32))))), .val (.int (own_b (¬ ((p1 &&& (1 : Int32)) = (0 : Int32))))), .val (.int v43), .val (.int v51), .val (.int (own_b (¬ ((p4 &&& (1 : Int32)) = (0 : Int32)) ∧ (¬ (v51 < (1 : Int32)))))), .val (.ref b74), .val (.ref b85), .val (.ref b111), .val (.int v43), .val (.int j156_l15), .val (.int (own_b (j156_f_b111_position = v43))), .unset, .unset, .unset] [(.ref b85)])) rfl (by rw [hml]; rfl) (Steps.refl _) (argsL := []) (rest := []) (lenOf own_pd3 rfl) rfl (by show 2 * 0 + _ ≤ _; exact Nat.le_of_eq rfl) (hb hby at_172) (fun _ _ => ⟨rfl, eg165, (by decide : 3 + 0 ≤ _), (by decide : 11 + 0 ≤ _)⟩)
      dsimp only [Pt.U, Pt.locs, Pt.cells, Pt.slots] at Xg172 lg172 yg172 zg172 stg172 hQg172
      subst lg172 yg172 zg172
      obtain ⟨rfl, Ng172q, Kg172, F_74, F_75, F_76⟩ := hQg172
      have F_77 := F_72.keep Kg172 (ninS ne_b74_b85 nin0)
      have F_78 := F_63.keep Kg172
      have F_79 := F_64.keep Kg172 (ninS (Ne.symm ne_b85_b111) nin0)
      have F_80 := F_65.keep Kg172 (ninS (Ne.symm ne_b85_b111) nin0)
      have F_81 := F_66.keep Kg172 (ninS (Ne.symm ne_b85_b111) nin0)
      have F_82 := F_67.keep Kg172 (ninS (Ne.symm ne_b85_b111) nin0)
      have F_83 := F_68.keep Kg172 (ninS (Ne.symm ne_b85_b111) nin0)
      have Zz_9 : n0 ≤ Tg172.heap.size := Nat.le_trans Zz_8 Kg172.1
      obtain ⟨w172_depth, hw172_depth⟩ : ∃ z : Int32, z = (if w160_depth = (2 : Int32) then w160_depth else (w160_depth + (1 : Int32))) := ⟨_, rfl⟩
      have F_84 : Fld Z Tg172.heap b85 "com/example/wireform/wireform/wire/Nesting" "depth" "I" (.int w172_depth) := by subst hw172_depth; exact F_76
      have Ng172 := Fr.app Ng165 Ng172q
      refine own_st (fun _ k => stg172.trans k) ?_
      refine own_st (B := Tg172.setTop (mkF m 179 #[.val (.int p0), .val (.int p1), .val (.int p2), .val (.int p3), .val (.int p4), .val (.int (2 : Int32)), .val (.int (own_b (¬ ((p1 &&& (1 : Int32)) = (0 : Int32))))), .val (.int (own_b (¬ ((p1 &&& (1 : Int32)) = (0 : Int32))))), .val (.int v43), .val (.int v51), .val (.int (own_b (¬ ((p4 &&& (1 : Int32)) = (0 : Int32)) ∧ (¬ (v51 < (1 : Int32)))))), .val (.ref b74), .val (.ref b85), .val (.ref b111), .val (.int v43), .val (.int j156_l15), .val (.int (own_b (j156_f_b111_position = v43))), .val (.int (own_b (¬ (w160_depth = (2 : Int32))))), .unset, .unset] [(.ref b85)])) (fun target kt => ?_) ?_
      · show Steps p.tables e below (Tg172.setTop (mkF m 175 #[.val (.int p0), .val (.int p1), .val (.int p2), .val (.int p3), .val (.int p4), .val (.int (2 : Int32)), .val (.int (own_b (¬ ((p1 &&& (1 : Int32)) = (0 : Int32))))), .val (.int (own_b (¬ ((p1 &&& (1 : Int32)) = (0 : Int32))))), .val (.int v43), .val (.int v51), .val (.int (own_b (¬ ((p4 &&& (1 : Int32)) = (0 : Int32)) ∧ (¬ (v51 < (1 : Int32)))))), .val (.ref b74), .val (.ref b85), .val (.ref b111), .val (.int v43), .val (.int j156_l15), .val (.int (own_b (j156_f_b111_position = v43))), .unset, .unset, .unset] [(.int (own_b (¬ (w160_depth = (2 : Int32)))))])) target
        refine XS.istore Xg172.here hx rfl (hb hby at_175) rfl (l' := #[.val (.int p0), .val (.int p1), .val (.int p2), .val (.int p3), .val (.int p4), .val (.int (2 : Int32)), .val (.int (own_b (¬ ((p1 &&& (1 : Int32)) = (0 : Int32))))), .val (.int (own_b (¬ ((p1 &&& (1 : Int32)) = (0 : Int32))))), .val (.int v43), .val (.int v51), .val (.int (own_b (¬ ((p4 &&& (1 : Int32)) = (0 : Int32)) ∧ (¬ (v51 < (1 : Int32)))))), .val (.ref b74), .val (.ref b85), .val (.ref b111), .val (.int v43), .val (.int j156_l15), .val (.int (own_b (j156_f_b111_position = v43))), .val (.int (own_b (¬ (w160_depth = (2 : Int32))))), .unset, .unset]) rfl ?_
        show Steps p.tables e below (Tg172.setTop (mkF m 177 #[.val (.int p0), .val (.int p1), .val (.int p2), .val (.int p3), .val (.int p4), .val (.int (2 : Int32)), .val (.int (own_b (¬ ((p1 &&& (1 : Int32)) = (0 : Int32))))), .val (.int (own_b (¬ ((p1 &&& (1 : Int32)) = (0 : Int32))))), .val (.int v43), .val (.int v51), .val (.int (own_b (¬ ((p4 &&& (1 : Int32)) = (0 : Int32)) ∧ (¬ (v51 < (1 : Int32)))))), .val (.ref b74), .val (.ref b85), .val (.ref b111), .val (.int v43), .val (.int j156_l15), .val (.int (own_b (j156_f_b111_position = v43))), .val (.int (own_b (¬ (w160_depth = (2 : Int32))))), .unset, .unset] [])) target
        refine XS.aload Xg172.here hx rfl (hb hby at_177) rfl rfl ?_
        exact kt
      obtain ⟨cqg179, kqg179, qg179a, qg179b, qg179c⟩ := isOf hZ rfl F_74
      obtain ⟨_, _, ⟨Tg179, Lg179, kg179, ng179⟩, -, Xg179, ⟨Lcg179, hQg179, lg179, yg179, zg179⟩, stg179⟩ := Xg172.virtualBack hx (y := (⟨"com/example/wireform/wireform/wire/Nesting", "enter", "()Z"⟩ : MethodName)) (z := (⟨"com/example/wireform/wireform/wire/Nesting", "enter", "()Z"⟩ : MethodName)) hown (mvT hZ (hw _ (List.mem_of_getElem? (i := 83) rfl))) (mvT hZ (hw _ (List.mem_of_getElem? (i := 33) rfl))) (notFace_of_selects (args := #[]) (mvT hZ (hw _ (List.mem_of_getElem? (i := 35) rfl)))) (mvT hZ (hw _ (List.mem_of_getElem? (i := 35) rfl))) (mvT hZ (hw _ (List.mem_of_getElem? (i := 34) rfl))) (by decide) (backOf (W := 0) (own_rm5 l Z a0 hw [] b85 (2 : Int32) w172_depth Tg172.heap n0 Zz_9 F_74 F_75 F_84 g_b85) hZ (hw _ (List.mem_of_getElem? (i := 36) rfl)) (hw _ (List.mem_of_getElem? (i := 3) rfl)) (by decide) (by decide)) qg179a qg179c (g := (mkF m 179 #[.val (.int p0), .val (.int p1), .val (.int p2), .val (.int p3), .val (.int p4), .val (.int (2 : Int32)), .val (.int (own_b (¬ ((p1 &&& (1 : Int32)) = (0 : Int32))))), .val (.int (own_b (¬ ((p1 &&& (1 : Int32)) = (0 : Int32))))), .val (.int v43), .val (.int v51), .val (.int (own_b (¬ ((p4 &&& (1 : Int32)) = (0 : Int32)) ∧ (¬ (v51 < (1 : Int32)))))), .val (.ref b74), .val (.ref b85), .val (.ref b111), .val (.int v43), .val (.int j156_l15), .val (.int (own_b (j156_f_b111_position = v43))), .val (.int (own_b (¬ (w160_depth = (2 : Int32))))), .unset, .unset] [(.ref b85)])) rfl (by rw [hml]; rfl) (Steps.refl _) (argsL := []) (rest := []) (lenOf own_pd3 rfl) rfl (by show 2 * 0 + _ ≤ _; exact Nat.le_of_eq rfl) (hb hby at_179) (fun _ _ => ⟨rfl, rfl, (by decide : 3 + 0 ≤ _), (by decide : 11 + 0 ≤ _)⟩)
      dsimp only [Pt.U, Pt.locs, Pt.cells, Pt.slots] at Xg179 lg179 yg179 zg179 stg179 hQg179
      subst lg179 yg179 zg179
      obtain ⟨rfl, Ng179q, Kg179, F_85, F_86, F_87⟩ := hQg179
      have F_88 := F_77.keep Kg179 (ninS ne_b74_b85 nin0)
      have F_89 := F_78.keep Kg179
      have F_90 := F_79.keep Kg179 (ninS (Ne.symm ne_b85_b111) nin0)
      have F_91 := F_80.keep Kg179 (ninS (Ne.symm ne_b85_b111) nin0)
      have F_92 := F_81.keep Kg179 (ninS (Ne.symm ne_b85_b111) nin0)
      have F_93 := F_82.keep Kg179 (ninS (Ne.symm ne_b85_b111) nin0)
      have F_94 := F_83.keep Kg179 (ninS (Ne.symm ne_b85_b111) nin0)
      have Zz_10 : n0 ≤ Tg179.heap.size := Nat.le_trans Zz_9 Kg179.1
      obtain ⟨w179_depth, hw179_depth⟩ : ∃ z : Int32, z = (if w172_depth = (2 : Int32) then w172_depth else (w172_depth + (1 : Int32))) := ⟨_, rfl⟩
      have F_95 : Fld Z Tg179.heap b85 "com/example/wireform/wireform/wire/Nesting" "depth" "I" (.int w179_depth) := by subst hw179_depth; exact F_87
      have Ng179 := Fr.app Ng172 Ng179q
      refine own_st (fun _ k => stg179.trans k) ?_
      refine own_st (B := Tg179.setTop (mkF m 186 #[.val (.int p0), .val (.int p1), .val (.int p2), .val (.int p3), .val (.int p4), .val (.int (2 : Int32)), .val (.int (own_b (¬ ((p1 &&& (1 : Int32)) = (0 : Int32))))), .val (.int (own_b (¬ ((p1 &&& (1 : Int32)) = (0 : Int32))))), .val (.int v43), .val (.int v51), .val (.int (own_b (¬ ((p4 &&& (1 : Int32)) = (0 : Int32)) ∧ (¬ (v51 < (1 : Int32)))))), .val (.ref b74), .val (.ref b85), .val (.ref b111), .val (.int v43), .val (.int j156_l15), .val (.int (own_b (j156_f_b111_position = v43))), .val (.int (own_b (¬ (w160_depth = (2 : Int32))))), .val (.int (own_b (¬ (w172_depth = (2 : Int32))))), .unset] [(.ref b85)])) (fun target kt => ?_) ?_
      · show Steps p.tables e below (Tg179.setTop (mkF m 182 #[.val (.int p0), .val (.int p1), .val (.int p2), .val (.int p3), .val (.int p4), .val (.int (2 : Int32)), .val (.int (own_b (¬ ((p1 &&& (1 : Int32)) = (0 : Int32))))), .val (.int (own_b (¬ ((p1 &&& (1 : Int32)) = (0 : Int32))))), .val (.int v43), .val (.int v51), .val (.int (own_b (¬ ((p4 &&& (1 : Int32)) = (0 : Int32)) ∧ (¬ (v51 < (1 : Int32)))))), .val (.ref b74), .val (.ref b85), .val (.ref b111), .val (.int v43), .val (.int j156_l15), .val (.int (own_b (j156_f_b111_position = v43))), .val (.int (own_b (¬ (w160_depth = (2 : Int32))))), .unset, .unset] [(.int (own_b (¬ (w172_depth = (2 : Int32)))))])) target
        refine XS.istore Xg179.here hx rfl (hb hby at_182) rfl (l' := #[.val (.int p0), .val (.int p1), .val (.int p2), .val (.int p3), .val (.int p4), .val (.int (2 : Int32)), .val (.int (own_b (¬ ((p1 &&& (1 : Int32)) = (0 : Int32))))), .val (.int (own_b (¬ ((p1 &&& (1 : Int32)) = (0 : Int32))))), .val (.int v43), .val (.int v51), .val (.int (own_b (¬ ((p4 &&& (1 : Int32)) = (0 : Int32)) ∧ (¬ (v51 < (1 : Int32)))))), .val (.ref b74), .val (.ref b85), .val (.ref b111), .val (.int v43), .val (.int j156_l15), .val (.int (own_b (j156_f_b111_position = v43))), .val (.int (own_b (¬ (w160_depth = (2 : Int32))))), .val (.int (own_b (¬ (w172_depth = (2 : Int32))))), .unset]) rfl ?_
        show Steps p.tables e below (Tg179.setTop (mkF m 184 #[.val (.int p0), .val (.int p1), .val (.int p2), .val (.int p3), .val (.int p4), .val (.int (2 : Int32)), .val (.int (own_b (¬ ((p1 &&& (1 : Int32)) = (0 : Int32))))), .val (.int (own_b (¬ ((p1 &&& (1 : Int32)) = (0 : Int32))))), .val (.int v43), .val (.int v51), .val (.int (own_b (¬ ((p4 &&& (1 : Int32)) = (0 : Int32)) ∧ (¬ (v51 < (1 : Int32)))))), .val (.ref b74), .val (.ref b85), .val (.ref b111), .val (.int v43), .val (.int j156_l15), .val (.int (own_b (j156_f_b111_position = v43))), .val (.int (own_b (¬ (w160_depth = (2 : Int32))))), .val (.int (own_b (¬ (w172_depth = (2 : Int32))))), .unset] [])) target
        refine XS.aload Xg179.here hx rfl (hb hby at_184) rfl rfl ?_
        exact kt
      obtain ⟨cqg186, kqg186, qg186a, qg186b, qg186c⟩ := isOf hZ rfl F_85
      obtain ⟨_, _, ⟨Tg186, Lg186, kg186, ng186⟩, -, Xg186, ⟨Lcg186, hQg186, lg186, yg186, zg186⟩, stg186⟩ := Xg179.virtualBack hx (y := (⟨"com/example/wireform/wireform/wire/Nesting", "enter", "()Z"⟩ : MethodName)) (z := (⟨"com/example/wireform/wireform/wire/Nesting", "enter", "()Z"⟩ : MethodName)) hown (mvT hZ (hw _ (List.mem_of_getElem? (i := 83) rfl))) (mvT hZ (hw _ (List.mem_of_getElem? (i := 33) rfl))) (notFace_of_selects (args := #[]) (mvT hZ (hw _ (List.mem_of_getElem? (i := 35) rfl)))) (mvT hZ (hw _ (List.mem_of_getElem? (i := 35) rfl))) (mvT hZ (hw _ (List.mem_of_getElem? (i := 34) rfl))) (by decide) (backOf (W := 0) (own_rm5 l Z a0 hw [] b85 (2 : Int32) w179_depth Tg179.heap n0 Zz_10 F_85 F_86 F_95 g_b85) hZ (hw _ (List.mem_of_getElem? (i := 36) rfl)) (hw _ (List.mem_of_getElem? (i := 3) rfl)) (by decide) (by decide)) qg186a qg186c (g := (mkF m 186 #[.val (.int p0), .val (.int p1), .val (.int p2), .val (.int p3), .val (.int p4), .val (.int (2 : Int32)), .val (.int (own_b (¬ ((p1 &&& (1 : Int32)) = (0 : Int32))))), .val (.int (own_b (¬ ((p1 &&& (1 : Int32)) = (0 : Int32))))), .val (.int v43), .val (.int v51), .val (.int (own_b (¬ ((p4 &&& (1 : Int32)) = (0 : Int32)) ∧ (¬ (v51 < (1 : Int32)))))), .val (.ref b74), .val (.ref b85), .val (.ref b111), .val (.int v43), .val (.int j156_l15), .val (.int (own_b (j156_f_b111_position = v43))), .val (.int (own_b (¬ (w160_depth = (2 : Int32))))), .val (.int (own_b (¬ (w172_depth = (2 : Int32))))), .unset] [(.ref b85)])) rfl (by rw [hml]; rfl) (Steps.refl _) (argsL := []) (rest := []) (lenOf own_pd3 rfl) rfl (by show 2 * 0 + _ ≤ _; exact Nat.le_of_eq rfl) (hb hby at_186) (fun _ _ => ⟨rfl, rfl, (by decide : 3 + 0 ≤ _), (by decide : 11 + 0 ≤ _)⟩)
      dsimp only [Pt.U, Pt.locs, Pt.cells, Pt.slots] at Xg186 lg186 yg186 zg186 stg186 hQg186
      subst lg186 yg186 zg186
      obtain ⟨rfl, Ng186q, Kg186, F_96, F_97, F_98⟩ := hQg186
      have F_99 := F_88.keep Kg186 (ninS ne_b74_b85 nin0)
      have F_100 := F_89.keep Kg186
      have F_101 := F_90.keep Kg186 (ninS (Ne.symm ne_b85_b111) nin0)
      have F_102 := F_91.keep Kg186 (ninS (Ne.symm ne_b85_b111) nin0)
      have F_103 := F_92.keep Kg186 (ninS (Ne.symm ne_b85_b111) nin0)
      have F_104 := F_93.keep Kg186 (ninS (Ne.symm ne_b85_b111) nin0)
      have F_105 := F_94.keep Kg186 (ninS (Ne.symm ne_b85_b111) nin0)
      have Zz_11 : n0 ≤ Tg186.heap.size := Nat.le_trans Zz_10 Kg186.1
      obtain ⟨w186_depth, hw186_depth⟩ : ∃ z : Int32, z = (if w179_depth = (2 : Int32) then w179_depth else (w179_depth + (1 : Int32))) := ⟨_, rfl⟩
      have F_106 : Fld Z Tg186.heap b85 "com/example/wireform/wireform/wire/Nesting" "depth" "I" (.int w186_depth) := by subst hw186_depth; exact F_98
      have Ng186 := Fr.app Ng179 Ng186q
      refine own_st (fun _ k => stg186.trans k) ?_
      refine own_st (B := Tg186.setTop (mkF m 197 #[.val (.int p0), .val (.int p1), .val (.int p2), .val (.int p3), .val (.int p4), .val (.int (2 : Int32)), .val (.int (own_b (¬ ((p1 &&& (1 : Int32)) = (0 : Int32))))), .val (.int (own_b (¬ ((p1 &&& (1 : Int32)) = (0 : Int32))))), .val (.int v43), .val (.int v51), .val (.int (own_b (¬ ((p4 &&& (1 : Int32)) = (0 : Int32)) ∧ (¬ (v51 < (1 : Int32)))))), .val (.ref b74), .val (.ref b85), .val (.ref b111), .val (.int v43), .val (.int j156_l15), .val (.int (own_b (j156_f_b111_position = v43))), .val (.int (own_b (¬ (w160_depth = (2 : Int32))))), .val (.int (own_b (¬ (w172_depth = (2 : Int32))))), .val (.int (own_b (¬ (w179_depth = (2 : Int32)))))] [(.int v43), (.int j156_l15), (.int (own_b (j156_f_b111_position = v43)))])) (fun target kt => ?_) ?_
      · show Steps p.tables e below (Tg186.setTop (mkF m 189 #[.val (.int p0), .val (.int p1), .val (.int p2), .val (.int p3), .val (.int p4), .val (.int (2 : Int32)), .val (.int (own_b (¬ ((p1 &&& (1 : Int32)) = (0 : Int32))))), .val (.int (own_b (¬ ((p1 &&& (1 : Int32)) = (0 : Int32))))), .val (.int v43), .val (.int v51), .val (.int (own_b (¬ ((p4 &&& (1 : Int32)) = (0 : Int32)) ∧ (¬ (v51 < (1 : Int32)))))), .val (.ref b74), .val (.ref b85), .val (.ref b111), .val (.int v43), .val (.int j156_l15), .val (.int (own_b (j156_f_b111_position = v43))), .val (.int (own_b (¬ (w160_depth = (2 : Int32))))), .val (.int (own_b (¬ (w172_depth = (2 : Int32))))), .unset] [(.int (own_b (¬ (w179_depth = (2 : Int32)))))])) target
        refine XS.istore Xg186.here hx rfl (hb hby at_189) rfl (l' := #[.val (.int p0), .val (.int p1), .val (.int p2), .val (.int p3), .val (.int p4), .val (.int (2 : Int32)), .val (.int (own_b (¬ ((p1 &&& (1 : Int32)) = (0 : Int32))))), .val (.int (own_b (¬ ((p1 &&& (1 : Int32)) = (0 : Int32))))), .val (.int v43), .val (.int v51), .val (.int (own_b (¬ ((p4 &&& (1 : Int32)) = (0 : Int32)) ∧ (¬ (v51 < (1 : Int32)))))), .val (.ref b74), .val (.ref b85), .val (.ref b111), .val (.int v43), .val (.int j156_l15), .val (.int (own_b (j156_f_b111_position = v43))), .val (.int (own_b (¬ (w160_depth = (2 : Int32))))), .val (.int (own_b (¬ (w172_depth = (2 : Int32))))), .val (.int (own_b (¬ (w179_depth = (2 : Int32)))))]) rfl ?_
        show Steps p.tables e below (Tg186.setTop (mkF m 191 #[.val (.int p0), .val (.int p1), .val (.int p2), .val (.int p3), .val (.int p4), .val (.int (2 : Int32)), .val (.int (own_b (¬ ((p1 &&& (1 : Int32)) = (0 : Int32))))), .val (.int (own_b (¬ ((p1 &&& (1 : Int32)) = (0 : Int32))))), .val (.int v43), .val (.int v51), .val (.int (own_b (¬ ((p4 &&& (1 : Int32)) = (0 : Int32)) ∧ (¬ (v51 < (1 : Int32)))))), .val (.ref b74), .val (.ref b85), .val (.ref b111), .val (.int v43), .val (.int j156_l15), .val (.int (own_b (j156_f_b111_position = v43))), .val (.int (own_b (¬ (w160_depth = (2 : Int32))))), .val (.int (own_b (¬ (w172_depth = (2 : Int32))))), .val (.int (own_b (¬ (w179_depth = (2 : Int32)))))] [])) target
        refine XS.iload Xg186.here hx rfl (hb hby at_191) rfl ?_
        show Steps p.tables e below (Tg186.setTop (mkF m 193 #[.val (.int p0), .val (.int p1), .val (.int p2), .val (.int p3), .val (.int p4), .val (.int (2 : Int32)), .val (.int (own_b (¬ ((p1 &&& (1 : Int32)) = (0 : Int32))))), .val (.int (own_b (¬ ((p1 &&& (1 : Int32)) = (0 : Int32))))), .val (.int v43), .val (.int v51), .val (.int (own_b (¬ ((p4 &&& (1 : Int32)) = (0 : Int32)) ∧ (¬ (v51 < (1 : Int32)))))), .val (.ref b74), .val (.ref b85), .val (.ref b111), .val (.int v43), .val (.int j156_l15), .val (.int (own_b (j156_f_b111_position = v43))), .val (.int (own_b (¬ (w160_depth = (2 : Int32))))), .val (.int (own_b (¬ (w172_depth = (2 : Int32))))), .val (.int (own_b (¬ (w179_depth = (2 : Int32)))))] [(.int (own_b (j156_f_b111_position = v43)))])) target
        refine XS.iload Xg186.here hx rfl (hb hby at_193) rfl ?_
        show Steps p.tables e below (Tg186.setTop (mkF m 195 #[.val (.int p0), .val (.int p1), .val (.int p2), .val (.int p3), .val (.int p4), .val (.int (2 : Int32)), .val (.int (own_b (¬ ((p1 &&& (1 : Int32)) = (0 : Int32))))), .val (.int (own_b (¬ ((p1 &&& (1 : Int32)) = (0 : Int32))))), .val (.int v43), .val (.int v51), .val (.int (own_b (¬ ((p4 &&& (1 : Int32)) = (0 : Int32)) ∧ (¬ (v51 < (1 : Int32)))))), .val (.ref b74), .val (.ref b85), .val (.ref b111), .val (.int v43), .val (.int j156_l15), .val (.int (own_b (j156_f_b111_position = v43))), .val (.int (own_b (¬ (w160_depth = (2 : Int32))))), .val (.int (own_b (¬ (w172_depth = (2 : Int32))))), .val (.int (own_b (¬ (w179_depth = (2 : Int32)))))] [(.int j156_l15), (.int (own_b (j156_f_b111_position = v43)))])) target
        refine XS.iload Xg186.here hx rfl (hb hby at_195) rfl ?_
        exact kt
      obtain ⟨_, ⟨j205_s0, rfl, rfl⟩, st_M205⟩ : own_Lead p.tables e below (Tg186.setTop (mkF m 197 #[.val (.int p0), .val (.int p1), .val (.int p2), .val (.int p3), .val (.int p4), .val (.int (2 : Int32)), .val (.int (own_b (¬ ((p1 &&& (1 : Int32)) = (0 : Int32))))), .val (.int (own_b (¬ ((p1 &&& (1 : Int32)) = (0 : Int32))))), .val (.int v43), .val (.int v51), .val (.int (own_b (¬ ((p4 &&& (1 : Int32)) = (0 : Int32)) ∧ (¬ (v51 < (1 : Int32)))))), .val (.ref b74), .val (.ref b85), .val (.ref b111), .val (.int v43), .val (.int j156_l15), .val (.int (own_b (j156_f_b111_position = v43))), .val (.int (own_b (¬ (w160_depth = (2 : Int32))))), .val (.int (own_b (¬ (w172_depth = (2 : Int32))))), .val (.int (own_b (¬ (w179_depth = (2 : Int32)))))] [(.int v43), (.int j156_l15), (.int (own_b (j156_f_b111_position = v43)))])) (fun B => ∃ (j205_s0 : Int32), B = Tg186.setTop (mkF m 205 #[.val (.int p0), .val (.int p1), .val (.int p2), .val (.int p3), .val (.int p4), .val (.int (2 : Int32)), .val (.int (own_b (¬ ((p1 &&& (1 : Int32)) = (0 : Int32))))), .val (.int (own_b (¬ ((p1 &&& (1 : Int32)) = (0 : Int32))))), .val (.int v43), .val (.int v51), .val (.int (own_b (¬ ((p4 &&& (1 : Int32)) = (0 : Int32)) ∧ (¬ (v51 < (1 : Int32)))))), .val (.ref b74), .val (.ref b85), .val (.ref b111), .val (.int v43), .val (.int j156_l15), .val (.int (own_b (j156_f_b111_position = v43))), .val (.int (own_b (¬ (w160_depth = (2 : Int32))))), .val (.int (own_b (¬ (w172_depth = (2 : Int32))))), .val (.int (own_b (¬ (w179_depth = (2 : Int32)))))] [(.int j205_s0), (.int (own_b (j156_f_b111_position = v43)))]) ∧ j205_s0 = own_b (j156_l15 = v43)) := by
        by_cases c197 : j156_l15 = v43
        · refine own_st (B := Tg186.setTop (mkF m 205 #[.val (.int p0), .val (.int p1), .val (.int p2), .val (.int p3), .val (.int p4), .val (.int (2 : Int32)), .val (.int (own_b (¬ ((p1 &&& (1 : Int32)) = (0 : Int32))))), .val (.int (own_b (¬ ((p1 &&& (1 : Int32)) = (0 : Int32))))), .val (.int v43), .val (.int v51), .val (.int (own_b (¬ ((p4 &&& (1 : Int32)) = (0 : Int32)) ∧ (¬ (v51 < (1 : Int32)))))), .val (.ref b74), .val (.ref b85), .val (.ref b111), .val (.int v43), .val (.int j156_l15), .val (.int (own_b (j156_f_b111_position = v43))), .val (.int (own_b (¬ (w160_depth = (2 : Int32))))), .val (.int (own_b (¬ (w172_depth = (2 : Int32))))), .val (.int (own_b (¬ (w179_depth = (2 : Int32)))))] [(.int (1 : Int32)), (.int (own_b (j156_f_b111_position = v43)))])) (fun target kt => ?_) ?_
          · show Steps p.tables e below (Tg186.setTop (mkF m 197 #[.val (.int p0), .val (.int p1), .val (.int p2), .val (.int p3), .val (.int p4), .val (.int (2 : Int32)), .val (.int (own_b (¬ ((p1 &&& (1 : Int32)) = (0 : Int32))))), .val (.int (own_b (¬ ((p1 &&& (1 : Int32)) = (0 : Int32))))), .val (.int v43), .val (.int v51), .val (.int (own_b (¬ ((p4 &&& (1 : Int32)) = (0 : Int32)) ∧ (¬ (v51 < (1 : Int32)))))), .val (.ref b74), .val (.ref b85), .val (.ref b111), .val (.int v43), .val (.int j156_l15), .val (.int (own_b (j156_f_b111_position = v43))), .val (.int (own_b (¬ (w160_depth = (2 : Int32))))), .val (.int (own_b (¬ (w172_depth = (2 : Int32))))), .val (.int (own_b (¬ (w179_depth = (2 : Int32)))))] [(.int v43), (.int j156_l15), (.int (own_b (j156_f_b111_position = v43)))])) target
            refine XS.icmpNo Xg186.here hx rfl (hb hby at_197) rfl (teq c197).2 ?_
            show Steps p.tables e below (Tg186.setTop (mkF m 200 #[.val (.int p0), .val (.int p1), .val (.int p2), .val (.int p3), .val (.int p4), .val (.int (2 : Int32)), .val (.int (own_b (¬ ((p1 &&& (1 : Int32)) = (0 : Int32))))), .val (.int (own_b (¬ ((p1 &&& (1 : Int32)) = (0 : Int32))))), .val (.int v43), .val (.int v51), .val (.int (own_b (¬ ((p4 &&& (1 : Int32)) = (0 : Int32)) ∧ (¬ (v51 < (1 : Int32)))))), .val (.ref b74), .val (.ref b85), .val (.ref b111), .val (.int v43), .val (.int j156_l15), .val (.int (own_b (j156_f_b111_position = v43))), .val (.int (own_b (¬ (w160_depth = (2 : Int32))))), .val (.int (own_b (¬ (w172_depth = (2 : Int32))))), .val (.int (own_b (¬ (w179_depth = (2 : Int32)))))] [(.int (own_b (j156_f_b111_position = v43)))])) target
            refine XS.iconst Xg186.here hx rfl (hb hby at_200) ?_
            show Steps p.tables e below (Tg186.setTop (mkF m 201 #[.val (.int p0), .val (.int p1), .val (.int p2), .val (.int p3), .val (.int p4), .val (.int (2 : Int32)), .val (.int (own_b (¬ ((p1 &&& (1 : Int32)) = (0 : Int32))))), .val (.int (own_b (¬ ((p1 &&& (1 : Int32)) = (0 : Int32))))), .val (.int v43), .val (.int v51), .val (.int (own_b (¬ ((p4 &&& (1 : Int32)) = (0 : Int32)) ∧ (¬ (v51 < (1 : Int32)))))), .val (.ref b74), .val (.ref b85), .val (.ref b111), .val (.int v43), .val (.int j156_l15), .val (.int (own_b (j156_f_b111_position = v43))), .val (.int (own_b (¬ (w160_depth = (2 : Int32))))), .val (.int (own_b (¬ (w172_depth = (2 : Int32))))), .val (.int (own_b (¬ (w179_depth = (2 : Int32)))))] [(.int (1 : Int32)), (.int (own_b (j156_f_b111_position = v43)))])) target
            refine XS.goto Xg186.here hx rfl (pc0 := 201) (pc' := 205) rfl (hb hby at_201) (by decide) (by decide) ?_
            exact kt
          exact ⟨_, ⟨(1 : Int32), rfl, (own_b1 c197).symm⟩, fun _ k => k⟩
        · refine own_st (B := Tg186.setTop (mkF m 205 #[.val (.int p0), .val (.int p1), .val (.int p2), .val (.int p3), .val (.int p4), .val (.int (2 : Int32)), .val (.int (own_b (¬ ((p1 &&& (1 : Int32)) = (0 : Int32))))), .val (.int (own_b (¬ ((p1 &&& (1 : Int32)) = (0 : Int32))))), .val (.int v43), .val (.int v51), .val (.int (own_b (¬ ((p4 &&& (1 : Int32)) = (0 : Int32)) ∧ (¬ (v51 < (1 : Int32)))))), .val (.ref b74), .val (.ref b85), .val (.ref b111), .val (.int v43), .val (.int j156_l15), .val (.int (own_b (j156_f_b111_position = v43))), .val (.int (own_b (¬ (w160_depth = (2 : Int32))))), .val (.int (own_b (¬ (w172_depth = (2 : Int32))))), .val (.int (own_b (¬ (w179_depth = (2 : Int32)))))] [(.int (0 : Int32)), (.int (own_b (j156_f_b111_position = v43)))])) (fun target kt => ?_) ?_
          · show Steps p.tables e below (Tg186.setTop (mkF m 197 #[.val (.int p0), .val (.int p1), .val (.int p2), .val (.int p3), .val (.int p4), .val (.int (2 : Int32)), .val (.int (own_b (¬ ((p1 &&& (1 : Int32)) = (0 : Int32))))), .val (.int (own_b (¬ ((p1 &&& (1 : Int32)) = (0 : Int32))))), .val (.int v43), .val (.int v51), .val (.int (own_b (¬ ((p4 &&& (1 : Int32)) = (0 : Int32)) ∧ (¬ (v51 < (1 : Int32)))))), .val (.ref b74), .val (.ref b85), .val (.ref b111), .val (.int v43), .val (.int j156_l15), .val (.int (own_b (j156_f_b111_position = v43))), .val (.int (own_b (¬ (w160_depth = (2 : Int32))))), .val (.int (own_b (¬ (w172_depth = (2 : Int32))))), .val (.int (own_b (¬ (w179_depth = (2 : Int32)))))] [(.int v43), (.int j156_l15), (.int (own_b (j156_f_b111_position = v43)))])) target
            refine XS.icmpYes Xg186.here hx rfl (pc0 := 197) (pc' := 204) rfl (hb hby at_197) rfl (feq c197).2 (by decide) (by decide) ?_
            show Steps p.tables e below (Tg186.setTop (mkF m 204 #[.val (.int p0), .val (.int p1), .val (.int p2), .val (.int p3), .val (.int p4), .val (.int (2 : Int32)), .val (.int (own_b (¬ ((p1 &&& (1 : Int32)) = (0 : Int32))))), .val (.int (own_b (¬ ((p1 &&& (1 : Int32)) = (0 : Int32))))), .val (.int v43), .val (.int v51), .val (.int (own_b (¬ ((p4 &&& (1 : Int32)) = (0 : Int32)) ∧ (¬ (v51 < (1 : Int32)))))), .val (.ref b74), .val (.ref b85), .val (.ref b111), .val (.int v43), .val (.int j156_l15), .val (.int (own_b (j156_f_b111_position = v43))), .val (.int (own_b (¬ (w160_depth = (2 : Int32))))), .val (.int (own_b (¬ (w172_depth = (2 : Int32))))), .val (.int (own_b (¬ (w179_depth = (2 : Int32)))))] [(.int (own_b (j156_f_b111_position = v43)))])) target
            refine XS.iconst Xg186.here hx rfl (hb hby at_204) ?_
            exact kt
          exact ⟨_, ⟨(0 : Int32), rfl, (own_b0 c197).symm⟩, fun _ k => k⟩
      refine own_st st_M205 ?_
      have c205 : (j156_f_b111_position = v43) ↔ (j156_l15 = v43) := by
        rw [hj156_f_b111_position, hj156_l15, hw128_position]
        exact Iff.rfl
      refine own_st (B := Tg186.setTop (mkF m 214 #[.val (.int p0), .val (.int p1), .val (.int p2), .val (.int p3), .val (.int p4), .val (.int (2 : Int32)), .val (.int (own_b (¬ ((p1 &&& (1 : Int32)) = (0 : Int32))))), .val (.int (own_b (¬ ((p1 &&& (1 : Int32)) = (0 : Int32))))), .val (.int v43), .val (.int v51), .val (.int (own_b (¬ ((p4 &&& (1 : Int32)) = (0 : Int32)) ∧ (¬ (v51 < (1 : Int32)))))), .val (.ref b74), .val (.ref b85), .val (.ref b111), .val (.int v43), .val (.int j156_l15), .val (.int (own_b (j156_f_b111_position = v43))), .val (.int (own_b (¬ (w160_depth = (2 : Int32))))), .val (.int (own_b (¬ (w172_depth = (2 : Int32))))), .val (.int (own_b (¬ (w179_depth = (2 : Int32)))))] [(.int (2 : Int32)), (.int (own_b (¬ ((p1 &&& (1 : Int32)) = (0 : Int32))))), (.int (own_b (¬ (w160_depth = (2 : Int32)))))])) (fun target kt => ?_) ?_
      · show Steps p.tables e below (Tg186.setTop (mkF m 205 #[.val (.int p0), .val (.int p1), .val (.int p2), .val (.int p3), .val (.int p4), .val (.int (2 : Int32)), .val (.int (own_b (¬ ((p1 &&& (1 : Int32)) = (0 : Int32))))), .val (.int (own_b (¬ ((p1 &&& (1 : Int32)) = (0 : Int32))))), .val (.int v43), .val (.int v51), .val (.int (own_b (¬ ((p4 &&& (1 : Int32)) = (0 : Int32)) ∧ (¬ (v51 < (1 : Int32)))))), .val (.ref b74), .val (.ref b85), .val (.ref b111), .val (.int v43), .val (.int j156_l15), .val (.int (own_b (j156_f_b111_position = v43))), .val (.int (own_b (¬ (w160_depth = (2 : Int32))))), .val (.int (own_b (¬ (w172_depth = (2 : Int32))))), .val (.int (own_b (¬ (w179_depth = (2 : Int32)))))] [(.int (own_b (j156_l15 = v43))), (.int (own_b (j156_f_b111_position = v43)))])) target
        refine XS.icmpNo Xg186.here hx rfl (hb hby at_205) rfl (teq (own_bb rfl rfl c205)).2 ?_
        show Steps p.tables e below (Tg186.setTop (mkF m 208 #[.val (.int p0), .val (.int p1), .val (.int p2), .val (.int p3), .val (.int p4), .val (.int (2 : Int32)), .val (.int (own_b (¬ ((p1 &&& (1 : Int32)) = (0 : Int32))))), .val (.int (own_b (¬ ((p1 &&& (1 : Int32)) = (0 : Int32))))), .val (.int v43), .val (.int v51), .val (.int (own_b (¬ ((p4 &&& (1 : Int32)) = (0 : Int32)) ∧ (¬ (v51 < (1 : Int32)))))), .val (.ref b74), .val (.ref b85), .val (.ref b111), .val (.int v43), .val (.int j156_l15), .val (.int (own_b (j156_f_b111_position = v43))), .val (.int (own_b (¬ (w160_depth = (2 : Int32))))), .val (.int (own_b (¬ (w172_depth = (2 : Int32))))), .val (.int (own_b (¬ (w179_depth = (2 : Int32)))))] [])) target
        refine XS.iload Xg186.here hx rfl (hb hby at_208) rfl ?_
        show Steps p.tables e below (Tg186.setTop (mkF m 210 #[.val (.int p0), .val (.int p1), .val (.int p2), .val (.int p3), .val (.int p4), .val (.int (2 : Int32)), .val (.int (own_b (¬ ((p1 &&& (1 : Int32)) = (0 : Int32))))), .val (.int (own_b (¬ ((p1 &&& (1 : Int32)) = (0 : Int32))))), .val (.int v43), .val (.int v51), .val (.int (own_b (¬ ((p4 &&& (1 : Int32)) = (0 : Int32)) ∧ (¬ (v51 < (1 : Int32)))))), .val (.ref b74), .val (.ref b85), .val (.ref b111), .val (.int v43), .val (.int j156_l15), .val (.int (own_b (j156_f_b111_position = v43))), .val (.int (own_b (¬ (w160_depth = (2 : Int32))))), .val (.int (own_b (¬ (w172_depth = (2 : Int32))))), .val (.int (own_b (¬ (w179_depth = (2 : Int32)))))] [(.int (own_b (¬ (w160_depth = (2 : Int32)))))])) target
        refine XS.iload Xg186.here hx rfl (hb hby at_210) rfl ?_
        show Steps p.tables e below (Tg186.setTop (mkF m 212 #[.val (.int p0), .val (.int p1), .val (.int p2), .val (.int p3), .val (.int p4), .val (.int (2 : Int32)), .val (.int (own_b (¬ ((p1 &&& (1 : Int32)) = (0 : Int32))))), .val (.int (own_b (¬ ((p1 &&& (1 : Int32)) = (0 : Int32))))), .val (.int v43), .val (.int v51), .val (.int (own_b (¬ ((p4 &&& (1 : Int32)) = (0 : Int32)) ∧ (¬ (v51 < (1 : Int32)))))), .val (.ref b74), .val (.ref b85), .val (.ref b111), .val (.int v43), .val (.int j156_l15), .val (.int (own_b (j156_f_b111_position = v43))), .val (.int (own_b (¬ (w160_depth = (2 : Int32))))), .val (.int (own_b (¬ (w172_depth = (2 : Int32))))), .val (.int (own_b (¬ (w179_depth = (2 : Int32)))))] [(.int (own_b (¬ ((p1 &&& (1 : Int32)) = (0 : Int32))))), (.int (own_b (¬ (w160_depth = (2 : Int32)))))])) target
        refine XS.iload Xg186.here hx rfl (hb hby at_212) rfl ?_
        exact kt
      obtain ⟨_, ⟨j222_s0, rfl, rfl⟩, st_M222⟩ : own_Lead p.tables e below (Tg186.setTop (mkF m 214 #[.val (.int p0), .val (.int p1), .val (.int p2), .val (.int p3), .val (.int p4), .val (.int (2 : Int32)), .val (.int (own_b (¬ ((p1 &&& (1 : Int32)) = (0 : Int32))))), .val (.int (own_b (¬ ((p1 &&& (1 : Int32)) = (0 : Int32))))), .val (.int v43), .val (.int v51), .val (.int (own_b (¬ ((p4 &&& (1 : Int32)) = (0 : Int32)) ∧ (¬ (v51 < (1 : Int32)))))), .val (.ref b74), .val (.ref b85), .val (.ref b111), .val (.int v43), .val (.int j156_l15), .val (.int (own_b (j156_f_b111_position = v43))), .val (.int (own_b (¬ (w160_depth = (2 : Int32))))), .val (.int (own_b (¬ (w172_depth = (2 : Int32))))), .val (.int (own_b (¬ (w179_depth = (2 : Int32)))))] [(.int (2 : Int32)), (.int (own_b (¬ ((p1 &&& (1 : Int32)) = (0 : Int32))))), (.int (own_b (¬ (w160_depth = (2 : Int32)))))])) (fun B => ∃ (j222_s0 : Int32), B = Tg186.setTop (mkF m 222 #[.val (.int p0), .val (.int p1), .val (.int p2), .val (.int p3), .val (.int p4), .val (.int (2 : Int32)), .val (.int (own_b (¬ ((p1 &&& (1 : Int32)) = (0 : Int32))))), .val (.int (own_b (¬ ((p1 &&& (1 : Int32)) = (0 : Int32))))), .val (.int v43), .val (.int v51), .val (.int (own_b (¬ ((p4 &&& (1 : Int32)) = (0 : Int32)) ∧ (¬ (v51 < (1 : Int32)))))), .val (.ref b74), .val (.ref b85), .val (.ref b111), .val (.int v43), .val (.int j156_l15), .val (.int (own_b (j156_f_b111_position = v43))), .val (.int (own_b (¬ (w160_depth = (2 : Int32))))), .val (.int (own_b (¬ (w172_depth = (2 : Int32))))), .val (.int (own_b (¬ (w179_depth = (2 : Int32)))))] [(.int j222_s0), (.int (own_b (¬ (w160_depth = (2 : Int32)))))]) ∧ j222_s0 = own_b ((own_b (¬ ((p1 &&& (1 : Int32)) = (0 : Int32)))) < (2 : Int32))) := by
        by_cases c214 : (own_b (¬ ((p1 &&& (1 : Int32)) = (0 : Int32)))) < (2 : Int32)
        · refine own_st (B := Tg186.setTop (mkF m 222 #[.val (.int p0), .val (.int p1), .val (.int p2), .val (.int p3), .val (.int p4), .val (.int (2 : Int32)), .val (.int (own_b (¬ ((p1 &&& (1 : Int32)) = (0 : Int32))))), .val (.int (own_b (¬ ((p1 &&& (1 : Int32)) = (0 : Int32))))), .val (.int v43), .val (.int v51), .val (.int (own_b (¬ ((p4 &&& (1 : Int32)) = (0 : Int32)) ∧ (¬ (v51 < (1 : Int32)))))), .val (.ref b74), .val (.ref b85), .val (.ref b111), .val (.int v43), .val (.int j156_l15), .val (.int (own_b (j156_f_b111_position = v43))), .val (.int (own_b (¬ (w160_depth = (2 : Int32))))), .val (.int (own_b (¬ (w172_depth = (2 : Int32))))), .val (.int (own_b (¬ (w179_depth = (2 : Int32)))))] [(.int (1 : Int32)), (.int (own_b (¬ (w160_depth = (2 : Int32)))))])) (fun target kt => ?_) ?_
          · show Steps p.tables e below (Tg186.setTop (mkF m 214 #[.val (.int p0), .val (.int p1), .val (.int p2), .val (.int p3), .val (.int p4), .val (.int (2 : Int32)), .val (.int (own_b (¬ ((p1 &&& (1 : Int32)) = (0 : Int32))))), .val (.int (own_b (¬ ((p1 &&& (1 : Int32)) = (0 : Int32))))), .val (.int v43), .val (.int v51), .val (.int (own_b (¬ ((p4 &&& (1 : Int32)) = (0 : Int32)) ∧ (¬ (v51 < (1 : Int32)))))), .val (.ref b74), .val (.ref b85), .val (.ref b111), .val (.int v43), .val (.int j156_l15), .val (.int (own_b (j156_f_b111_position = v43))), .val (.int (own_b (¬ (w160_depth = (2 : Int32))))), .val (.int (own_b (¬ (w172_depth = (2 : Int32))))), .val (.int (own_b (¬ (w179_depth = (2 : Int32)))))] [(.int (2 : Int32)), (.int (own_b (¬ ((p1 &&& (1 : Int32)) = (0 : Int32))))), (.int (own_b (¬ (w160_depth = (2 : Int32)))))])) target
            refine XS.icmpNo Xg186.here hx rfl (hb hby at_214) rfl (tlt c214).2.1 ?_
            show Steps p.tables e below (Tg186.setTop (mkF m 217 #[.val (.int p0), .val (.int p1), .val (.int p2), .val (.int p3), .val (.int p4), .val (.int (2 : Int32)), .val (.int (own_b (¬ ((p1 &&& (1 : Int32)) = (0 : Int32))))), .val (.int (own_b (¬ ((p1 &&& (1 : Int32)) = (0 : Int32))))), .val (.int v43), .val (.int v51), .val (.int (own_b (¬ ((p4 &&& (1 : Int32)) = (0 : Int32)) ∧ (¬ (v51 < (1 : Int32)))))), .val (.ref b74), .val (.ref b85), .val (.ref b111), .val (.int v43), .val (.int j156_l15), .val (.int (own_b (j156_f_b111_position = v43))), .val (.int (own_b (¬ (w160_depth = (2 : Int32))))), .val (.int (own_b (¬ (w172_depth = (2 : Int32))))), .val (.int (own_b (¬ (w179_depth = (2 : Int32)))))] [(.int (own_b (¬ (w160_depth = (2 : Int32)))))])) target
            refine XS.iconst Xg186.here hx rfl (hb hby at_217) ?_
            show Steps p.tables e below (Tg186.setTop (mkF m 218 #[.val (.int p0), .val (.int p1), .val (.int p2), .val (.int p3), .val (.int p4), .val (.int (2 : Int32)), .val (.int (own_b (¬ ((p1 &&& (1 : Int32)) = (0 : Int32))))), .val (.int (own_b (¬ ((p1 &&& (1 : Int32)) = (0 : Int32))))), .val (.int v43), .val (.int v51), .val (.int (own_b (¬ ((p4 &&& (1 : Int32)) = (0 : Int32)) ∧ (¬ (v51 < (1 : Int32)))))), .val (.ref b74), .val (.ref b85), .val (.ref b111), .val (.int v43), .val (.int j156_l15), .val (.int (own_b (j156_f_b111_position = v43))), .val (.int (own_b (¬ (w160_depth = (2 : Int32))))), .val (.int (own_b (¬ (w172_depth = (2 : Int32))))), .val (.int (own_b (¬ (w179_depth = (2 : Int32)))))] [(.int (1 : Int32)), (.int (own_b (¬ (w160_depth = (2 : Int32)))))])) target
            refine XS.goto Xg186.here hx rfl (pc0 := 218) (pc' := 222) rfl (hb hby at_218) (by decide) (by decide) ?_
            exact kt
          exact ⟨_, ⟨(1 : Int32), rfl, (own_b1 c214).symm⟩, fun _ k => k⟩
        · refine own_st (B := Tg186.setTop (mkF m 222 #[.val (.int p0), .val (.int p1), .val (.int p2), .val (.int p3), .val (.int p4), .val (.int (2 : Int32)), .val (.int (own_b (¬ ((p1 &&& (1 : Int32)) = (0 : Int32))))), .val (.int (own_b (¬ ((p1 &&& (1 : Int32)) = (0 : Int32))))), .val (.int v43), .val (.int v51), .val (.int (own_b (¬ ((p4 &&& (1 : Int32)) = (0 : Int32)) ∧ (¬ (v51 < (1 : Int32)))))), .val (.ref b74), .val (.ref b85), .val (.ref b111), .val (.int v43), .val (.int j156_l15), .val (.int (own_b (j156_f_b111_position = v43))), .val (.int (own_b (¬ (w160_depth = (2 : Int32))))), .val (.int (own_b (¬ (w172_depth = (2 : Int32))))), .val (.int (own_b (¬ (w179_depth = (2 : Int32)))))] [(.int (0 : Int32)), (.int (own_b (¬ (w160_depth = (2 : Int32)))))])) (fun target kt => ?_) ?_
          · show Steps p.tables e below (Tg186.setTop (mkF m 214 #[.val (.int p0), .val (.int p1), .val (.int p2), .val (.int p3), .val (.int p4), .val (.int (2 : Int32)), .val (.int (own_b (¬ ((p1 &&& (1 : Int32)) = (0 : Int32))))), .val (.int (own_b (¬ ((p1 &&& (1 : Int32)) = (0 : Int32))))), .val (.int v43), .val (.int v51), .val (.int (own_b (¬ ((p4 &&& (1 : Int32)) = (0 : Int32)) ∧ (¬ (v51 < (1 : Int32)))))), .val (.ref b74), .val (.ref b85), .val (.ref b111), .val (.int v43), .val (.int j156_l15), .val (.int (own_b (j156_f_b111_position = v43))), .val (.int (own_b (¬ (w160_depth = (2 : Int32))))), .val (.int (own_b (¬ (w172_depth = (2 : Int32))))), .val (.int (own_b (¬ (w179_depth = (2 : Int32)))))] [(.int (2 : Int32)), (.int (own_b (¬ ((p1 &&& (1 : Int32)) = (0 : Int32))))), (.int (own_b (¬ (w160_depth = (2 : Int32)))))])) target
            refine XS.icmpYes Xg186.here hx rfl (pc0 := 214) (pc' := 221) rfl (hb hby at_214) rfl (flt c214).2.1 (by decide) (by decide) ?_
            show Steps p.tables e below (Tg186.setTop (mkF m 221 #[.val (.int p0), .val (.int p1), .val (.int p2), .val (.int p3), .val (.int p4), .val (.int (2 : Int32)), .val (.int (own_b (¬ ((p1 &&& (1 : Int32)) = (0 : Int32))))), .val (.int (own_b (¬ ((p1 &&& (1 : Int32)) = (0 : Int32))))), .val (.int v43), .val (.int v51), .val (.int (own_b (¬ ((p4 &&& (1 : Int32)) = (0 : Int32)) ∧ (¬ (v51 < (1 : Int32)))))), .val (.ref b74), .val (.ref b85), .val (.ref b111), .val (.int v43), .val (.int j156_l15), .val (.int (own_b (j156_f_b111_position = v43))), .val (.int (own_b (¬ (w160_depth = (2 : Int32))))), .val (.int (own_b (¬ (w172_depth = (2 : Int32))))), .val (.int (own_b (¬ (w179_depth = (2 : Int32)))))] [(.int (own_b (¬ (w160_depth = (2 : Int32)))))])) target
            refine XS.iconst Xg186.here hx rfl (hb hby at_221) ?_
            exact kt
          exact ⟨_, ⟨(0 : Int32), rfl, (own_b0 c214).symm⟩, fun _ k => k⟩
      refine own_st st_M222 ?_
      have c222 : (¬ (w160_depth = (2 : Int32))) ↔ ((own_b (¬ ((p1 &&& (1 : Int32)) = (0 : Int32)))) < (2 : Int32)) := by
        simp only [own_b0 c98, hw186_depth, hw179_depth, hw172_depth, hw160_depth, hw128_depth]
        decide
      refine own_st (B := Tg186.setTop (mkF m 233 #[.val (.int p0), .val (.int p1), .val (.int p2), .val (.int p3), .val (.int p4), .val (.int (2 : Int32)), .val (.int (own_b (¬ ((p1 &&& (1 : Int32)) = (0 : Int32))))), .val (.int (own_b (¬ ((p1 &&& (1 : Int32)) = (0 : Int32))))), .val (.int v43), .val (.int v51), .val (.int (own_b (¬ ((p4 &&& (1 : Int32)) = (0 : Int32)) ∧ (¬ (v51 < (1 : Int32)))))), .val (.ref b74), .val (.ref b85), .val (.ref b111), .val (.int v43), .val (.int j156_l15), .val (.int (own_b (j156_f_b111_position = v43))), .val (.int (own_b (¬ (w160_depth = (2 : Int32))))), .val (.int (own_b (¬ (w172_depth = (2 : Int32))))), .val (.int (own_b (¬ (w179_depth = (2 : Int32)))))] [(.int (2 : Int32)), (.int ((own_b (¬ ((p1 &&& (1 : Int32)) = (0 : Int32)))) + (1 : Int32))), (.int (own_b (¬ (w172_depth = (2 : Int32)))))])) (fun target kt => ?_) ?_
      · show Steps p.tables e below (Tg186.setTop (mkF m 222 #[.val (.int p0), .val (.int p1), .val (.int p2), .val (.int p3), .val (.int p4), .val (.int (2 : Int32)), .val (.int (own_b (¬ ((p1 &&& (1 : Int32)) = (0 : Int32))))), .val (.int (own_b (¬ ((p1 &&& (1 : Int32)) = (0 : Int32))))), .val (.int v43), .val (.int v51), .val (.int (own_b (¬ ((p4 &&& (1 : Int32)) = (0 : Int32)) ∧ (¬ (v51 < (1 : Int32)))))), .val (.ref b74), .val (.ref b85), .val (.ref b111), .val (.int v43), .val (.int j156_l15), .val (.int (own_b (j156_f_b111_position = v43))), .val (.int (own_b (¬ (w160_depth = (2 : Int32))))), .val (.int (own_b (¬ (w172_depth = (2 : Int32))))), .val (.int (own_b (¬ (w179_depth = (2 : Int32)))))] [(.int (own_b ((own_b (¬ ((p1 &&& (1 : Int32)) = (0 : Int32)))) < (2 : Int32)))), (.int (own_b (¬ (w160_depth = (2 : Int32)))))])) target
        refine XS.icmpNo Xg186.here hx rfl (hb hby at_222) rfl (teq (own_bb rfl rfl c222)).2 ?_
        show Steps p.tables e below (Tg186.setTop (mkF m 225 #[.val (.int p0), .val (.int p1), .val (.int p2), .val (.int p3), .val (.int p4), .val (.int (2 : Int32)), .val (.int (own_b (¬ ((p1 &&& (1 : Int32)) = (0 : Int32))))), .val (.int (own_b (¬ ((p1 &&& (1 : Int32)) = (0 : Int32))))), .val (.int v43), .val (.int v51), .val (.int (own_b (¬ ((p4 &&& (1 : Int32)) = (0 : Int32)) ∧ (¬ (v51 < (1 : Int32)))))), .val (.ref b74), .val (.ref b85), .val (.ref b111), .val (.int v43), .val (.int j156_l15), .val (.int (own_b (j156_f_b111_position = v43))), .val (.int (own_b (¬ (w160_depth = (2 : Int32))))), .val (.int (own_b (¬ (w172_depth = (2 : Int32))))), .val (.int (own_b (¬ (w179_depth = (2 : Int32)))))] [])) target
        refine XS.iload Xg186.here hx rfl (hb hby at_225) rfl ?_
        show Steps p.tables e below (Tg186.setTop (mkF m 227 #[.val (.int p0), .val (.int p1), .val (.int p2), .val (.int p3), .val (.int p4), .val (.int (2 : Int32)), .val (.int (own_b (¬ ((p1 &&& (1 : Int32)) = (0 : Int32))))), .val (.int (own_b (¬ ((p1 &&& (1 : Int32)) = (0 : Int32))))), .val (.int v43), .val (.int v51), .val (.int (own_b (¬ ((p4 &&& (1 : Int32)) = (0 : Int32)) ∧ (¬ (v51 < (1 : Int32)))))), .val (.ref b74), .val (.ref b85), .val (.ref b111), .val (.int v43), .val (.int j156_l15), .val (.int (own_b (j156_f_b111_position = v43))), .val (.int (own_b (¬ (w160_depth = (2 : Int32))))), .val (.int (own_b (¬ (w172_depth = (2 : Int32))))), .val (.int (own_b (¬ (w179_depth = (2 : Int32)))))] [(.int (own_b (¬ (w172_depth = (2 : Int32)))))])) target
        refine XS.iload Xg186.here hx rfl (hb hby at_227) rfl ?_
        show Steps p.tables e below (Tg186.setTop (mkF m 229 #[.val (.int p0), .val (.int p1), .val (.int p2), .val (.int p3), .val (.int p4), .val (.int (2 : Int32)), .val (.int (own_b (¬ ((p1 &&& (1 : Int32)) = (0 : Int32))))), .val (.int (own_b (¬ ((p1 &&& (1 : Int32)) = (0 : Int32))))), .val (.int v43), .val (.int v51), .val (.int (own_b (¬ ((p4 &&& (1 : Int32)) = (0 : Int32)) ∧ (¬ (v51 < (1 : Int32)))))), .val (.ref b74), .val (.ref b85), .val (.ref b111), .val (.int v43), .val (.int j156_l15), .val (.int (own_b (j156_f_b111_position = v43))), .val (.int (own_b (¬ (w160_depth = (2 : Int32))))), .val (.int (own_b (¬ (w172_depth = (2 : Int32))))), .val (.int (own_b (¬ (w179_depth = (2 : Int32)))))] [(.int (own_b (¬ ((p1 &&& (1 : Int32)) = (0 : Int32))))), (.int (own_b (¬ (w172_depth = (2 : Int32)))))])) target
        refine XS.iconst Xg186.here hx rfl (hb hby at_229) ?_
        show Steps p.tables e below (Tg186.setTop (mkF m 230 #[.val (.int p0), .val (.int p1), .val (.int p2), .val (.int p3), .val (.int p4), .val (.int (2 : Int32)), .val (.int (own_b (¬ ((p1 &&& (1 : Int32)) = (0 : Int32))))), .val (.int (own_b (¬ ((p1 &&& (1 : Int32)) = (0 : Int32))))), .val (.int v43), .val (.int v51), .val (.int (own_b (¬ ((p4 &&& (1 : Int32)) = (0 : Int32)) ∧ (¬ (v51 < (1 : Int32)))))), .val (.ref b74), .val (.ref b85), .val (.ref b111), .val (.int v43), .val (.int j156_l15), .val (.int (own_b (j156_f_b111_position = v43))), .val (.int (own_b (¬ (w160_depth = (2 : Int32))))), .val (.int (own_b (¬ (w172_depth = (2 : Int32))))), .val (.int (own_b (¬ (w179_depth = (2 : Int32)))))] [(.int (1 : Int32)), (.int (own_b (¬ ((p1 &&& (1 : Int32)) = (0 : Int32))))), (.int (own_b (¬ (w172_depth = (2 : Int32)))))])) target
        refine XS.iadd Xg186.here hx rfl (hb hby at_230) rfl ?_
        show Steps p.tables e below (Tg186.setTop (mkF m 231 #[.val (.int p0), .val (.int p1), .val (.int p2), .val (.int p3), .val (.int p4), .val (.int (2 : Int32)), .val (.int (own_b (¬ ((p1 &&& (1 : Int32)) = (0 : Int32))))), .val (.int (own_b (¬ ((p1 &&& (1 : Int32)) = (0 : Int32))))), .val (.int v43), .val (.int v51), .val (.int (own_b (¬ ((p4 &&& (1 : Int32)) = (0 : Int32)) ∧ (¬ (v51 < (1 : Int32)))))), .val (.ref b74), .val (.ref b85), .val (.ref b111), .val (.int v43), .val (.int j156_l15), .val (.int (own_b (j156_f_b111_position = v43))), .val (.int (own_b (¬ (w160_depth = (2 : Int32))))), .val (.int (own_b (¬ (w172_depth = (2 : Int32))))), .val (.int (own_b (¬ (w179_depth = (2 : Int32)))))] [(.int ((own_b (¬ ((p1 &&& (1 : Int32)) = (0 : Int32)))) + (1 : Int32))), (.int (own_b (¬ (w172_depth = (2 : Int32)))))])) target
        refine XS.iload Xg186.here hx rfl (hb hby at_231) rfl ?_
        exact kt
      obtain ⟨_, ⟨j241_s0, rfl, rfl⟩, st_M241⟩ : own_Lead p.tables e below (Tg186.setTop (mkF m 233 #[.val (.int p0), .val (.int p1), .val (.int p2), .val (.int p3), .val (.int p4), .val (.int (2 : Int32)), .val (.int (own_b (¬ ((p1 &&& (1 : Int32)) = (0 : Int32))))), .val (.int (own_b (¬ ((p1 &&& (1 : Int32)) = (0 : Int32))))), .val (.int v43), .val (.int v51), .val (.int (own_b (¬ ((p4 &&& (1 : Int32)) = (0 : Int32)) ∧ (¬ (v51 < (1 : Int32)))))), .val (.ref b74), .val (.ref b85), .val (.ref b111), .val (.int v43), .val (.int j156_l15), .val (.int (own_b (j156_f_b111_position = v43))), .val (.int (own_b (¬ (w160_depth = (2 : Int32))))), .val (.int (own_b (¬ (w172_depth = (2 : Int32))))), .val (.int (own_b (¬ (w179_depth = (2 : Int32)))))] [(.int (2 : Int32)), (.int ((own_b (¬ ((p1 &&& (1 : Int32)) = (0 : Int32)))) + (1 : Int32))), (.int (own_b (¬ (w172_depth = (2 : Int32)))))])) (fun B => ∃ (j241_s0 : Int32), B = Tg186.setTop (mkF m 241 #[.val (.int p0), .val (.int p1), .val (.int p2), .val (.int p3), .val (.int p4), .val (.int (2 : Int32)), .val (.int (own_b (¬ ((p1 &&& (1 : Int32)) = (0 : Int32))))), .val (.int (own_b (¬ ((p1 &&& (1 : Int32)) = (0 : Int32))))), .val (.int v43), .val (.int v51), .val (.int (own_b (¬ ((p4 &&& (1 : Int32)) = (0 : Int32)) ∧ (¬ (v51 < (1 : Int32)))))), .val (.ref b74), .val (.ref b85), .val (.ref b111), .val (.int v43), .val (.int j156_l15), .val (.int (own_b (j156_f_b111_position = v43))), .val (.int (own_b (¬ (w160_depth = (2 : Int32))))), .val (.int (own_b (¬ (w172_depth = (2 : Int32))))), .val (.int (own_b (¬ (w179_depth = (2 : Int32)))))] [(.int j241_s0), (.int (own_b (¬ (w172_depth = (2 : Int32)))))]) ∧ j241_s0 = own_b (((own_b (¬ ((p1 &&& (1 : Int32)) = (0 : Int32)))) + (1 : Int32)) < (2 : Int32))) := by
        by_cases c233 : ((own_b (¬ ((p1 &&& (1 : Int32)) = (0 : Int32)))) + (1 : Int32)) < (2 : Int32)
        · refine own_st (B := Tg186.setTop (mkF m 241 #[.val (.int p0), .val (.int p1), .val (.int p2), .val (.int p3), .val (.int p4), .val (.int (2 : Int32)), .val (.int (own_b (¬ ((p1 &&& (1 : Int32)) = (0 : Int32))))), .val (.int (own_b (¬ ((p1 &&& (1 : Int32)) = (0 : Int32))))), .val (.int v43), .val (.int v51), .val (.int (own_b (¬ ((p4 &&& (1 : Int32)) = (0 : Int32)) ∧ (¬ (v51 < (1 : Int32)))))), .val (.ref b74), .val (.ref b85), .val (.ref b111), .val (.int v43), .val (.int j156_l15), .val (.int (own_b (j156_f_b111_position = v43))), .val (.int (own_b (¬ (w160_depth = (2 : Int32))))), .val (.int (own_b (¬ (w172_depth = (2 : Int32))))), .val (.int (own_b (¬ (w179_depth = (2 : Int32)))))] [(.int (1 : Int32)), (.int (own_b (¬ (w172_depth = (2 : Int32)))))])) (fun target kt => ?_) ?_
          · show Steps p.tables e below (Tg186.setTop (mkF m 233 #[.val (.int p0), .val (.int p1), .val (.int p2), .val (.int p3), .val (.int p4), .val (.int (2 : Int32)), .val (.int (own_b (¬ ((p1 &&& (1 : Int32)) = (0 : Int32))))), .val (.int (own_b (¬ ((p1 &&& (1 : Int32)) = (0 : Int32))))), .val (.int v43), .val (.int v51), .val (.int (own_b (¬ ((p4 &&& (1 : Int32)) = (0 : Int32)) ∧ (¬ (v51 < (1 : Int32)))))), .val (.ref b74), .val (.ref b85), .val (.ref b111), .val (.int v43), .val (.int j156_l15), .val (.int (own_b (j156_f_b111_position = v43))), .val (.int (own_b (¬ (w160_depth = (2 : Int32))))), .val (.int (own_b (¬ (w172_depth = (2 : Int32))))), .val (.int (own_b (¬ (w179_depth = (2 : Int32)))))] [(.int (2 : Int32)), (.int ((own_b (¬ ((p1 &&& (1 : Int32)) = (0 : Int32)))) + (1 : Int32))), (.int (own_b (¬ (w172_depth = (2 : Int32)))))])) target
            refine XS.icmpNo Xg186.here hx rfl (hb hby at_233) rfl (tlt c233).2.1 ?_
            show Steps p.tables e below (Tg186.setTop (mkF m 236 #[.val (.int p0), .val (.int p1), .val (.int p2), .val (.int p3), .val (.int p4), .val (.int (2 : Int32)), .val (.int (own_b (¬ ((p1 &&& (1 : Int32)) = (0 : Int32))))), .val (.int (own_b (¬ ((p1 &&& (1 : Int32)) = (0 : Int32))))), .val (.int v43), .val (.int v51), .val (.int (own_b (¬ ((p4 &&& (1 : Int32)) = (0 : Int32)) ∧ (¬ (v51 < (1 : Int32)))))), .val (.ref b74), .val (.ref b85), .val (.ref b111), .val (.int v43), .val (.int j156_l15), .val (.int (own_b (j156_f_b111_position = v43))), .val (.int (own_b (¬ (w160_depth = (2 : Int32))))), .val (.int (own_b (¬ (w172_depth = (2 : Int32))))), .val (.int (own_b (¬ (w179_depth = (2 : Int32)))))] [(.int (own_b (¬ (w172_depth = (2 : Int32)))))])) target
            refine XS.iconst Xg186.here hx rfl (hb hby at_236) ?_
            show Steps p.tables e below (Tg186.setTop (mkF m 237 #[.val (.int p0), .val (.int p1), .val (.int p2), .val (.int p3), .val (.int p4), .val (.int (2 : Int32)), .val (.int (own_b (¬ ((p1 &&& (1 : Int32)) = (0 : Int32))))), .val (.int (own_b (¬ ((p1 &&& (1 : Int32)) = (0 : Int32))))), .val (.int v43), .val (.int v51), .val (.int (own_b (¬ ((p4 &&& (1 : Int32)) = (0 : Int32)) ∧ (¬ (v51 < (1 : Int32)))))), .val (.ref b74), .val (.ref b85), .val (.ref b111), .val (.int v43), .val (.int j156_l15), .val (.int (own_b (j156_f_b111_position = v43))), .val (.int (own_b (¬ (w160_depth = (2 : Int32))))), .val (.int (own_b (¬ (w172_depth = (2 : Int32))))), .val (.int (own_b (¬ (w179_depth = (2 : Int32)))))] [(.int (1 : Int32)), (.int (own_b (¬ (w172_depth = (2 : Int32)))))])) target
            refine XS.goto Xg186.here hx rfl (pc0 := 237) (pc' := 241) rfl (hb hby at_237) (by decide) (by decide) ?_
            exact kt
          exact ⟨_, ⟨(1 : Int32), rfl, (own_b1 c233).symm⟩, fun _ k => k⟩
        · refine own_st (B := Tg186.setTop (mkF m 241 #[.val (.int p0), .val (.int p1), .val (.int p2), .val (.int p3), .val (.int p4), .val (.int (2 : Int32)), .val (.int (own_b (¬ ((p1 &&& (1 : Int32)) = (0 : Int32))))), .val (.int (own_b (¬ ((p1 &&& (1 : Int32)) = (0 : Int32))))), .val (.int v43), .val (.int v51), .val (.int (own_b (¬ ((p4 &&& (1 : Int32)) = (0 : Int32)) ∧ (¬ (v51 < (1 : Int32)))))), .val (.ref b74), .val (.ref b85), .val (.ref b111), .val (.int v43), .val (.int j156_l15), .val (.int (own_b (j156_f_b111_position = v43))), .val (.int (own_b (¬ (w160_depth = (2 : Int32))))), .val (.int (own_b (¬ (w172_depth = (2 : Int32))))), .val (.int (own_b (¬ (w179_depth = (2 : Int32)))))] [(.int (0 : Int32)), (.int (own_b (¬ (w172_depth = (2 : Int32)))))])) (fun target kt => ?_) ?_
          · show Steps p.tables e below (Tg186.setTop (mkF m 233 #[.val (.int p0), .val (.int p1), .val (.int p2), .val (.int p3), .val (.int p4), .val (.int (2 : Int32)), .val (.int (own_b (¬ ((p1 &&& (1 : Int32)) = (0 : Int32))))), .val (.int (own_b (¬ ((p1 &&& (1 : Int32)) = (0 : Int32))))), .val (.int v43), .val (.int v51), .val (.int (own_b (¬ ((p4 &&& (1 : Int32)) = (0 : Int32)) ∧ (¬ (v51 < (1 : Int32)))))), .val (.ref b74), .val (.ref b85), .val (.ref b111), .val (.int v43), .val (.int j156_l15), .val (.int (own_b (j156_f_b111_position = v43))), .val (.int (own_b (¬ (w160_depth = (2 : Int32))))), .val (.int (own_b (¬ (w172_depth = (2 : Int32))))), .val (.int (own_b (¬ (w179_depth = (2 : Int32)))))] [(.int (2 : Int32)), (.int ((own_b (¬ ((p1 &&& (1 : Int32)) = (0 : Int32)))) + (1 : Int32))), (.int (own_b (¬ (w172_depth = (2 : Int32)))))])) target
            refine XS.icmpYes Xg186.here hx rfl (pc0 := 233) (pc' := 240) rfl (hb hby at_233) rfl (flt c233).2.1 (by decide) (by decide) ?_
            show Steps p.tables e below (Tg186.setTop (mkF m 240 #[.val (.int p0), .val (.int p1), .val (.int p2), .val (.int p3), .val (.int p4), .val (.int (2 : Int32)), .val (.int (own_b (¬ ((p1 &&& (1 : Int32)) = (0 : Int32))))), .val (.int (own_b (¬ ((p1 &&& (1 : Int32)) = (0 : Int32))))), .val (.int v43), .val (.int v51), .val (.int (own_b (¬ ((p4 &&& (1 : Int32)) = (0 : Int32)) ∧ (¬ (v51 < (1 : Int32)))))), .val (.ref b74), .val (.ref b85), .val (.ref b111), .val (.int v43), .val (.int j156_l15), .val (.int (own_b (j156_f_b111_position = v43))), .val (.int (own_b (¬ (w160_depth = (2 : Int32))))), .val (.int (own_b (¬ (w172_depth = (2 : Int32))))), .val (.int (own_b (¬ (w179_depth = (2 : Int32)))))] [(.int (own_b (¬ (w172_depth = (2 : Int32)))))])) target
            refine XS.iconst Xg186.here hx rfl (hb hby at_240) ?_
            exact kt
          exact ⟨_, ⟨(0 : Int32), rfl, (own_b0 c233).symm⟩, fun _ k => k⟩
      refine own_st st_M241 ?_
      have c241 : (¬ (w172_depth = (2 : Int32))) ↔ (((own_b (¬ ((p1 &&& (1 : Int32)) = (0 : Int32)))) + (1 : Int32)) < (2 : Int32)) := by
        simp only [own_b0 c98, hw186_depth, hw179_depth, hw172_depth, hw160_depth, hw128_depth]
        decide
      refine own_st (B := Tg186.setTop (mkF m 252 #[.val (.int p0), .val (.int p1), .val (.int p2), .val (.int p3), .val (.int p4), .val (.int (2 : Int32)), .val (.int (own_b (¬ ((p1 &&& (1 : Int32)) = (0 : Int32))))), .val (.int (own_b (¬ ((p1 &&& (1 : Int32)) = (0 : Int32))))), .val (.int v43), .val (.int v51), .val (.int (own_b (¬ ((p4 &&& (1 : Int32)) = (0 : Int32)) ∧ (¬ (v51 < (1 : Int32)))))), .val (.ref b74), .val (.ref b85), .val (.ref b111), .val (.int v43), .val (.int j156_l15), .val (.int (own_b (j156_f_b111_position = v43))), .val (.int (own_b (¬ (w160_depth = (2 : Int32))))), .val (.int (own_b (¬ (w172_depth = (2 : Int32))))), .val (.int (own_b (¬ (w179_depth = (2 : Int32)))))] [(.int (2 : Int32)), (.int ((own_b (¬ ((p1 &&& (1 : Int32)) = (0 : Int32)))) + (2 : Int32))), (.int (own_b (¬ (w179_depth = (2 : Int32)))))])) (fun target kt => ?_) ?_
      · show Steps p.tables e below (Tg186.setTop (mkF m 241 #[.val (.int p0), .val (.int p1), .val (.int p2), .val (.int p3), .val (.int p4), .val (.int (2 : Int32)), .val (.int (own_b (¬ ((p1 &&& (1 : Int32)) = (0 : Int32))))), .val (.int (own_b (¬ ((p1 &&& (1 : Int32)) = (0 : Int32))))), .val (.int v43), .val (.int v51), .val (.int (own_b (¬ ((p4 &&& (1 : Int32)) = (0 : Int32)) ∧ (¬ (v51 < (1 : Int32)))))), .val (.ref b74), .val (.ref b85), .val (.ref b111), .val (.int v43), .val (.int j156_l15), .val (.int (own_b (j156_f_b111_position = v43))), .val (.int (own_b (¬ (w160_depth = (2 : Int32))))), .val (.int (own_b (¬ (w172_depth = (2 : Int32))))), .val (.int (own_b (¬ (w179_depth = (2 : Int32)))))] [(.int (own_b (((own_b (¬ ((p1 &&& (1 : Int32)) = (0 : Int32)))) + (1 : Int32)) < (2 : Int32)))), (.int (own_b (¬ (w172_depth = (2 : Int32)))))])) target
        refine XS.icmpNo Xg186.here hx rfl (hb hby at_241) rfl (teq (own_bb rfl rfl c241)).2 ?_
        show Steps p.tables e below (Tg186.setTop (mkF m 244 #[.val (.int p0), .val (.int p1), .val (.int p2), .val (.int p3), .val (.int p4), .val (.int (2 : Int32)), .val (.int (own_b (¬ ((p1 &&& (1 : Int32)) = (0 : Int32))))), .val (.int (own_b (¬ ((p1 &&& (1 : Int32)) = (0 : Int32))))), .val (.int v43), .val (.int v51), .val (.int (own_b (¬ ((p4 &&& (1 : Int32)) = (0 : Int32)) ∧ (¬ (v51 < (1 : Int32)))))), .val (.ref b74), .val (.ref b85), .val (.ref b111), .val (.int v43), .val (.int j156_l15), .val (.int (own_b (j156_f_b111_position = v43))), .val (.int (own_b (¬ (w160_depth = (2 : Int32))))), .val (.int (own_b (¬ (w172_depth = (2 : Int32))))), .val (.int (own_b (¬ (w179_depth = (2 : Int32)))))] [])) target
        refine XS.iload Xg186.here hx rfl (hb hby at_244) rfl ?_
        show Steps p.tables e below (Tg186.setTop (mkF m 246 #[.val (.int p0), .val (.int p1), .val (.int p2), .val (.int p3), .val (.int p4), .val (.int (2 : Int32)), .val (.int (own_b (¬ ((p1 &&& (1 : Int32)) = (0 : Int32))))), .val (.int (own_b (¬ ((p1 &&& (1 : Int32)) = (0 : Int32))))), .val (.int v43), .val (.int v51), .val (.int (own_b (¬ ((p4 &&& (1 : Int32)) = (0 : Int32)) ∧ (¬ (v51 < (1 : Int32)))))), .val (.ref b74), .val (.ref b85), .val (.ref b111), .val (.int v43), .val (.int j156_l15), .val (.int (own_b (j156_f_b111_position = v43))), .val (.int (own_b (¬ (w160_depth = (2 : Int32))))), .val (.int (own_b (¬ (w172_depth = (2 : Int32))))), .val (.int (own_b (¬ (w179_depth = (2 : Int32)))))] [(.int (own_b (¬ (w179_depth = (2 : Int32)))))])) target
        refine XS.iload Xg186.here hx rfl (hb hby at_246) rfl ?_
        show Steps p.tables e below (Tg186.setTop (mkF m 248 #[.val (.int p0), .val (.int p1), .val (.int p2), .val (.int p3), .val (.int p4), .val (.int (2 : Int32)), .val (.int (own_b (¬ ((p1 &&& (1 : Int32)) = (0 : Int32))))), .val (.int (own_b (¬ ((p1 &&& (1 : Int32)) = (0 : Int32))))), .val (.int v43), .val (.int v51), .val (.int (own_b (¬ ((p4 &&& (1 : Int32)) = (0 : Int32)) ∧ (¬ (v51 < (1 : Int32)))))), .val (.ref b74), .val (.ref b85), .val (.ref b111), .val (.int v43), .val (.int j156_l15), .val (.int (own_b (j156_f_b111_position = v43))), .val (.int (own_b (¬ (w160_depth = (2 : Int32))))), .val (.int (own_b (¬ (w172_depth = (2 : Int32))))), .val (.int (own_b (¬ (w179_depth = (2 : Int32)))))] [(.int (own_b (¬ ((p1 &&& (1 : Int32)) = (0 : Int32))))), (.int (own_b (¬ (w179_depth = (2 : Int32)))))])) target
        refine XS.iconst Xg186.here hx rfl (hb hby at_248) ?_
        show Steps p.tables e below (Tg186.setTop (mkF m 249 #[.val (.int p0), .val (.int p1), .val (.int p2), .val (.int p3), .val (.int p4), .val (.int (2 : Int32)), .val (.int (own_b (¬ ((p1 &&& (1 : Int32)) = (0 : Int32))))), .val (.int (own_b (¬ ((p1 &&& (1 : Int32)) = (0 : Int32))))), .val (.int v43), .val (.int v51), .val (.int (own_b (¬ ((p4 &&& (1 : Int32)) = (0 : Int32)) ∧ (¬ (v51 < (1 : Int32)))))), .val (.ref b74), .val (.ref b85), .val (.ref b111), .val (.int v43), .val (.int j156_l15), .val (.int (own_b (j156_f_b111_position = v43))), .val (.int (own_b (¬ (w160_depth = (2 : Int32))))), .val (.int (own_b (¬ (w172_depth = (2 : Int32))))), .val (.int (own_b (¬ (w179_depth = (2 : Int32)))))] [(.int (2 : Int32)), (.int (own_b (¬ ((p1 &&& (1 : Int32)) = (0 : Int32))))), (.int (own_b (¬ (w179_depth = (2 : Int32)))))])) target
        refine XS.iadd Xg186.here hx rfl (hb hby at_249) rfl ?_
        show Steps p.tables e below (Tg186.setTop (mkF m 250 #[.val (.int p0), .val (.int p1), .val (.int p2), .val (.int p3), .val (.int p4), .val (.int (2 : Int32)), .val (.int (own_b (¬ ((p1 &&& (1 : Int32)) = (0 : Int32))))), .val (.int (own_b (¬ ((p1 &&& (1 : Int32)) = (0 : Int32))))), .val (.int v43), .val (.int v51), .val (.int (own_b (¬ ((p4 &&& (1 : Int32)) = (0 : Int32)) ∧ (¬ (v51 < (1 : Int32)))))), .val (.ref b74), .val (.ref b85), .val (.ref b111), .val (.int v43), .val (.int j156_l15), .val (.int (own_b (j156_f_b111_position = v43))), .val (.int (own_b (¬ (w160_depth = (2 : Int32))))), .val (.int (own_b (¬ (w172_depth = (2 : Int32))))), .val (.int (own_b (¬ (w179_depth = (2 : Int32)))))] [(.int ((own_b (¬ ((p1 &&& (1 : Int32)) = (0 : Int32)))) + (2 : Int32))), (.int (own_b (¬ (w179_depth = (2 : Int32)))))])) target
        refine XS.iload Xg186.here hx rfl (hb hby at_250) rfl ?_
        exact kt
      obtain ⟨_, ⟨j260_s0, rfl, rfl⟩, st_M260⟩ : own_Lead p.tables e below (Tg186.setTop (mkF m 252 #[.val (.int p0), .val (.int p1), .val (.int p2), .val (.int p3), .val (.int p4), .val (.int (2 : Int32)), .val (.int (own_b (¬ ((p1 &&& (1 : Int32)) = (0 : Int32))))), .val (.int (own_b (¬ ((p1 &&& (1 : Int32)) = (0 : Int32))))), .val (.int v43), .val (.int v51), .val (.int (own_b (¬ ((p4 &&& (1 : Int32)) = (0 : Int32)) ∧ (¬ (v51 < (1 : Int32)))))), .val (.ref b74), .val (.ref b85), .val (.ref b111), .val (.int v43), .val (.int j156_l15), .val (.int (own_b (j156_f_b111_position = v43))), .val (.int (own_b (¬ (w160_depth = (2 : Int32))))), .val (.int (own_b (¬ (w172_depth = (2 : Int32))))), .val (.int (own_b (¬ (w179_depth = (2 : Int32)))))] [(.int (2 : Int32)), (.int ((own_b (¬ ((p1 &&& (1 : Int32)) = (0 : Int32)))) + (2 : Int32))), (.int (own_b (¬ (w179_depth = (2 : Int32)))))])) (fun B => ∃ (j260_s0 : Int32), B = Tg186.setTop (mkF m 260 #[.val (.int p0), .val (.int p1), .val (.int p2), .val (.int p3), .val (.int p4), .val (.int (2 : Int32)), .val (.int (own_b (¬ ((p1 &&& (1 : Int32)) = (0 : Int32))))), .val (.int (own_b (¬ ((p1 &&& (1 : Int32)) = (0 : Int32))))), .val (.int v43), .val (.int v51), .val (.int (own_b (¬ ((p4 &&& (1 : Int32)) = (0 : Int32)) ∧ (¬ (v51 < (1 : Int32)))))), .val (.ref b74), .val (.ref b85), .val (.ref b111), .val (.int v43), .val (.int j156_l15), .val (.int (own_b (j156_f_b111_position = v43))), .val (.int (own_b (¬ (w160_depth = (2 : Int32))))), .val (.int (own_b (¬ (w172_depth = (2 : Int32))))), .val (.int (own_b (¬ (w179_depth = (2 : Int32)))))] [(.int j260_s0), (.int (own_b (¬ (w179_depth = (2 : Int32)))))]) ∧ j260_s0 = own_b (((own_b (¬ ((p1 &&& (1 : Int32)) = (0 : Int32)))) + (2 : Int32)) < (2 : Int32))) := by
        by_cases c252 : ((own_b (¬ ((p1 &&& (1 : Int32)) = (0 : Int32)))) + (2 : Int32)) < (2 : Int32)
        · refine own_st (B := Tg186.setTop (mkF m 260 #[.val (.int p0), .val (.int p1), .val (.int p2), .val (.int p3), .val (.int p4), .val (.int (2 : Int32)), .val (.int (own_b (¬ ((p1 &&& (1 : Int32)) = (0 : Int32))))), .val (.int (own_b (¬ ((p1 &&& (1 : Int32)) = (0 : Int32))))), .val (.int v43), .val (.int v51), .val (.int (own_b (¬ ((p4 &&& (1 : Int32)) = (0 : Int32)) ∧ (¬ (v51 < (1 : Int32)))))), .val (.ref b74), .val (.ref b85), .val (.ref b111), .val (.int v43), .val (.int j156_l15), .val (.int (own_b (j156_f_b111_position = v43))), .val (.int (own_b (¬ (w160_depth = (2 : Int32))))), .val (.int (own_b (¬ (w172_depth = (2 : Int32))))), .val (.int (own_b (¬ (w179_depth = (2 : Int32)))))] [(.int (1 : Int32)), (.int (own_b (¬ (w179_depth = (2 : Int32)))))])) (fun target kt => ?_) ?_
          · show Steps p.tables e below (Tg186.setTop (mkF m 252 #[.val (.int p0), .val (.int p1), .val (.int p2), .val (.int p3), .val (.int p4), .val (.int (2 : Int32)), .val (.int (own_b (¬ ((p1 &&& (1 : Int32)) = (0 : Int32))))), .val (.int (own_b (¬ ((p1 &&& (1 : Int32)) = (0 : Int32))))), .val (.int v43), .val (.int v51), .val (.int (own_b (¬ ((p4 &&& (1 : Int32)) = (0 : Int32)) ∧ (¬ (v51 < (1 : Int32)))))), .val (.ref b74), .val (.ref b85), .val (.ref b111), .val (.int v43), .val (.int j156_l15), .val (.int (own_b (j156_f_b111_position = v43))), .val (.int (own_b (¬ (w160_depth = (2 : Int32))))), .val (.int (own_b (¬ (w172_depth = (2 : Int32))))), .val (.int (own_b (¬ (w179_depth = (2 : Int32)))))] [(.int (2 : Int32)), (.int ((own_b (¬ ((p1 &&& (1 : Int32)) = (0 : Int32)))) + (2 : Int32))), (.int (own_b (¬ (w179_depth = (2 : Int32)))))])) target
            refine XS.icmpNo Xg186.here hx rfl (hb hby at_252) rfl (tlt c252).2.1 ?_
            show Steps p.tables e below (Tg186.setTop (mkF m 255 #[.val (.int p0), .val (.int p1), .val (.int p2), .val (.int p3), .val (.int p4), .val (.int (2 : Int32)), .val (.int (own_b (¬ ((p1 &&& (1 : Int32)) = (0 : Int32))))), .val (.int (own_b (¬ ((p1 &&& (1 : Int32)) = (0 : Int32))))), .val (.int v43), .val (.int v51), .val (.int (own_b (¬ ((p4 &&& (1 : Int32)) = (0 : Int32)) ∧ (¬ (v51 < (1 : Int32)))))), .val (.ref b74), .val (.ref b85), .val (.ref b111), .val (.int v43), .val (.int j156_l15), .val (.int (own_b (j156_f_b111_position = v43))), .val (.int (own_b (¬ (w160_depth = (2 : Int32))))), .val (.int (own_b (¬ (w172_depth = (2 : Int32))))), .val (.int (own_b (¬ (w179_depth = (2 : Int32)))))] [(.int (own_b (¬ (w179_depth = (2 : Int32)))))])) target
            refine XS.iconst Xg186.here hx rfl (hb hby at_255) ?_
            show Steps p.tables e below (Tg186.setTop (mkF m 256 #[.val (.int p0), .val (.int p1), .val (.int p2), .val (.int p3), .val (.int p4), .val (.int (2 : Int32)), .val (.int (own_b (¬ ((p1 &&& (1 : Int32)) = (0 : Int32))))), .val (.int (own_b (¬ ((p1 &&& (1 : Int32)) = (0 : Int32))))), .val (.int v43), .val (.int v51), .val (.int (own_b (¬ ((p4 &&& (1 : Int32)) = (0 : Int32)) ∧ (¬ (v51 < (1 : Int32)))))), .val (.ref b74), .val (.ref b85), .val (.ref b111), .val (.int v43), .val (.int j156_l15), .val (.int (own_b (j156_f_b111_position = v43))), .val (.int (own_b (¬ (w160_depth = (2 : Int32))))), .val (.int (own_b (¬ (w172_depth = (2 : Int32))))), .val (.int (own_b (¬ (w179_depth = (2 : Int32)))))] [(.int (1 : Int32)), (.int (own_b (¬ (w179_depth = (2 : Int32)))))])) target
            refine XS.goto Xg186.here hx rfl (pc0 := 256) (pc' := 260) rfl (hb hby at_256) (by decide) (by decide) ?_
            exact kt
          exact ⟨_, ⟨(1 : Int32), rfl, (own_b1 c252).symm⟩, fun _ k => k⟩
        · refine own_st (B := Tg186.setTop (mkF m 260 #[.val (.int p0), .val (.int p1), .val (.int p2), .val (.int p3), .val (.int p4), .val (.int (2 : Int32)), .val (.int (own_b (¬ ((p1 &&& (1 : Int32)) = (0 : Int32))))), .val (.int (own_b (¬ ((p1 &&& (1 : Int32)) = (0 : Int32))))), .val (.int v43), .val (.int v51), .val (.int (own_b (¬ ((p4 &&& (1 : Int32)) = (0 : Int32)) ∧ (¬ (v51 < (1 : Int32)))))), .val (.ref b74), .val (.ref b85), .val (.ref b111), .val (.int v43), .val (.int j156_l15), .val (.int (own_b (j156_f_b111_position = v43))), .val (.int (own_b (¬ (w160_depth = (2 : Int32))))), .val (.int (own_b (¬ (w172_depth = (2 : Int32))))), .val (.int (own_b (¬ (w179_depth = (2 : Int32)))))] [(.int (0 : Int32)), (.int (own_b (¬ (w179_depth = (2 : Int32)))))])) (fun target kt => ?_) ?_
          · show Steps p.tables e below (Tg186.setTop (mkF m 252 #[.val (.int p0), .val (.int p1), .val (.int p2), .val (.int p3), .val (.int p4), .val (.int (2 : Int32)), .val (.int (own_b (¬ ((p1 &&& (1 : Int32)) = (0 : Int32))))), .val (.int (own_b (¬ ((p1 &&& (1 : Int32)) = (0 : Int32))))), .val (.int v43), .val (.int v51), .val (.int (own_b (¬ ((p4 &&& (1 : Int32)) = (0 : Int32)) ∧ (¬ (v51 < (1 : Int32)))))), .val (.ref b74), .val (.ref b85), .val (.ref b111), .val (.int v43), .val (.int j156_l15), .val (.int (own_b (j156_f_b111_position = v43))), .val (.int (own_b (¬ (w160_depth = (2 : Int32))))), .val (.int (own_b (¬ (w172_depth = (2 : Int32))))), .val (.int (own_b (¬ (w179_depth = (2 : Int32)))))] [(.int (2 : Int32)), (.int ((own_b (¬ ((p1 &&& (1 : Int32)) = (0 : Int32)))) + (2 : Int32))), (.int (own_b (¬ (w179_depth = (2 : Int32)))))])) target
            refine XS.icmpYes Xg186.here hx rfl (pc0 := 252) (pc' := 259) rfl (hb hby at_252) rfl (flt c252).2.1 (by decide) (by decide) ?_
            show Steps p.tables e below (Tg186.setTop (mkF m 259 #[.val (.int p0), .val (.int p1), .val (.int p2), .val (.int p3), .val (.int p4), .val (.int (2 : Int32)), .val (.int (own_b (¬ ((p1 &&& (1 : Int32)) = (0 : Int32))))), .val (.int (own_b (¬ ((p1 &&& (1 : Int32)) = (0 : Int32))))), .val (.int v43), .val (.int v51), .val (.int (own_b (¬ ((p4 &&& (1 : Int32)) = (0 : Int32)) ∧ (¬ (v51 < (1 : Int32)))))), .val (.ref b74), .val (.ref b85), .val (.ref b111), .val (.int v43), .val (.int j156_l15), .val (.int (own_b (j156_f_b111_position = v43))), .val (.int (own_b (¬ (w160_depth = (2 : Int32))))), .val (.int (own_b (¬ (w172_depth = (2 : Int32))))), .val (.int (own_b (¬ (w179_depth = (2 : Int32)))))] [(.int (own_b (¬ (w179_depth = (2 : Int32)))))])) target
            refine XS.iconst Xg186.here hx rfl (hb hby at_259) ?_
            exact kt
          exact ⟨_, ⟨(0 : Int32), rfl, (own_b0 c252).symm⟩, fun _ k => k⟩
      refine own_st st_M260 ?_
      have c260 : (¬ (w179_depth = (2 : Int32))) ↔ (((own_b (¬ ((p1 &&& (1 : Int32)) = (0 : Int32)))) + (2 : Int32)) < (2 : Int32)) := by
        simp only [own_b0 c98, hw186_depth, hw179_depth, hw172_depth, hw160_depth, hw128_depth]
        decide
      refine own_st (B := Tg186.setTop (mkF m 268 #[.val (.int p0), .val (.int p1), .val (.int p2), .val (.int p3), .val (.int p4), .val (.int (2 : Int32)), .val (.int (own_b (¬ ((p1 &&& (1 : Int32)) = (0 : Int32))))), .val (.int (own_b (¬ ((p1 &&& (1 : Int32)) = (0 : Int32))))), .val (.int v43), .val (.int v51), .val (.int (own_b (¬ ((p4 &&& (1 : Int32)) = (0 : Int32)) ∧ (¬ (v51 < (1 : Int32)))))), .val (.ref b74), .val (.ref b85), .val (.ref b111), .val (.int v43), .val (.int j156_l15), .val (.int (own_b (j156_f_b111_position = v43))), .val (.int (own_b (¬ (w160_depth = (2 : Int32))))), .val (.int (own_b (¬ (w172_depth = (2 : Int32))))), .val (.int (own_b (¬ (w179_depth = (2 : Int32)))))] [(.int (1 : Int32))])) (fun target kt => ?_) ?_
      · show Steps p.tables e below (Tg186.setTop (mkF m 260 #[.val (.int p0), .val (.int p1), .val (.int p2), .val (.int p3), .val (.int p4), .val (.int (2 : Int32)), .val (.int (own_b (¬ ((p1 &&& (1 : Int32)) = (0 : Int32))))), .val (.int (own_b (¬ ((p1 &&& (1 : Int32)) = (0 : Int32))))), .val (.int v43), .val (.int v51), .val (.int (own_b (¬ ((p4 &&& (1 : Int32)) = (0 : Int32)) ∧ (¬ (v51 < (1 : Int32)))))), .val (.ref b74), .val (.ref b85), .val (.ref b111), .val (.int v43), .val (.int j156_l15), .val (.int (own_b (j156_f_b111_position = v43))), .val (.int (own_b (¬ (w160_depth = (2 : Int32))))), .val (.int (own_b (¬ (w172_depth = (2 : Int32))))), .val (.int (own_b (¬ (w179_depth = (2 : Int32)))))] [(.int (own_b (((own_b (¬ ((p1 &&& (1 : Int32)) = (0 : Int32)))) + (2 : Int32)) < (2 : Int32)))), (.int (own_b (¬ (w179_depth = (2 : Int32)))))])) target
        refine XS.icmpNo Xg186.here hx rfl (hb hby at_260) rfl (teq (own_bb rfl rfl c260)).2 ?_
        show Steps p.tables e below (Tg186.setTop (mkF m 263 #[.val (.int p0), .val (.int p1), .val (.int p2), .val (.int p3), .val (.int p4), .val (.int (2 : Int32)), .val (.int (own_b (¬ ((p1 &&& (1 : Int32)) = (0 : Int32))))), .val (.int (own_b (¬ ((p1 &&& (1 : Int32)) = (0 : Int32))))), .val (.int v43), .val (.int v51), .val (.int (own_b (¬ ((p4 &&& (1 : Int32)) = (0 : Int32)) ∧ (¬ (v51 < (1 : Int32)))))), .val (.ref b74), .val (.ref b85), .val (.ref b111), .val (.int v43), .val (.int j156_l15), .val (.int (own_b (j156_f_b111_position = v43))), .val (.int (own_b (¬ (w160_depth = (2 : Int32))))), .val (.int (own_b (¬ (w172_depth = (2 : Int32))))), .val (.int (own_b (¬ (w179_depth = (2 : Int32)))))] [])) target
        refine XS.iconst Xg186.here hx rfl (hb hby at_263) ?_
        show Steps p.tables e below (Tg186.setTop (mkF m 264 #[.val (.int p0), .val (.int p1), .val (.int p2), .val (.int p3), .val (.int p4), .val (.int (2 : Int32)), .val (.int (own_b (¬ ((p1 &&& (1 : Int32)) = (0 : Int32))))), .val (.int (own_b (¬ ((p1 &&& (1 : Int32)) = (0 : Int32))))), .val (.int v43), .val (.int v51), .val (.int (own_b (¬ ((p4 &&& (1 : Int32)) = (0 : Int32)) ∧ (¬ (v51 < (1 : Int32)))))), .val (.ref b74), .val (.ref b85), .val (.ref b111), .val (.int v43), .val (.int j156_l15), .val (.int (own_b (j156_f_b111_position = v43))), .val (.int (own_b (¬ (w160_depth = (2 : Int32))))), .val (.int (own_b (¬ (w172_depth = (2 : Int32))))), .val (.int (own_b (¬ (w179_depth = (2 : Int32)))))] [(.int (1 : Int32))])) target
        refine XS.goto Xg186.here hx rfl (pc0 := 264) (pc' := 268) rfl (hb hby at_264) (by decide) (by decide) ?_
        exact kt
      obtain ⟨fs, hr, hrun, hended, hW, hsame⟩ := Xg186.leave (v := some (.int (1 : Int32))) (fun h => by rw [Bd.returns] at h; cases h)
      have hend : Steps p.tables e below (Tg186.setTop (mkF m 268 #[.val (.int p0), .val (.int p1), .val (.int p2), .val (.int p3), .val (.int p4), .val (.int (2 : Int32)), .val (.int (own_b (¬ ((p1 &&& (1 : Int32)) = (0 : Int32))))), .val (.int (own_b (¬ ((p1 &&& (1 : Int32)) = (0 : Int32))))), .val (.int v43), .val (.int v51), .val (.int (own_b (¬ ((p4 &&& (1 : Int32)) = (0 : Int32)) ∧ (¬ (v51 < (1 : Int32)))))), .val (.ref b74), .val (.ref b85), .val (.ref b111), .val (.int v43), .val (.int j156_l15), .val (.int (own_b (j156_f_b111_position = v43))), .val (.int (own_b (¬ (w160_depth = (2 : Int32))))), .val (.int (own_b (¬ (w172_depth = (2 : Int32))))), .val (.int (own_b (¬ (w179_depth = (2 : Int32)))))] [(.int (1 : Int32))])) (Tg186.setFrames fs) := by
        exact retN Xg186 hx (t := .boolean) Bd.returns (by simp) (hb hby at_268) hr
      refine own_fin hend ⟨_, hrun, hended, _, _, rfl, ?_, ⟨_, rfl⟩, hW, hsame.mono (by decide) (by decide)⟩
      show own_Q0 Z p0 p1 p2 p3 p4 h0 n0 _ Tg186.heap _
      exact ⟨rfl, Ng186⟩
set_option maxRecDepth 65536 in
set_option maxHeartbeats 40000000 in
theorem own_comes_1 {Post : Tables → Env → Array Value → State → Outcome → State → Prop} (hpost : ∀ tb e args s v u, (limb_1_1.after args s (.returned v) u = true ∧ limb_1_2.after args s (.returned v) u = true ∧ True) → FrameEnd s (.returned v) u (Jvm.fieldLocs frame_1_writes args s ++ Jvm.arrayLocs frame_1_arrays args s ++ Jvm.staticLocs frame_1_statics s) 16 128 → Post tb e args s (.returned v) u) :
    ArmFor flags0 classFile x code maxLocals ret World_1 tables_1 room_1 Calls_1 rest_1 Pre_1 Post := by
  intro l hfl _ _ p e ha hc hk s m args below hf hA hF happ hP
  obtain ⟨hcalls, hrest, hpre⟩ := hP
  obtain ⟨-, -, -, hnamed, -, -, -, hat⟩ := (Spec.applies_iff hf).mp happ
  obtain ⟨hg, hn⟩ := and_e (Cond.before_iff.mp (show (Jvm.Cond.and given_1 narrow_1).before args s = true from hpre))
  obtain ⟨g1, g2⟩ := and_e hg
  obtain ⟨g3, g4⟩ := and_e g2
  obtain ⟨g5, g6⟩ := and_e g4
  obtain ⟨g7, g8⟩ := and_e g6
  obtain ⟨g9, g10⟩ := and_e g8
  obtain ⟨w0, w1, w2, w3, w4, rfl⟩ : ∃ w0 w1 w2 w3 w4 : Value, args = #[w0, w1, w2, w3, w4] := by
    have hs : args.size = 5 := by simpa [Cond.value, given_1] using g1
    obtain ⟨L⟩ := args
    match L, hs with
    | [w0, w1, w2, w3, w4], _ => exact ⟨w0, w1, w2, w3, w4, rfl⟩
  have hw := fun d (hd : d ∈ tables_1) => atoms_spec (ws := Jvm.Cond.code x code maxLocals ret :: tables_1) hat d (List.mem_cons_of_mem _ hd)
  obtain ⟨i0, ei0⟩ := is_v g3
  obtain rfl : w0 = (.int i0) := Option.some.inj ei0
  obtain ⟨i1, ei1⟩ := is_v g5
  obtain rfl : w1 = (.int i1) := Option.some.inj ei1
  obtain ⟨i2, ei2⟩ := is_v g7
  obtain rfl : w2 = (.int i2) := Option.some.inj ei2
  obtain ⟨i3, ei3⟩ := is_v g9
  obtain rfl : w3 = (.int i3) := Option.some.inj ei3
  obtain ⟨i4, ei4⟩ := is_v g10
  obtain rfl : w4 = (.int i4) := Option.some.inj ei4
  obtain ⟨n, o, h1, h2, h3, _, L, rfl, ⟨rfl, N⟩, hq⟩ := own_rm0 l s _ hw tables_1 i0 i1 i2 i3 i4 s.heap s.heap.size (Nat.le_refl _) p e ha hc hk s m _ below hf ((Spec.applies_iff_loose hf).mp happ).1 ⟨rfl, State.Warmed39.refl s, rfl⟩ trivial
  refine ⟨n, _, h1, h2, h3, hpost _ _ _ _ _ _ ⟨Cond.after_iff.mpr rfl, Cond.after_iff.mpr (eq_i res_at (Term.int_eval (1)) rfl), trivial⟩ ⟨hq.1, hq.2.1, (hq.2.2.sift fun y hy => Or.inr (N y hy)).mono (by decide) (by decide)⟩⟩
theorem main_1_1 : Claimed_1_1 := own_comes_1 fun _ _ _ _ _ _ h hF => ⟨h.1, hF⟩
theorem main_1_2 : Claimed_1_2 := own_comes_1 fun _ _ _ _ _ _ h hF => ⟨h.2.1, hF⟩
end Jvm.Pilot.@@N@@
namespace Jvm.Pilot.@@N@@
open Jvm Jvm.ClassFile Sem Op Lib Jvm.Free Jvm.Stand Jvm.Pilot.@@N@@.Jvm.D
/-! MADE BY PROGRAM (witnessworld.py) out of the Statement's table words and the real class files: 15 classes; the members and pool entries that the words name. The judged class is class 1, her method 1. -/
namespace start1
open Jvm.ClassFile
def u (s : String) : CpInfo := .utf8 (stringToUtf16 s)
/-- a pool by its gaps: so many unusable entries, then the entry; so many at the end -/
def gap : Nat → List CpInfo → List CpInfo
  | 0, r => r
  | n + 1, r => .unusable :: gap n r
def poolList (es : List (Nat × CpInfo)) (last : Nat) : List CpInfo := es.foldr (fun e r => gap e.1 (e.2 :: r)) (gap last [])
def pool (es : List (Nat × CpInfo)) (last : Nat) : Array CpInfo := ⟨poolList es last⟩
def fileOf (pool : Array CpInfo) (this : Nat) (attrs : Array Attribute := #[]) (ms : Array MethodInfo := #[]) (fl : Nat := 33) (sup : Nat := 0) (ifs : Array Nat := #[]) (fds : Array FieldInfo := #[]) : ClassFile where
  minorVersion := 0
  majorVersion := 65
  constantPool := pool
  accessFlags := fl
  thisClass := this
  superClass := sup
  interfaces := ifs
  fields := fds
  methods := ms
  attributes := attrs
def plain (name : String) (sup : Option ClassId) : Class where
  name := name
  kind := .ordinary
  loader := none
  accessFlags := 33
  super := sup
  interfaces := #[]
  cf := none
  fields := #[]
  methods := #[]
  instanceTypes := #[]
  staticTypes := #[]
  resolved := #[]
  callSites := []
  init := .initialized
  statics := none
  mirror := none

def pool0 : Array CpInfo := pool [(5, u "<init>"), (0, u "()V"), (1, .class_ 10), (1, u "java/lang/Object")] 113

def k0c0 : Code := { maxStack := 0, maxLocals := 1, code := object_method_1_code, exceptionTable := #[], attributes := #[] }
def k0m0 : Method := { name := "<init>", desc := "()V", sig := { parameters := [], returnType := none }, accessFlags := 1, code := some k0c0 }
/-- java/lang/Object -/
def k0 : Class := { plain "java/lang/Object" none with
  accessFlags := 33
  interfaces := #[]
  cf := some (fileOf pool0 8 #[] #[{ accessFlags := 1, nameIndex := 5, descriptorIndex := 6, attributes := #[] }] 33 0 #[] #[])
  fields := #[]
  methods := #[k0m0]
  instanceTypes := #[]
  staticTypes := #[]
  resolved := Array.replicate 124 none
  statics := none }

def pool1 : Array CpInfo := pool [(2, .class_ 4), (1, u "java/lang/Object"), (0, u "<init>"), (0, u "()V"), (0, .class_ 8), (0, u "com/example/wireform/wireform/wire/Nesting"), (0, .methodref 7 10), (0, .nameAndType 5 11), (0, u "(I)V"), (0, .methodref 7 13), (0, .nameAndType 14 15), (0, u "enter"), (0, u "()Z"), (0, .class_ 17), (0, u "com/example/wireform/wireform/wire/WireReader"), (0, .methodref 16 19), (0, .nameAndType 5 20), (0, u "([BILcom/example/wireform/wireform/wire/Nesting;)V"), (0, .methodref 16 22), (0, .nameAndType 23 24), (0, u "beginMessage"), (0, u "()I"), (0, .methodref 16 26), (0, .nameAndType 27 28), (0, u "readVarint"), (0, u "()J"), (0, .methodref 16 30), (0, .nameAndType 31 11), (0, u "endMessage"), (0, .methodref 16 33), (0, .nameAndType 34 15), (0, u "isAtEnd"), (0, .class_ 36), (0, u "com/example/wireform/wireform/wire/WireReaderEndMessagePinLaw"), (2, u "law"), (0, u "(IIIII)Z")] 5

def k1m0 : Method := { name := "<init>", desc := "()V", sig := { parameters := [], returnType := none }, accessFlags := 1, code := none }
def k1c1 : Code := { maxStack := 5, maxLocals := 20, code := code, exceptionTable := #[], attributes := #[] }
def k1m1 : Method := { name := "law", desc := "(IIIII)Z", sig := { parameters := [.int, .int, .int, .int, .int], returnType := some .boolean }, accessFlags := 9, code := some k1c1 }
/-- com/example/wireform/wireform/wire/WireReaderEndMessagePinLaw -/
def k1 : Class := { plain "com/example/wireform/wireform/wire/WireReaderEndMessagePinLaw" (some 0) with
  accessFlags := 49
  interfaces := #[]
  cf := some (fileOf pool1 35 #[] #[{ accessFlags := 1, nameIndex := 5, descriptorIndex := 6, attributes := #[] }, { accessFlags := 9, nameIndex := 39, descriptorIndex := 40, attributes := #[] }] 49 2 #[] #[])
  fields := #[]
  methods := #[k1m0, k1m1]
  instanceTypes := #[]
  staticTypes := #[]
  resolved := Array.replicate 46 none
  statics := none }

def pool2 : Array CpInfo := pool [(1, .methodref 2 3), (0, .class_ 4), (0, .nameAndType 5 6), (0, u "java/lang/Object"), (0, u "<init>"), (0, u "()V"), (0, .class_ 8), (0, u "com/example/wireform/wireform/wire/Nesting"), (9, .fieldref 7 19), (0, .nameAndType 20 21), (0, u "limit"), (0, u "I"), (0, .fieldref 7 23), (0, .nameAndType 24 21), (0, u "depth"), (0, u "DEFAULT_LIMIT"), (2, u "MAX_LIMIT"), (1, u "(I)V"), (4, u "enter"), (0, u "()Z"), (0, u "exit")] 17

def k2c0 : Code := { maxStack := 3, maxLocals := 2, code := prog_67_method_1_code, exceptionTable := #[], attributes := #[] }
def k2m0 : Method := { name := "<init>", desc := "(I)V", sig := { parameters := [.int], returnType := none }, accessFlags := 0, code := some k2c0 }
def k2c1 : Code := { maxStack := 3, maxLocals := 1, code := prog_67_method_3_code, exceptionTable := #[], attributes := #[] }
def k2m1 : Method := { name := "enter", desc := "()Z", sig := { parameters := [], returnType := some .boolean }, accessFlags := 0, code := some k2c1 }
def k2c2 : Code := { maxStack := 3, maxLocals := 1, code := prog_67_method_4_code, exceptionTable := #[], attributes := #[] }
def k2m2 : Method := { name := "exit", desc := "()V", sig := { parameters := [], returnType := none }, accessFlags := 0, code := some k2c2 }
/-- com/example/wireform/wireform/wire/Nesting -/
def k2 : Class := { plain "com/example/wireform/wireform/wire/Nesting" (some 0) with
  accessFlags := 49
  interfaces := #[]
  cf := some (fileOf pool2 7 #[] #[{ accessFlags := 0, nameIndex := 5, descriptorIndex := 30, attributes := #[] }, { accessFlags := 0, nameIndex := 35, descriptorIndex := 36, attributes := #[] }, { accessFlags := 0, nameIndex := 37, descriptorIndex := 6, attributes := #[] }] 49 2 #[] #[{ accessFlags := 25, nameIndex := 25, descriptorIndex := 21, attributes := #[] }, { accessFlags := 24, nameIndex := 28, descriptorIndex := 21, attributes := #[] }, { accessFlags := 18, nameIndex := 20, descriptorIndex := 21, attributes := #[] }, { accessFlags := 2, nameIndex := 24, descriptorIndex := 21, attributes := #[] }])
  fields := #[{ name := "DEFAULT_LIMIT", type := .int, accessFlags := 25, slot := 0, constantValue := 0 }, { name := "MAX_LIMIT", type := .int, accessFlags := 24, slot := 1, constantValue := 0 }, { name := "limit", type := .int, accessFlags := 18, slot := 0, constantValue := 0 }, { name := "depth", type := .int, accessFlags := 2, slot := 1, constantValue := 0 }]
  methods := #[k2m0, k2m1, k2m2]
  instanceTypes := #[.int, .int]
  staticTypes := #[.int, .int]
  resolved := Array.replicate 55 none
  statics := none }

def pool3 : Array CpInfo := pool [(1, .class_ 2), (0, u "com/example/wireform/wireform/wire/Nesting"), (1, .class_ 6), (1, u "com/example/wireform/wireform/wire/WireReader"), (0, u "<init>"), (2, u "bytes"), (7, u "[B"), (2, u "(I)V"), (2, u "([BILcom/example/wireform/wireform/wire/Nesting;)V"), (0, .methodref 26 27), (0, .class_ 28), (0, .nameAndType 7 29), (0, u "java/lang/Object"), (0, u "()V"), (0, .fieldref 4 31), (0, .nameAndType 10 18), (0, .fieldref 4 33), (0, .nameAndType 34 35), (0, u "end"), (0, u "I"), (0, .fieldref 4 37), (0, .nameAndType 38 39), (0, u "nesting"), (0, u "Lcom/example/wireform/wireform/wire/Nesting;"), (0, .fieldref 4 41), (0, .nameAndType 42 35), (0, u "limit"), (0, .fieldref 4 44), (0, .nameAndType 45 35), (0, u "position"), (16, .methodref 4 63), (0, .nameAndType 64 65), (0, u "readVarint"), (0, u "()J"), (25, .class_ 93), (1, u "com/example/wireform/wireform/wire/WireReader$1"), (5, u "()I"), (0, .class_ 101), (0, u "java/lang/Long"), (6, .methodref 4 109), (0, .nameAndType 110 99), (0, u "readLength"), (13, u "INT_LITTLE_ENDIAN"), (0, u "Ljava/lang/invoke/VarHandle;"), (8, u "LONG_LITTLE_ENDIAN"), (27, .methodref 1 163), (0, .nameAndType 164 165), (0, u "enter"), (0, u "()Z"), (5, .methodref 4 172), (0, .nameAndType 173 99), (0, u "beginLengthDelimited"), (0, .methodref 4 175), (0, .nameAndType 176 21), (0, u "endLengthDelimited"), (0, .methodref 1 178), (0, .nameAndType 179 29), (0, u "exit"), (38, .methodref 100 219), (0, .nameAndType 220 221), (0, u "compareUnsigned"), (0, u "(JJ)I"), (37, u "MAX_VARINT_BYTES"), (2, u "REPLACEMENT_CHARACTER"), (0, u "C"), (3, u "isAtEnd"), (7, u "beginMessage"), (0, u "endMessage")] 35

def k3c0 : Code := { maxStack := 2, maxLocals := 4, code := prog_71_method_3_code, exceptionTable := #[], attributes := #[] }
def k3m0 : Method := { name := "<init>", desc := "([BILcom/example/wireform/wireform/wire/Nesting;)V", sig := { parameters := [(.array .byte), .int, (.object "com/example/wireform/wireform/wire/Nesting")], returnType := none }, accessFlags := 0, code := some k3c0 }
def k3c1 : Code := { maxStack := 2, maxLocals := 1, code := prog_71_method_4_code, exceptionTable := #[], attributes := #[] }
def k3m1 : Method := { name := "isAtEnd", desc := "()Z", sig := { parameters := [], returnType := some .boolean }, accessFlags := 1, code := some k3c1 }
def k3c2 : Code := { maxStack := 6, maxLocals := 6, code := prog_71_method_5_code, exceptionTable := #[], attributes := #[] }
def k3m2 : Method := { name := "readVarint", desc := "()J", sig := { parameters := [], returnType := some .long }, accessFlags := 1, code := some k3c2 }
def k3c3 : Code := { maxStack := 3, maxLocals := 3, code := prog_71_method_12_code, exceptionTable := #[], attributes := #[] }
def k3m3 : Method := { name := "beginLengthDelimited", desc := "()I", sig := { parameters := [], returnType := some .int }, accessFlags := 1, code := some k3c3 }
def k3c4 : Code := { maxStack := 2, maxLocals := 2, code := prog_71_method_13_code, exceptionTable := #[], attributes := #[] }
def k3m4 : Method := { name := "endLengthDelimited", desc := "(I)V", sig := { parameters := [.int], returnType := none }, accessFlags := 1, code := some k3c4 }
def k3c5 : Code := { maxStack := 3, maxLocals := 1, code := prog_71_method_14_code, exceptionTable := #[], attributes := #[] }
def k3m5 : Method := { name := "beginMessage", desc := "()I", sig := { parameters := [], returnType := some .int }, accessFlags := 1, code := some k3c5 }
def k3c6 : Code := { maxStack := 2, maxLocals := 2, code := prog_71_method_15_code, exceptionTable := #[], attributes := #[] }
def k3m6 : Method := { name := "endMessage", desc := "(I)V", sig := { parameters := [.int], returnType := none }, accessFlags := 1, code := some k3c6 }
def k3c7 : Code := { maxStack := 4, maxLocals := 4, code := prog_71_method_18_code, exceptionTable := #[], attributes := #[] }
def k3m7 : Method := { name := "readLength", desc := "()I", sig := { parameters := [], returnType := some .int }, accessFlags := 2, code := some k3c7 }
/-- com/example/wireform/wireform/wire/WireReader -/
def k3 : Class := { plain "com/example/wireform/wireform/wire/WireReader" (some 0) with
  accessFlags := 49
  interfaces := #[]
  cf := some (fileOf pool3 4 #[.nestMembers #[91]] #[{ accessFlags := 0, nameIndex := 7, descriptorIndex := 24, attributes := #[] }, { accessFlags := 1, nameIndex := 267, descriptorIndex := 165, attributes := #[] }, { accessFlags := 1, nameIndex := 64, descriptorIndex := 65, attributes := #[] }, { accessFlags := 1, nameIndex := 173, descriptorIndex := 99, attributes := #[] }, { accessFlags := 1, nameIndex := 176, descriptorIndex := 21, attributes := #[] }, { accessFlags := 1, nameIndex := 275, descriptorIndex := 99, attributes := #[] }, { accessFlags := 1, nameIndex := 276, descriptorIndex := 21, attributes := #[] }, { accessFlags := 2, nameIndex := 110, descriptorIndex := 99, attributes := #[] }] 49 26 #[] #[{ accessFlags := 24, nameIndex := 259, descriptorIndex := 35, attributes := #[] }, { accessFlags := 26, nameIndex := 262, descriptorIndex := 263, attributes := #[] }, { accessFlags := 26, nameIndex := 124, descriptorIndex := 125, attributes := #[] }, { accessFlags := 26, nameIndex := 134, descriptorIndex := 125, attributes := #[] }, { accessFlags := 18, nameIndex := 10, descriptorIndex := 18, attributes := #[] }, { accessFlags := 18, nameIndex := 34, descriptorIndex := 35, attributes := #[] }, { accessFlags := 18, nameIndex := 38, descriptorIndex := 39, attributes := #[] }, { accessFlags := 2, nameIndex := 45, descriptorIndex := 35, attributes := #[] }, { accessFlags := 2, nameIndex := 42, descriptorIndex := 35, attributes := #[] }])
  fields := #[{ name := "MAX_VARINT_BYTES", type := .int, accessFlags := 24, slot := 0, constantValue := 0 }, { name := "REPLACEMENT_CHARACTER", type := .char, accessFlags := 26, slot := 1, constantValue := 0 }, { name := "INT_LITTLE_ENDIAN", type := (.object "java/lang/invoke/VarHandle"), accessFlags := 26, slot := 2, constantValue := 0 }, { name := "LONG_LITTLE_ENDIAN", type := (.object "java/lang/invoke/VarHandle"), accessFlags := 26, slot := 3, constantValue := 0 }, { name := "bytes", type := (.array .byte), accessFlags := 18, slot := 0, constantValue := 0 }, { name := "end", type := .int, accessFlags := 18, slot := 1, constantValue := 0 }, { name := "nesting", type := (.object "com/example/wireform/wireform/wire/Nesting"), accessFlags := 18, slot := 2, constantValue := 0 }, { name := "position", type := .int, accessFlags := 2, slot := 3, constantValue := 0 }, { name := "limit", type := .int, accessFlags := 2, slot := 4, constantValue := 0 }]
  methods := #[k3m0, k3m1, k3m2, k3m3, k3m4, k3m5, k3m6, k3m7]
  instanceTypes := #[(.array .byte), .int, (.object "com/example/wireform/wireform/wire/Nesting"), .int, .int]
  staticTypes := #[.int, .char, (.object "java/lang/invoke/VarHandle"), (.object "java/lang/invoke/VarHandle")]
  resolved := Array.replicate 312 none
  statics := none }

def pool4 : Array CpInfo := pool [(1, .class_ 2), (0, u "java/io/Serializable"), (0, .class_ 4), (0, u "java/lang/Object")] 2

/-- java/io/Serializable -/
def k4 : Class := { plain "java/io/Serializable" (some 0) with
  accessFlags := 1537
  interfaces := #[]
  cf := some (fileOf pool4 1 #[] #[] 1537 3 #[] #[])
  fields := #[]
  methods := #[]
  instanceTypes := #[]
  staticTypes := #[]
  resolved := Array.replicate 7 none
  statics := none }

def pool5 : Array CpInfo := pool [(2, .class_ 4), (1, u "java/lang/Object"), (0, u "<init>"), (0, u "()V"), (1, .class_ 10), (1, u "java/lang/Number"), (2, .class_ 14), (0, u "java/io/Serializable"), (0, u "serialVersionUID"), (0, u "J")] 20

def k5m0 : Method := { name := "<init>", desc := "()V", sig := { parameters := [], returnType := none }, accessFlags := 1, code := none }
/-- java/lang/Number -/
def k5 : Class := { plain "java/lang/Number" (some 0) with
  accessFlags := 1057
  interfaces := #[4]
  cf := some (fileOf pool5 8 #[] #[{ accessFlags := 1, nameIndex := 5, descriptorIndex := 6, attributes := #[] }] 1057 2 #[13] #[{ accessFlags := 26, nameIndex := 15, descriptorIndex := 16, attributes := #[] }])
  fields := #[{ name := "serialVersionUID", type := .long, accessFlags := 26, slot := 0, constantValue := 0 }]
  methods := #[k5m0]
  instanceTypes := #[]
  staticTypes := #[.long]
  resolved := Array.replicate 37 none
  statics := none }

def pool6 : Array CpInfo := pool [(1, .class_ 2), (0, u "java/lang/Comparable"), (0, .class_ 4), (0, u "java/lang/Object")] 7

/-- java/lang/Comparable -/
def k6 : Class := { plain "java/lang/Comparable" (some 0) with
  accessFlags := 1537
  interfaces := #[]
  cf := some (fileOf pool6 1 #[] #[] 1537 3 #[] #[])
  fields := #[]
  methods := #[]
  instanceTypes := #[]
  staticTypes := #[]
  resolved := Array.replicate 12 none
  statics := none }

def pool7 : Array CpInfo := pool [(1, .class_ 2), (0, u "java/lang/constant/Constable"), (0, .class_ 4), (0, u "java/lang/Object")] 6

/-- java/lang/constant/Constable -/
def k7 : Class := { plain "java/lang/constant/Constable" (some 0) with
  accessFlags := 1537
  interfaces := #[]
  cf := some (fileOf pool7 1 #[] #[] 1537 3 #[] #[])
  fields := #[]
  methods := #[]
  instanceTypes := #[]
  staticTypes := #[]
  resolved := Array.replicate 11 none
  statics := none }

def pool8 : Array CpInfo := pool [(1, .class_ 2), (0, u "java/lang/constant/ConstantDesc"), (0, .class_ 4), (0, u "java/lang/Object")] 32

/-- java/lang/constant/ConstantDesc -/
def k8 : Class := { plain "java/lang/constant/ConstantDesc" (some 0) with
  accessFlags := 1537
  interfaces := #[]
  cf := some (fileOf pool8 1 #[] #[] 1537 3 #[] #[])
  fields := #[]
  methods := #[]
  instanceTypes := #[]
  staticTypes := #[]
  resolved := Array.replicate 37 none
  statics := none }

def pool9 : Array CpInfo := pool [(1, .class_ 2), (0, u "java/lang/Long"), (165, .long 9223372036854775808), (66, .class_ 237), (1, u "java/lang/Long$LongCache"), (33, .class_ 272), (0, u "java/lang/Number"), (2, u "value"), (0, u "J"), (25, .methodref 1 303), (0, .nameAndType 304 305), (0, u "compare"), (0, u "(JJ)I"), (55, u "TYPE"), (0, u "Ljava/lang/Class;"), (0, .class_ 364), (0, u "java/lang/Comparable"), (0, .class_ 366), (0, u "java/lang/constant/Constable"), (0, .class_ 368), (0, u "java/lang/constant/ConstantDesc"), (0, u "MIN_VALUE"), (1, u "MAX_VALUE"), (4, u "SIZE"), (0, u "I"), (1, u "BYTES"), (1, u "serialVersionUID"), (87, u "compareUnsigned")] 54

def k9c0 : Code := { maxStack := 4, maxLocals := 4, code := jdk_35_method_42_code, exceptionTable := #[], attributes := #[] }
def k9m0 : Method := { name := "compare", desc := "(JJ)I", sig := { parameters := [.long, .long], returnType := some .int }, accessFlags := 9, code := some k9c0 }
def k9c1 : Code := { maxStack := 6, maxLocals := 4, code := jdk_35_method_43_code, exceptionTable := #[], attributes := #[] }
def k9m1 : Method := { name := "compareUnsigned", desc := "(JJ)I", sig := { parameters := [.long, .long], returnType := some .int }, accessFlags := 9, code := some k9c1 }
/-- java/lang/Long -/
def k9 : Class := { plain "java/lang/Long" (some 5) with
  accessFlags := 49
  interfaces := #[6, 7, 8]
  cf := some (fileOf pool9 1 #[.nestMembers #[235]] #[{ accessFlags := 9, nameIndex := 304, descriptorIndex := 305, attributes := #[] }, { accessFlags := 9, nameIndex := 469, descriptorIndex := 305, attributes := #[] }] 49 271 #[363, 365, 367] #[{ accessFlags := 25, nameIndex := 369, descriptorIndex := 276, attributes := #[] }, { accessFlags := 25, nameIndex := 371, descriptorIndex := 276, attributes := #[] }, { accessFlags := 25, nameIndex := 361, descriptorIndex := 362, attributes := #[] }, { accessFlags := 18, nameIndex := 275, descriptorIndex := 276, attributes := #[] }, { accessFlags := 25, nameIndex := 376, descriptorIndex := 377, attributes := #[] }, { accessFlags := 25, nameIndex := 379, descriptorIndex := 377, attributes := #[] }, { accessFlags := 26, nameIndex := 381, descriptorIndex := 276, attributes := #[] }])
  fields := #[{ name := "MIN_VALUE", type := .long, accessFlags := 25, slot := 0, constantValue := 0 }, { name := "MAX_VALUE", type := .long, accessFlags := 25, slot := 1, constantValue := 0 }, { name := "TYPE", type := (.object "java/lang/Class"), accessFlags := 25, slot := 2, constantValue := 0 }, { name := "value", type := .long, accessFlags := 18, slot := 0, constantValue := 0 }, { name := "SIZE", type := .int, accessFlags := 25, slot := 3, constantValue := 0 }, { name := "BYTES", type := .int, accessFlags := 25, slot := 4, constantValue := 0 }, { name := "serialVersionUID", type := .long, accessFlags := 26, slot := 5, constantValue := 0 }]
  methods := #[k9m0, k9m1]
  instanceTypes := #[.long]
  staticTypes := #[.long, .long, (.object "java/lang/Class"), .int, .int, .long]
  resolved := Array.replicate 524 none
  statics := none }

def pool10 : Array CpInfo := pool [(1, u "java/lang/Cloneable"), (0, .class_ 1), (0, u "java/lang/Object"), (0, .class_ 3)] 3

/-- java/lang/Cloneable -/
def k10 : Class := { plain "java/lang/Cloneable" (some 0) with
  accessFlags := 1537
  interfaces := #[]
  cf := some (fileOf pool10 2 #[] #[] 1537 4 #[] #[])
  fields := #[]
  methods := #[]
  instanceTypes := #[]
  staticTypes := #[]
  resolved := Array.replicate 8 none
  statics := none }

/-- the primitive byte -/
def k11 : Class := { plain "byte" none with kind := .primitive 'B', accessFlags := 0x411 }
/-- [B -/
def k12 : Class := { plain "[B" (some 0) with kind := .array 11 .byte, interfaces := #[10, 4], accessFlags := 1041 }

/-- the primitive int -/
def k13 : Class := { plain "int" none with kind := .primitive 'I', accessFlags := 0x411 }
/-- [I -/
def k14 : Class := { plain "[I" (some 0) with kind := .array 13 .int, interfaces := #[10, 4], accessFlags := 1041 }

def heap : Heap := #[]
def classes : Array Class := #[k0, k1, k2, k3, k4, k5, k6, k7, k8, k9, k10, k11, k12, k13, k14]
def interned : List (Array UInt16 × Addr) := []
def slotsUsed : Nat := 0
def theMethod : MethodId := ⟨1, 1⟩
def args0 : Array Value := #[.int 3, .int 4, .int 5, .int 6, .int 7]
def aboutOver (below : List Frame) : State where
  vm := { classes := classes, interned := interned.toArray }
  heap := heap
  slotsUsed := slotsUsed
  threads := #[{ frames := .invoking theMethod args0 :: below }]
def below0 : List Frame := [.native { method := ⟨0, 0⟩, args := #[] }]
def about1 : State := aboutOver below0
def p0 : Program := .bare "" "" ""
def e0 : Env := launch0.env 0 0 0
theorem w_frames : about1.frames = Frame.invoking theMethod args0 :: below0 := rfl
set_option maxRecDepth 65536 in
theorem w_args : argsFit about1.vm theMethod args0 = true := by decide +kernel
set_option maxRecDepth 65536 in
theorem w_heap : heapFits about1 = true := by decide +kernel
set_option maxRecDepth 65536 in
theorem w_runnable : about1.curStatus? = some .runnable := by decide +kernel
set_option maxRecDepth 65536 in
theorem w_alone : about1.alone = true := by decide +kernel
set_option maxRecDepth 65536 in
theorem w_named : about1.methodNamed? x = some theMethod := by decide +kernel
set_option maxRecDepth 65536 in
theorem w_hears : about1.hears theMethod below0 = true := by decide +kernel
set_option maxRecDepth 65536 in
theorem w_ripe : about1.ripe theMethod args0 below0 = true := by decide +kernel
theorem w_running : about1.status = .running := rfl
set_option maxRecDepth 65536 in
theorem w_room : about1.hasRoom e0.platform room_1 = true :=
  launch0.hasRoom_least _ room_1 (by decide +kernel) (by decide +kernel) (by decide +kernel) (by decide +kernel) (by decide +kernel) (by decide +kernel)
theorem allAtoms_all (ts : List Jvm.Cond) (a : Array Jvm.Value) (st : Jvm.State) : (allAtoms ts).before a st = ts.all (fun c => c.before a st) := by
  induction ts with
  | nil => rfl
  | cons c t ih =>
    show (Jvm.Cond.and c (allAtoms t)).before a st = _
    rw [Jvm.Cond.before_and, ih, List.all_cons]
def words1 : List Jvm.Cond := Jvm.Cond.code x code maxLocals ret :: tables_1
/-- a 'code' word, met by the world's own term for the bytes: nothing is compared byte by byte -/
theorem code_word {y : MethodName} {bytes : ByteArray} {mx : Nat} {rt : Option FieldType} {a : Array Value} {s : State} {m : MethodId} {meth : Method} {c : Code} (h1 : s.methodNamed? y = some m) (h2 : s.vm.method? m = some meth) (h3 : meth.code = some c) (h4 : c.code = bytes)
    (h5 : (c.maxLocals == mx && c.exceptionTable.isEmpty && decide (c.maxStack ≤ mostOperands) && decide (meth.sig.returnType = rt) && !meth.locks && decide (parseMethodDescriptor y.desc = some meth.sig)) = true) : (Jvm.Cond.code y bytes mx rt).before a s = true := by
  simp only [Bool.and_eq_true, beq_iff_eq, Bool.not_eq_true', decide_eq_true_eq] at h5
  obtain ⟨⟨⟨⟨⟨g1, g2⟩, g3⟩, g4⟩, g5⟩, g6⟩ := h5
  simp [Cond.before, Cond.holds, Cond.value, h1, h2, h3, h4, g1, g2, g3, g4, g5, g6]
def isCode : Jvm.Cond → Bool
  | .code _ _ _ _ => true
  | _ => false
theorem all_split {L : List Jvm.Cond} {P : Jvm.Cond → Bool} (h1 : L.all (fun c => isCode c || P c) = true) (h2 : ∀ c ∈ L.filter isCode, P c = true) : L.all P = true := by
  refine List.all_eq_true.mpr fun c hc => ?_
  have h := List.all_eq_true.mp h1 c hc
  rcases Bool.eq_false_or_eq_true (isCode c) with hi | hi
  · exact h2 c (List.mem_filter.mpr ⟨hc, hi⟩)
  · simpa [hi] using h
set_option maxRecDepth 65536 in
theorem w_c0 : (Jvm.Cond.code x code maxLocals ret).before args0 about1 = true := code_word (m := ⟨1, 1⟩) (meth := k1m1) (c := k1c1) (by decide +kernel) rfl rfl rfl (by decide +kernel)
set_option maxRecDepth 65536 in
theorem w_c1 : (Jvm.Cond.code ({ cls := "com/example/wireform/wireform/wire/Nesting", name := "<init>", desc := "(I)V" } : Jvm.MethodName) prog_67_method_1_code (2 : Nat) (Option.none : Option Jvm.ClassFile.FieldType)).before args0 about1 = true := code_word (m := ⟨2, 0⟩) (meth := k2m0) (c := k2c0) (by decide +kernel) rfl rfl rfl (by decide +kernel)
set_option maxRecDepth 65536 in
theorem w_c2 : (Jvm.Cond.code ({ cls := "java/lang/Object", name := "<init>", desc := "()V" } : Jvm.MethodName) object_method_1_code (1 : Nat) (Option.none : Option Jvm.ClassFile.FieldType)).before args0 about1 = true := code_word (m := ⟨0, 0⟩) (meth := k0m0) (c := k0c0) (by decide +kernel) rfl rfl rfl (by decide +kernel)
set_option maxRecDepth 65536 in
theorem w_c3 : (Jvm.Cond.code ({ cls := "com/example/wireform/wireform/wire/WireReader", name := "<init>", desc := "([BILcom/example/wireform/wireform/wire/Nesting;)V" } : Jvm.MethodName) prog_71_method_3_code (4 : Nat) (Option.none : Option Jvm.ClassFile.FieldType)).before args0 about1 = true := code_word (m := ⟨3, 0⟩) (meth := k3m0) (c := k3c0) (by decide +kernel) rfl rfl rfl (by decide +kernel)
set_option maxRecDepth 65536 in
theorem w_c4 : (Jvm.Cond.code ({ cls := "com/example/wireform/wireform/wire/WireReader", name := "beginMessage", desc := "()I" } : Jvm.MethodName) prog_71_method_14_code (1 : Nat) (Option.some Jvm.ClassFile.FieldType.int)).before args0 about1 = true := code_word (m := ⟨3, 5⟩) (meth := k3m5) (c := k3c5) (by decide +kernel) rfl rfl rfl (by decide +kernel)
set_option maxRecDepth 65536 in
theorem w_c5 : (Jvm.Cond.code ({ cls := "com/example/wireform/wireform/wire/Nesting", name := "enter", desc := "()Z" } : Jvm.MethodName) prog_67_method_3_code (1 : Nat) (Option.some Jvm.ClassFile.FieldType.boolean)).before args0 about1 = true := code_word (m := ⟨2, 1⟩) (meth := k2m1) (c := k2c1) (by decide +kernel) rfl rfl rfl (by decide +kernel)
set_option maxRecDepth 65536 in
theorem w_c6 : (Jvm.Cond.code ({ cls := "com/example/wireform/wireform/wire/WireReader", name := "beginLengthDelimited", desc := "()I" } : Jvm.MethodName) prog_71_method_12_code (3 : Nat) (Option.some Jvm.ClassFile.FieldType.int)).before args0 about1 = true := code_word (m := ⟨3, 3⟩) (meth := k3m3) (c := k3c3) (by decide +kernel) rfl rfl rfl (by decide +kernel)
set_option maxRecDepth 65536 in
theorem w_c7 : (Jvm.Cond.code ({ cls := "com/example/wireform/wireform/wire/WireReader", name := "readLength", desc := "()I" } : Jvm.MethodName) prog_71_method_18_code (4 : Nat) (Option.some Jvm.ClassFile.FieldType.int)).before args0 about1 = true := code_word (m := ⟨3, 7⟩) (meth := k3m7) (c := k3c7) (by decide +kernel) rfl rfl rfl (by decide +kernel)
set_option maxRecDepth 65536 in
theorem w_c8 : (Jvm.Cond.code ({ cls := "com/example/wireform/wireform/wire/WireReader", name := "readVarint", desc := "()J" } : Jvm.MethodName) prog_71_method_5_code (6 : Nat) (Option.some Jvm.ClassFile.FieldType.long)).before args0 about1 = true := code_word (m := ⟨3, 2⟩) (meth := k3m2) (c := k3c2) (by decide +kernel) rfl rfl rfl (by decide +kernel)
set_option maxRecDepth 65536 in
theorem w_c9 : (Jvm.Cond.code ({ cls := "java/lang/Long", name := "compareUnsigned", desc := "(JJ)I" } : Jvm.MethodName) jdk_35_method_43_code (4 : Nat) (Option.some Jvm.ClassFile.FieldType.int)).before args0 about1 = true := code_word (m := ⟨9, 1⟩) (meth := k9m1) (c := k9c1) (by decide +kernel) rfl rfl rfl (by decide +kernel)
set_option maxRecDepth 65536 in
theorem w_c10 : (Jvm.Cond.code ({ cls := "java/lang/Long", name := "compare", desc := "(JJ)I" } : Jvm.MethodName) jdk_35_method_42_code (4 : Nat) (Option.some Jvm.ClassFile.FieldType.int)).before args0 about1 = true := code_word (m := ⟨9, 0⟩) (meth := k9m0) (c := k9c0) (by decide +kernel) rfl rfl rfl (by decide +kernel)
set_option maxRecDepth 65536 in
theorem w_c11 : (Jvm.Cond.code ({ cls := "com/example/wireform/wireform/wire/WireReader", name := "endMessage", desc := "(I)V" } : Jvm.MethodName) prog_71_method_15_code (2 : Nat) (Option.none : Option Jvm.ClassFile.FieldType)).before args0 about1 = true := code_word (m := ⟨3, 6⟩) (meth := k3m6) (c := k3c6) (by decide +kernel) rfl rfl rfl (by decide +kernel)
set_option maxRecDepth 65536 in
theorem w_c12 : (Jvm.Cond.code ({ cls := "com/example/wireform/wireform/wire/WireReader", name := "endLengthDelimited", desc := "(I)V" } : Jvm.MethodName) prog_71_method_13_code (2 : Nat) (Option.none : Option Jvm.ClassFile.FieldType)).before args0 about1 = true := code_word (m := ⟨3, 4⟩) (meth := k3m4) (c := k3c4) (by decide +kernel) rfl rfl rfl (by decide +kernel)
set_option maxRecDepth 65536 in
theorem w_c13 : (Jvm.Cond.code ({ cls := "com/example/wireform/wireform/wire/Nesting", name := "exit", desc := "()V" } : Jvm.MethodName) prog_67_method_4_code (1 : Nat) (Option.none : Option Jvm.ClassFile.FieldType)).before args0 about1 = true := code_word (m := ⟨2, 2⟩) (meth := k2m2) (c := k2c2) (by decide +kernel) rfl rfl rfl (by decide +kernel)
set_option maxRecDepth 65536 in
theorem w_c14 : (Jvm.Cond.code ({ cls := "com/example/wireform/wireform/wire/WireReader", name := "isAtEnd", desc := "()Z" } : Jvm.MethodName) prog_71_method_4_code (1 : Nat) (Option.some Jvm.ClassFile.FieldType.boolean)).before args0 about1 = true := code_word (m := ⟨3, 1⟩) (meth := k3m1) (c := k3c1) (by decide +kernel) rfl rfl rfl (by decide +kernel)
def codes1 : List Jvm.Cond := [Jvm.Cond.code x code maxLocals ret, Jvm.Cond.code ({ cls := "com/example/wireform/wireform/wire/Nesting", name := "<init>", desc := "(I)V" } : Jvm.MethodName) prog_67_method_1_code (2 : Nat) (Option.none : Option Jvm.ClassFile.FieldType), Jvm.Cond.code ({ cls := "java/lang/Object", name := "<init>", desc := "()V" } : Jvm.MethodName) object_method_1_code (1 : Nat) (Option.none : Option Jvm.ClassFile.FieldType), Jvm.Cond.code ({ cls := "com/example/wireform/wireform/wire/WireReader", name := "<init>", desc := "([BILcom/example/wireform/wireform/wire/Nesting;)V" } : Jvm.MethodName) prog_71_method_3_code (4 : Nat) (Option.none : Option Jvm.ClassFile.FieldType), Jvm.Cond.code ({ cls := "com/example/wireform/wireform/wire/WireReader", name := "beginMessage", desc := "()I" } : Jvm.MethodName) prog_71_method_14_code (1 : Nat) (Option.some Jvm.ClassFile.FieldType.int), Jvm.Cond.code ({ cls := "com/example/wireform/wireform/wire/Nesting", name := "enter", desc := "()Z" } : Jvm.MethodName) prog_67_method_3_code (1 : Nat) (Option.some Jvm.ClassFile.FieldType.boolean), Jvm.Cond.code ({ cls := "com/example/wireform/wireform/wire/WireReader", name := "beginLengthDelimited", desc := "()I" } : Jvm.MethodName) prog_71_method_12_code (3 : Nat) (Option.some Jvm.ClassFile.FieldType.int), Jvm.Cond.code ({ cls := "com/example/wireform/wireform/wire/WireReader", name := "readLength", desc := "()I" } : Jvm.MethodName) prog_71_method_18_code (4 : Nat) (Option.some Jvm.ClassFile.FieldType.int), Jvm.Cond.code ({ cls := "com/example/wireform/wireform/wire/WireReader", name := "readVarint", desc := "()J" } : Jvm.MethodName) prog_71_method_5_code (6 : Nat) (Option.some Jvm.ClassFile.FieldType.long), Jvm.Cond.code ({ cls := "java/lang/Long", name := "compareUnsigned", desc := "(JJ)I" } : Jvm.MethodName) jdk_35_method_43_code (4 : Nat) (Option.some Jvm.ClassFile.FieldType.int), Jvm.Cond.code ({ cls := "java/lang/Long", name := "compare", desc := "(JJ)I" } : Jvm.MethodName) jdk_35_method_42_code (4 : Nat) (Option.some Jvm.ClassFile.FieldType.int), Jvm.Cond.code ({ cls := "com/example/wireform/wireform/wire/WireReader", name := "endMessage", desc := "(I)V" } : Jvm.MethodName) prog_71_method_15_code (2 : Nat) (Option.none : Option Jvm.ClassFile.FieldType), Jvm.Cond.code ({ cls := "com/example/wireform/wireform/wire/WireReader", name := "endLengthDelimited", desc := "(I)V" } : Jvm.MethodName) prog_71_method_13_code (2 : Nat) (Option.none : Option Jvm.ClassFile.FieldType), Jvm.Cond.code ({ cls := "com/example/wireform/wireform/wire/Nesting", name := "exit", desc := "()V" } : Jvm.MethodName) prog_67_method_4_code (1 : Nat) (Option.none : Option Jvm.ClassFile.FieldType), Jvm.Cond.code ({ cls := "com/example/wireform/wireform/wire/WireReader", name := "isAtEnd", desc := "()Z" } : Jvm.MethodName) prog_71_method_4_code (1 : Nat) (Option.some Jvm.ClassFile.FieldType.boolean)]
set_option maxRecDepth 65536 in
theorem codes_eq : words1.filter isCode = codes1 := rfl
theorem w_codes : ∀ c ∈ words1.filter isCode, c.before args0 about1 = true := by
  rw [codes_eq]
  intro c hc
  simp only [codes1, List.mem_cons, List.not_mem_nil, or_false] at hc
  rcases hc with rfl | rfl | rfl | rfl | rfl | rfl | rfl | rfl | rfl | rfl | rfl | rfl | rfl | rfl | rfl
  · exact w_c0
  · exact w_c1
  · exact w_c2
  · exact w_c3
  · exact w_c4
  · exact w_c5
  · exact w_c6
  · exact w_c7
  · exact w_c8
  · exact w_c9
  · exact w_c10
  · exact w_c11
  · exact w_c12
  · exact w_c13
  · exact w_c14
set_option maxRecDepth 65536 in
theorem w_t1 : (words1.take 24).all (fun c => isCode c || c.before args0 about1) = true := by decide +kernel
set_option maxRecDepth 65536 in
theorem w_t2 : ((words1.drop 24).take 24).all (fun c => isCode c || c.before args0 about1) = true := by decide +kernel
set_option maxRecDepth 65536 in
theorem w_t3 : (((words1.drop 24).drop 24).take 24).all (fun c => isCode c || c.before args0 about1) = true := by decide +kernel
set_option maxRecDepth 65536 in
theorem w_t4 : (((words1.drop 24).drop 24).drop 24).all (fun c => isCode c || c.before args0 about1) = true := by decide +kernel
theorem w_tables : (allAtoms (Jvm.Cond.code x code maxLocals ret :: tables_1)).before args0 about1 = true := by
  rw [allAtoms_all]
  show words1.all (fun c => c.before args0 about1) = true
  refine all_split ?_ w_codes
  rw [← List.take_append_drop 24 words1, List.all_append, w_t1, ← List.take_append_drop 24 (words1.drop 24), List.all_append, w_t2, ← List.take_append_drop 24 ((words1.drop 24).drop 24), List.all_append, w_t3, w_t4]
  rfl
set_option maxRecDepth 65536 in
theorem w_case : (Jvm.Cond.and given_1 narrow_1).before args0 about1 = true := by decide +kernel
theorem w_applies : (headSpec (Jvm.Cond.code x code maxLocals ret :: tables_1) room_1).applies x e0.platform about1 = true :=
  (Spec.applies_iff w_frames).mpr ⟨w_running, w_runnable, w_alone, w_named, w_hears, w_ripe, w_room, w_tables⟩
theorem atStart : AtStart classFile x code maxLocals ret World_1 tables_1 room_1 Calls_1 rest_1 Pre_1 launch0 p0 e0 about1 theMethod args0 below0 :=
  ⟨lists_1, trivial, launch0.admits_env _ _ _, launch0.least_env, fairChoices_fair.cas, fairChoices_fair.clock, w_frames, w_args, w_heap, w_applies, trivial, trivial, w_case⟩
end start1
theorem witness_1 : WitnessClaimed_1 := ⟨start1.p0, start1.e0, start1.about1, start1.theMethod, start1.args0, start1.below0, start1.atStart⟩
end Jvm.Pilot.@@N@@
