import JvmDerived
import JvmDerived.Pilot.@@N@@Statement
import JvmDerived.Pilot.@@N@@Code
set_option linter.unusedVariables false
set_option linter.unusedSimpArgs false
namespace Jvm.RoadKit
open Sem ClassFile Op Lib Jvm.Stand Jvm.Free Jvm.LawKit
section New
variable {p : Program} {l : Launch} {e : Env} {R : Room} {s : State} {m : MethodId} {args : Array Value} {below : List Frame} {meth : Method} {c : Code} {T : State} {locs : List Loc} {cells slots : Nat}
theorem retI (X : Stand p l e R s m args below meth c T locs cells slots) (hx : p.tables.exec = Jvm.exec) {pc : Nat} {Ls : Array Slot} {z : Int32} {rest : List Value} (hret : meth.sig.returnType = some .int) (hd : decode c.code pc = .ok (.ireturn, 1)) {fs : List Frame}
    (hl : ∀ (f : JFrame) (acts : List Action), f.method = m → f.locked = none → f.entered = [] → (doReturn e (T.setTop f) acts (some (.int z))).1 = T.setFrames fs) : Steps p.tables e below (T.setTop (mkF m pc Ls (.int z :: rest))) (T.setFrames fs) := by
  have hm' : T.vm.method? m = some meth := X.method'
  have hn : narrow .int (.int z) = .int z := rfl
  show Steps p.tables e below (T.setTop { method := m, pc := pc, locals := Ls, stack := _ :: rest, locked := none }) _
  jvm_step X.here [X.here.top, hx, hd, hm', hret, hn]
  first | (intro acts; rw [hl _ acts rfl rfl rfl]) | rw [hl _ _ rfl rfl rfl]
  exact Steps.refl _
end New
/-- from the state A the run comes to a state that P describes -/
def own_Lead (tb : Tables) (e : Env) (below : List Frame) (A : State) (P : State → Prop) : Prop := ∃ B, P B ∧ ∀ t, Steps tb e below B t → Steps tb e below A t
theorem own_st {tb : Tables} {e : Env} {below : List Frame} {A B : State} {P : State → Prop} (st : ∀ t, Steps tb e below B t → Steps tb e below A t) (h : own_Lead tb e below B P) : own_Lead tb e below A P := by
  obtain ⟨C, hp, hs⟩ := h
  exact ⟨C, hp, fun t k => st t (hs t k)⟩
theorem own_fin {tb : Tables} {e : Env} {below : List Frame} {A B : State} {P : State → Prop} (st : Steps tb e below A B) (h : P B) : own_Lead tb e below A P := ⟨B, h, fun t k => st.trans k⟩
theorem own_run {tb : Tables} {e : Env} {below : List Frame} {A : State} {K : State → Outcome → Prop} (h : own_Lead tb e below A (fun B => ∃ o, K B o)) : ∃ s₂ o, Steps tb e below A s₂ ∧ K s₂ o := by
  obtain ⟨B, ⟨o, hk⟩, st⟩ := h
  exact ⟨B, o, st B (Steps.refl _), hk⟩
/-- a boolean as an int -/
def own_b (P : Prop) [Decidable P] : Int32 := if P then 1 else 0
theorem own_b1 {P : Prop} [Decidable P] (h : P) : own_b P = 1 := if_pos h
theorem own_b0 {P : Prop} [Decidable P] (h : ¬ P) : own_b P = 0 := if_neg h
theorem own_bn0 {P : Prop} [Decidable P] {x : Int32} (hx : x = own_b P) (h : P) : ¬ x = 0 := by rw [hx, own_b1 h]; decide
theorem own_b00 {P : Prop} [Decidable P] {x : Int32} (hx : x = own_b P) (h : ¬ P) : x = 0 := by rw [hx, own_b0 h]
/-- the array at a has n places, the i-th holds g i -/
def own_RayB (Z : State) (h : Heap) (a : Addr) (n : Nat) (g : Nat → Int32) : Prop := ∃ c : Cell, Arr Z h a c .byte ∧ c.slots.size = n ∧ ∀ i, i < n → c.slots[i]? = some (Value.int (g i)) ∧ fits .byte (.int (g i)) = true
theorem own_RayB.ext {Z : State} {h h' : Heap} {a : Addr} {n : Nat} {g : Nat → Int32} (F : own_RayB Z h a n g) (E : Ext h h') : own_RayB Z h' a n g := by obtain ⟨c, A, r⟩ := F; exact ⟨c, A.ext E, r⟩
theorem own_RayB.other {Z : State} {h h' : Heap} {a b : Addr} {n sl : Nat} {v : Value} {g : Nat → Int32} (F : own_RayB Z h b n g) (W : Wr h h' a sl v) (q : b ≠ a) : own_RayB Z h' b n g := by obtain ⟨c, A, r⟩ := F; exact ⟨c, A.other W q, r⟩
theorem own_RayB.keep {Z : State} {h h' : Heap} {a : Addr} {n : Nat} {ws : List Addr} {g : Nat → Int32} (F : own_RayB Z h a n g) (K : Keep h h' ws) (q : a ∉ ws) : own_RayB Z h' a n g := by obtain ⟨c, A, r⟩ := F; exact ⟨c, ⟨K.2.1 a c A.1 q, A.2⟩, r⟩
theorem own_RayB.lt {Z : State} {h : Heap} {a : Addr} {n : Nat} {g : Nat → Int32} (F : own_RayB Z h a n g) : a < h.size := by obtain ⟨c, A, r⟩ := F; exact A.lt
theorem own_RayB.cast {Z : State} {h : Heap} {a : Addr} {n : Nat} {g g' : Nat → Int32} (e : g = g') (F : own_RayB Z h a n g) : own_RayB Z h a n g' := e ▸ F
theorem own_RayB_new {Z : State} {h : Heap} {a : Addr} {k : ClassId} {z : Int32} {n : Nat} (A : Arr Z h a (newA k .byte z) .byte) (q : ¬ z < 0) (e : z.toNatClampNeg = n) : own_RayB Z h a n (fun _ => (0 : Int32)) := by
  obtain ⟨c, A', -, S, -, H, -⟩ := Arv.new A q
  refine ⟨c, A', S.trans e, fun i hi => ?_⟩
  have := H i (by rw [S, e]; exact hi)
  exact ⟨by first | exact this | simpa [defaultValue] using this, rfl⟩
theorem own_RayB_set {Z : State} {h h' : Heap} {a : Addr} {n k : Nat} {g : Nat → Int32} {j : Int32} {v : Int32} (F : own_RayB Z h a n g) (W : Wr h h' a j.toNatClampNeg (Value.int v)) (e : j.toNatClampNeg = k) (hv : fits .byte (.int v) = true) : own_RayB Z h' a n (fun i => if i = k then v else g i) := by
  obtain ⟨c, A, S, H⟩ := F
  refine ⟨_, A.same W, by first | exact (sz_set _ _ _).trans S | simp [Cell.setSlot, S], fun i hi => ?_⟩
  show (c.slots.setIfInBounds j.toNatClampNeg (Value.int v))[i]? = _ ∧ fits .byte (.int (if i = k then v else g i)) = true
  rw [Array.getElem?_setIfInBounds, e]
  by_cases hk : k = i
  · subst hk
    simp [S, hi, hv]
  · have := H i hi
    simp [hk, Ne.symm hk, this]
theorem own_RayB_nth {c : Cell} {n : Nat} {g : Nat → Int32} {j : Int32} (H : ∀ i, i < n → c.slots[i]? = some (Value.int (g i)) ∧ fits .byte (.int (g i)) = true) (S : c.slots.size = n) (hin : ¬ (j < 0 ∨ c.slots.size ≤ j.toNatClampNeg)) : c.slots[j.toNatClampNeg]? = some (Value.int (g j.toNatClampNeg)) :=
  (H _ (S ▸ Nat.lt_of_not_le fun q => hin (Or.inr q))).1
section Copy
variable {p : Program} {l : Launch} {e : Env} {R : Room} {s : State} {m : MethodId} {args : Array Value} {below : List Frame} {meth : Method} {c : Code} {T : State} {locs : List Loc} {cells slots : Nat} {Z : State} {h : Heap} {a b : Addr}
end Copy
theorem own_inb {c : Cell} {n : Nat} {j : Int32} (S : c.slots.size = n) (q : ¬ j < 0 ∧ j.toNatClampNeg < n) : ¬ (j < 0 ∨ c.slots.size ≤ j.toNatClampNeg) := fun w => w.elim q.1 fun z => absurd q.2 (Nat.not_lt.mpr (S ▸ z))
section Cold
variable {p : Program} {l : Launch} {e : Env} {R : Room} {s : State} {vm0 : Vm} {m : MethodId} {args : Array Value} {below : List Frame} {meth : Method} {c : Code} {T : State} {locs : List Loc} {cells slots : Nat} {Z : State} {a0 : Array Value} {h : Heap}
end Cold
end Jvm.RoadKit
namespace Jvm.Pilot.@@N@@
open Jvm Jvm.ClassFile Sem Op Lib Jvm.Free Jvm.Stand Jvm.LawKit Jvm.RoadKit Bundle Jvm.Pilot.@@N@@.Jvm.D
theorem own_at (a v : Int32) (h : v = a &&& (3 : Int32)) : v = (0 : Int32) ∨ v = (1 : Int32) ∨ v = (2 : Int32) ∨ v = (3 : Int32) := by
  have h1 := c_mask a 3 2 (by decide) (by decide)
  rw [← h] at h1
  have e0 : (0 : Int32).toInt = 0 := by decide
  have e1 : (1 : Int32).toInt = 1 := by decide
  have e2 : (2 : Int32).toInt = 2 := by decide
  have e3 : (3 : Int32).toInt = 3 := by decide
  simp only [← Int32.toInt_inj, e0, e1, e2, e3]
  omega
theorem own_in (v : Int32) (h : v = (0 : Int32) ∨ v = (1 : Int32) ∨ v = (2 : Int32) ∨ v = (3 : Int32)) : (¬ v < 0 ∧ v.toNatClampNeg < 8) ∧ (¬ (v + (1 : Int32)) < 0 ∧ (v + (1 : Int32)).toNatClampNeg < 8) ∧ (¬ (v + (2 : Int32)) < 0 ∧ (v + (2 : Int32)).toNatClampNeg < 8) ∧ (¬ (v + (3 : Int32)) < 0 ∧ (v + (3 : Int32)).toNatClampNeg < 8) := by
  rcases h with rfl | rfl | rfl | rfl <;> decide
theorem own_d2_0 : decode jdk_29_method_69_code 0 = .ok (.iload_n 0, 1) := by decide +kernel
theorem own_d2_1 : decode jdk_29_method_69_code 1 = .ok (.iload_n 1, 1) := by decide +kernel
theorem own_d2_2 : decode jdk_29_method_69_code 2 = .ok (.if_icmp .gt 7, 3) := by decide +kernel
theorem own_d2_5 : decode jdk_29_method_69_code 5 = .ok (.iload_n 0, 1) := by decide +kernel
theorem own_d2_6 : decode jdk_29_method_69_code 6 = .ok (.goto 4, 3) := by decide +kernel
theorem own_d2_9 : decode jdk_29_method_69_code 9 = .ok (.iload_n 1, 1) := by decide +kernel
theorem own_d2_10 : decode jdk_29_method_69_code 10 = .ok (.ireturn, 1) := by decide +kernel
theorem own_ef2 (m : MethodId) (p0 : Int32) (p1 : Int32) : entryFrame m #[(.int p0), (.int p1)] 2 = mkF m 0 #[iv p0, iv p1] [] := by first | (simp [entryFrame, mkF, argsToLocals, Value.category]; done) | rfl
def own_Q2 (Z : State) (p0 : Int32) (p1 : Int32) (h0 : Heap) (n0 : Nat) (v : Option Value) (h : Heap) (L : List Loc) : Prop := (v = some (.int ((if p1 < p0 then p1 else p0)))) ∧ (Fr n0 L) ∧ (h = h0)
set_option maxRecDepth 65536 in
set_option maxHeartbeats 40000000 in
theorem own_rm2 (l : Launch) (Z : State) (a0 : Array Value) (hw : ∀ d ∈ tables_1, d.before a0 Z = true) (ws : List Jvm.Cond) (p0 : Int32) (p1 : Int32) (h0 : Heap) (n0 : Nat) (Z0 : n0 ≤ h0.size) :
    MetFree l (⟨"java/lang/Math", "min", "(II)I"⟩ : MethodName) (head1 (Jvm.Cond.code (⟨"java/lang/Math", "min", "(II)I"⟩ : MethodName) jdk_29_method_69_code 2 (some .int) :: ws) ({ frames := 0, cells := 0, slots := 0, locals := 0 } : Room)) (fun a U => a = #[(.int p0), (.int p1)] ∧ Z.Warmed39 U.vm ∧ U.heap = h0) (fun _ _ _ _ _ => True) (fun _ U o U' => ∃ v L, o = .returned v ∧ own_Q2 Z p0 p1 h0 n0 v U'.heap L ∧ FrameEnd U o U' L ({ frames := 0, cells := 0, slots := 0, locals := 0 } : Room).cells ({ frames := 0, cells := 0, slots := 0, locals := 0 } : Room).slots) := by
  refine MetFree.of_bodySF (Jvm.Free.JP.mathPlain rfl (by decide +kernel)) hisR ?_
  intro p e s m args below meth c s₁ Bd hml0 hP hK
  obtain ⟨rfl, hZ, hh⟩ := hP
  have hx := Bd.exec
  have hby := Bd.bytes
  have hml : c.maxLocals = 2 := hml0
  have hown : s.vm.findClass "java/lang/Math" = some m.cls := findClass_of_methodNamed Bd.named
  have hnm := (name_of_methodNamed Bd.named Bd.method).1
  have X0 : Stand p l e ({ frames := 0, cells := 0, slots := 0, locals := 0 } : Room) s m #[(.int p0), (.int p1)] below meth c s₁ [] 0 0 := Stand.of_body Bd
  have e0 : s₁.heap = h0 := by rw [← hh, Bd.state]; rfl
  have N0 := Fr.nil n0
  have pre0 : ∀ t, Steps p.tables e below (s₁.setTop (mkF m 0 #[iv p0, iv p1] [])) t → Steps p.tables e below (s₁.setTop (entryFrame m #[(.int p0), (.int p1)] 2)) t := fun t k => castTop (own_ef2 m p0 p1) k
  refine own_run (own_st pre0 ?_)
  refine own_st (B := s₁.setTop (mkF m 2 #[iv p0, iv p1] [(.int p1), (.int p0)])) (fun target kt => ?_) ?_
  · show Steps p.tables e below (s₁.setTop (mkF m 0 #[iv p0, iv p1] [])) target
    refine XS.iloadN X0.here hx rfl (hb hby own_d2_0) rfl ?_
    refine XS.iloadN X0.here hx rfl (hb hby own_d2_1) rfl ?_
    exact kt
  obtain ⟨_, ⟨j10_s0, rfl, hj10_s0⟩, st_M10⟩ : own_Lead p.tables e below (s₁.setTop (mkF m 2 #[iv p0, iv p1] [(.int p1), (.int p0)])) (fun B => ∃ (j10_s0 : Int32), B = s₁.setTop (mkF m 10 #[iv p0, iv p1] [(.int j10_s0)]) ∧ j10_s0 = (if p1 < p0 then p1 else p0)) := by
    by_cases c2 : p1 < p0
    · refine own_st (B := s₁.setTop (mkF m 10 #[iv p0, iv p1] [(.int p1)])) (fun target kt => ?_) ?_
      · show Steps p.tables e below (s₁.setTop (mkF m 2 #[iv p0, iv p1] [(.int p1), (.int p0)])) target
        refine XS.icmpYes X0.here hx rfl (pc0 := 2) (pc' := 9) rfl (hb hby own_d2_2) rfl (tlt c2).2.2.1 (by decide) (by decide) ?_
        refine XS.iloadN X0.here hx rfl (hb hby own_d2_9) rfl ?_
        exact kt
      exact ⟨_, ⟨p1, rfl, (if_pos c2).symm⟩, fun _ k => k⟩
    · refine own_st (B := s₁.setTop (mkF m 10 #[iv p0, iv p1] [(.int p0)])) (fun target kt => ?_) ?_
      · show Steps p.tables e below (s₁.setTop (mkF m 2 #[iv p0, iv p1] [(.int p1), (.int p0)])) target
        refine XS.icmpNo X0.here hx rfl (hb hby own_d2_2) rfl (flt c2).2.2.1 ?_
        refine XS.iloadN X0.here hx rfl (hb hby own_d2_5) rfl ?_
        refine XS.goto X0.here hx rfl (pc0 := 6) (pc' := 10) rfl (hb hby own_d2_6) (by decide) (by decide) ?_
        exact kt
      exact ⟨_, ⟨p0, rfl, (if_neg c2).symm⟩, fun _ k => k⟩
  refine own_st st_M10 ?_
  obtain ⟨fs, hr, hrun, hended, hW, hsame⟩ := X0.leave (v := some (.int j10_s0)) (fun h => by rw [Bd.returns] at h; cases h)
  have hend : Steps p.tables e below (s₁.setTop (mkF m 10 #[iv p0, iv p1] [(.int j10_s0)])) (s₁.setFrames fs) := by
    exact retI X0 hx Bd.returns (hb hby own_d2_10) hr
  refine own_fin hend ⟨_, hrun, hended, _, _, rfl, ?_, ⟨_, rfl⟩, hW, hsame.mono (by decide) (by decide)⟩
  show own_Q2 Z p0 p1 h0 n0 _ s₁.heap _
  rw [e0]
  subst hj10_s0
  exact ⟨(congrArg (fun z => some (Value.int z)) rfl), N0, rfl⟩
theorem own_pn0 : plainName "com/example/psyche/psyche/XmlCharsSequenceLengthPinLaw" = true := by first | (simp [plainName, overriddenIn]; done) | decide +kernel
theorem own_d3_0 : decode method_2_code 0 = .ok (.iload_n 0, 1) := by decide +kernel
theorem own_d3_1 : decode method_2_code 1 = .ok (.iconst 2, 1) := by decide +kernel
theorem own_d3_2 : decode method_2_code 2 = .ok (.if_icmp .ne 10, 3) := by decide +kernel
theorem own_d3_5 : decode method_2_code 5 = .ok (.iload_n 1, 1) := by decide +kernel
theorem own_d3_6 : decode method_2_code 6 = .ok (.bipush 6, 2) := by decide +kernel
theorem own_d3_8 : decode method_2_code 8 = .ok (.ishl, 1) := by decide +kernel
theorem own_d3_9 : decode method_2_code 9 = .ok (.iload_n 2, 1) := by decide +kernel
theorem own_d3_10 : decode method_2_code 10 = .ok (.ior, 1) := by decide +kernel
theorem own_d3_11 : decode method_2_code 11 = .ok (.ireturn, 1) := by decide +kernel
theorem own_d3_12 : decode method_2_code 12 = .ok (.iload_n 0, 1) := by decide +kernel
theorem own_d3_13 : decode method_2_code 13 = .ok (.iconst 3, 1) := by decide +kernel
theorem own_d3_14 : decode method_2_code 14 = .ok (.if_icmp .ne 15, 3) := by decide +kernel
theorem own_d3_17 : decode method_2_code 17 = .ok (.iload_n 1, 1) := by decide +kernel
theorem own_d3_18 : decode method_2_code 18 = .ok (.bipush 12, 2) := by decide +kernel
theorem own_d3_20 : decode method_2_code 20 = .ok (.ishl, 1) := by decide +kernel
theorem own_d3_21 : decode method_2_code 21 = .ok (.iload_n 2, 1) := by decide +kernel
theorem own_d3_22 : decode method_2_code 22 = .ok (.bipush 6, 2) := by decide +kernel
theorem own_d3_24 : decode method_2_code 24 = .ok (.ishl, 1) := by decide +kernel
theorem own_d3_25 : decode method_2_code 25 = .ok (.ior, 1) := by decide +kernel
theorem own_d3_26 : decode method_2_code 26 = .ok (.iload_n 3, 1) := by decide +kernel
theorem own_d3_27 : decode method_2_code 27 = .ok (.ior, 1) := by decide +kernel
theorem own_d3_28 : decode method_2_code 28 = .ok (.ireturn, 1) := by decide +kernel
theorem own_d3_29 : decode method_2_code 29 = .ok (.iload_n 1, 1) := by decide +kernel
theorem own_d3_30 : decode method_2_code 30 = .ok (.bipush 18, 2) := by decide +kernel
theorem own_d3_32 : decode method_2_code 32 = .ok (.ishl, 1) := by decide +kernel
theorem own_d3_33 : decode method_2_code 33 = .ok (.iload_n 2, 1) := by decide +kernel
theorem own_d3_34 : decode method_2_code 34 = .ok (.bipush 12, 2) := by decide +kernel
theorem own_d3_36 : decode method_2_code 36 = .ok (.ishl, 1) := by decide +kernel
theorem own_d3_37 : decode method_2_code 37 = .ok (.ior, 1) := by decide +kernel
theorem own_d3_38 : decode method_2_code 38 = .ok (.iload_n 3, 1) := by decide +kernel
theorem own_d3_39 : decode method_2_code 39 = .ok (.bipush 6, 2) := by decide +kernel
theorem own_d3_41 : decode method_2_code 41 = .ok (.ishl, 1) := by decide +kernel
theorem own_d3_42 : decode method_2_code 42 = .ok (.ior, 1) := by decide +kernel
theorem own_d3_43 : decode method_2_code 43 = .ok (.iload 4, 2) := by decide +kernel
theorem own_d3_45 : decode method_2_code 45 = .ok (.ior, 1) := by decide +kernel
theorem own_d3_46 : decode method_2_code 46 = .ok (.ireturn, 1) := by decide +kernel
theorem own_ef3 (m : MethodId) (p0 : Int32) (p1 : Int32) (p2 : Int32) (p3 : Int32) (p4 : Int32) : entryFrame m #[(.int p0), (.int p1), (.int p2), (.int p3), (.int p4)] 5 = mkF m 0 #[iv p0, iv p1, iv p2, iv p3, iv p4] [] := by first | (simp [entryFrame, mkF, argsToLocals, Value.category]; done) | rfl
def own_Q3 (Z : State) (p0 : Int32) (p1 : Int32) (p2 : Int32) (p3 : Int32) (p4 : Int32) (h0 : Heap) (n0 : Nat) (v : Option Value) (h : Heap) (L : List Loc) : Prop := (v = some (.int (if p0 = (2 : Int32) then ((p1 <<< ((6 : Int32) &&& 31)) ||| p2) else (if p0 = (3 : Int32) then (((p1 <<< ((12 : Int32) &&& 31)) ||| (p2 <<< ((6 : Int32) &&& 31))) ||| p3) else ((((p1 <<< ((18 : Int32) &&& 31)) ||| (p2 <<< ((12 : Int32) &&& 31))) ||| (p3 <<< ((6 : Int32) &&& 31))) ||| p4))))) ∧ (Fr n0 L) ∧ (h = h0)
set_option maxRecDepth 65536 in
set_option maxHeartbeats 40000000 in
theorem own_rm3 (l : Launch) (Z : State) (a0 : Array Value) (hw : ∀ d ∈ tables_1, d.before a0 Z = true) (ws : List Jvm.Cond) (p0 : Int32) (p1 : Int32) (p2 : Int32) (p3 : Int32) (p4 : Int32) (h0 : Heap) (n0 : Nat) (Z0 : n0 ≤ h0.size) :
    MetFree l (⟨"com/example/psyche/psyche/XmlCharsSequenceLengthPinLaw", "compose", "(IIIII)I"⟩ : MethodName) (head1 (Jvm.Cond.code (⟨"com/example/psyche/psyche/XmlCharsSequenceLengthPinLaw", "compose", "(IIIII)I"⟩ : MethodName) method_2_code 5 (some .int) :: ws) ({ frames := 0, cells := 0, slots := 0, locals := 0 } : Room)) (fun a U => a = #[(.int p0), (.int p1), (.int p2), (.int p3), (.int p4)] ∧ Z.Warmed39 U.vm ∧ U.heap = h0) (fun _ _ _ _ _ => True) (fun _ U o U' => ∃ v L, o = .returned v ∧ own_Q3 Z p0 p1 p2 p3 p4 h0 n0 v U'.heap L ∧ FrameEnd U o U' L ({ frames := 0, cells := 0, slots := 0, locals := 0 } : Room).cells ({ frames := 0, cells := 0, slots := 0, locals := 0 } : Room).slots) := by
  refine MetFree.of_bodySF (plainFor_of_name own_pn0) hisR ?_
  intro p e s m args below meth c s₁ Bd hml0 hP hK
  obtain ⟨rfl, hZ, hh⟩ := hP
  have hx := Bd.exec
  have hby := Bd.bytes
  have hml : c.maxLocals = 5 := hml0
  have hown : s.vm.findClass "com/example/psyche/psyche/XmlCharsSequenceLengthPinLaw" = some m.cls := findClass_of_methodNamed Bd.named
  have hnm := (name_of_methodNamed Bd.named Bd.method).1
  have X0 : Stand p l e ({ frames := 0, cells := 0, slots := 0, locals := 0 } : Room) s m #[(.int p0), (.int p1), (.int p2), (.int p3), (.int p4)] below meth c s₁ [] 0 0 := Stand.of_body Bd
  have e0 : s₁.heap = h0 := by rw [← hh, Bd.state]; rfl
  have N0 := Fr.nil n0
  have pre0 : ∀ t, Steps p.tables e below (s₁.setTop (mkF m 0 #[iv p0, iv p1, iv p2, iv p3, iv p4] [])) t → Steps p.tables e below (s₁.setTop (entryFrame m #[(.int p0), (.int p1), (.int p2), (.int p3), (.int p4)] 5)) t := fun t k => castTop (own_ef3 m p0 p1 p2 p3 p4) k
  refine own_run (own_st pre0 ?_)
  refine own_st (B := s₁.setTop (mkF m 2 #[iv p0, iv p1, iv p2, iv p3, iv p4] [(.int (2 : Int32)), (.int p0)])) (fun target kt => ?_) ?_
  · show Steps p.tables e below (s₁.setTop (mkF m 0 #[iv p0, iv p1, iv p2, iv p3, iv p4] [])) target
    refine XS.iloadN X0.here hx rfl (hb hby own_d3_0) rfl ?_
    refine XS.iconst X0.here hx rfl (hb hby own_d3_1) ?_
    exact kt
  by_cases c2 : p0 = (2 : Int32)
  · refine own_st (B := s₁.setTop (mkF m 11 #[iv p0, iv p1, iv p2, iv p3, iv p4] [(.int ((p1 <<< ((6 : Int32) &&& 31)) ||| p2))])) (fun target kt => ?_) ?_
    · show Steps p.tables e below (s₁.setTop (mkF m 2 #[iv p0, iv p1, iv p2, iv p3, iv p4] [(.int (2 : Int32)), (.int p0)])) target
      refine XS.icmpNo X0.here hx rfl (hb hby own_d3_2) rfl (teq c2).2 ?_
      refine XS.iloadN X0.here hx rfl (hb hby own_d3_5) rfl ?_
      refine XS.bipush X0.here hx rfl (hb hby own_d3_6) ?_
      refine XS.ishl X0.here hx rfl (hb hby own_d3_8) rfl ?_
      refine XS.iloadN X0.here hx rfl (hb hby own_d3_9) rfl ?_
      refine XS.ior X0.here hx rfl (hb hby own_d3_10) rfl ?_
      exact kt
    obtain ⟨fs, hr, hrun, hended, hW, hsame⟩ := X0.leave (v := some (.int ((p1 <<< ((6 : Int32) &&& 31)) ||| p2))) (fun h => by rw [Bd.returns] at h; cases h)
    have hend : Steps p.tables e below (s₁.setTop (mkF m 11 #[iv p0, iv p1, iv p2, iv p3, iv p4] [(.int ((p1 <<< ((6 : Int32) &&& 31)) ||| p2))])) (s₁.setFrames fs) := by
      exact retI X0 hx Bd.returns (hb hby own_d3_11) hr
    refine own_fin hend ⟨_, hrun, hended, _, _, rfl, ?_, ⟨_, rfl⟩, hW, hsame.mono (by decide) (by decide)⟩
    show own_Q3 Z p0 p1 p2 p3 p4 h0 n0 _ s₁.heap _
    rw [e0]
    exact ⟨(congrArg (fun z => some (Value.int z)) (if_pos c2).symm), N0, rfl⟩
  · refine own_st (B := s₁.setTop (mkF m 14 #[iv p0, iv p1, iv p2, iv p3, iv p4] [(.int (3 : Int32)), (.int p0)])) (fun target kt => ?_) ?_
    · show Steps p.tables e below (s₁.setTop (mkF m 2 #[iv p0, iv p1, iv p2, iv p3, iv p4] [(.int (2 : Int32)), (.int p0)])) target
      refine XS.icmpYes X0.here hx rfl (pc0 := 2) (pc' := 12) rfl (hb hby own_d3_2) rfl (feq c2).2 (by decide) (by decide) ?_
      refine XS.iloadN X0.here hx rfl (hb hby own_d3_12) rfl ?_
      refine XS.iconst X0.here hx rfl (hb hby own_d3_13) ?_
      exact kt
    by_cases c14 : p0 = (3 : Int32)
    · refine own_st (B := s₁.setTop (mkF m 28 #[iv p0, iv p1, iv p2, iv p3, iv p4] [(.int (((p1 <<< ((12 : Int32) &&& 31)) ||| (p2 <<< ((6 : Int32) &&& 31))) ||| p3))])) (fun target kt => ?_) ?_
      · show Steps p.tables e below (s₁.setTop (mkF m 14 #[iv p0, iv p1, iv p2, iv p3, iv p4] [(.int (3 : Int32)), (.int p0)])) target
        refine XS.icmpNo X0.here hx rfl (hb hby own_d3_14) rfl (teq c14).2 ?_
        refine XS.iloadN X0.here hx rfl (hb hby own_d3_17) rfl ?_
        refine XS.bipush X0.here hx rfl (hb hby own_d3_18) ?_
        refine XS.ishl X0.here hx rfl (hb hby own_d3_20) rfl ?_
        refine XS.iloadN X0.here hx rfl (hb hby own_d3_21) rfl ?_
        refine XS.bipush X0.here hx rfl (hb hby own_d3_22) ?_
        refine XS.ishl X0.here hx rfl (hb hby own_d3_24) rfl ?_
        refine XS.ior X0.here hx rfl (hb hby own_d3_25) rfl ?_
        show Steps p.tables e below (s₁.setTop (mkF m 26 #[iv p0, iv p1, iv p2, iv p3, iv p4] [(.int ((p1 <<< ((12 : Int32) &&& 31)) ||| (p2 <<< ((6 : Int32) &&& 31))))])) target
        refine XS.iloadN X0.here hx rfl (hb hby own_d3_26) rfl ?_
        refine XS.ior X0.here hx rfl (hb hby own_d3_27) rfl ?_
        exact kt
      obtain ⟨fs, hr, hrun, hended, hW, hsame⟩ := X0.leave (v := some (.int (((p1 <<< ((12 : Int32) &&& 31)) ||| (p2 <<< ((6 : Int32) &&& 31))) ||| p3))) (fun h => by rw [Bd.returns] at h; cases h)
      have hend : Steps p.tables e below (s₁.setTop (mkF m 28 #[iv p0, iv p1, iv p2, iv p3, iv p4] [(.int (((p1 <<< ((12 : Int32) &&& 31)) ||| (p2 <<< ((6 : Int32) &&& 31))) ||| p3))])) (s₁.setFrames fs) := by
        exact retI X0 hx Bd.returns (hb hby own_d3_28) hr
      refine own_fin hend ⟨_, hrun, hended, _, _, rfl, ?_, ⟨_, rfl⟩, hW, hsame.mono (by decide) (by decide)⟩
      show own_Q3 Z p0 p1 p2 p3 p4 h0 n0 _ s₁.heap _
      rw [e0]
      exact ⟨(congrArg (fun z => some (Value.int z)) (Eq.trans (if_pos c14).symm (if_neg c2).symm)), N0, rfl⟩
    · refine own_st (B := s₁.setTop (mkF m 46 #[iv p0, iv p1, iv p2, iv p3, iv p4] [(.int ((((p1 <<< ((18 : Int32) &&& 31)) ||| (p2 <<< ((12 : Int32) &&& 31))) ||| (p3 <<< ((6 : Int32) &&& 31))) ||| p4))])) (fun target kt => ?_) ?_
      · show Steps p.tables e below (s₁.setTop (mkF m 14 #[iv p0, iv p1, iv p2, iv p3, iv p4] [(.int (3 : Int32)), (.int p0)])) target
        refine XS.icmpYes X0.here hx rfl (pc0 := 14) (pc' := 29) rfl (hb hby own_d3_14) rfl (feq c14).2 (by decide) (by decide) ?_
        refine XS.iloadN X0.here hx rfl (hb hby own_d3_29) rfl ?_
        refine XS.bipush X0.here hx rfl (hb hby own_d3_30) ?_
        refine XS.ishl X0.here hx rfl (hb hby own_d3_32) rfl ?_
        refine XS.iloadN X0.here hx rfl (hb hby own_d3_33) rfl ?_
        refine XS.bipush X0.here hx rfl (hb hby own_d3_34) ?_
        refine XS.ishl X0.here hx rfl (hb hby own_d3_36) rfl ?_
        refine XS.ior X0.here hx rfl (hb hby own_d3_37) rfl ?_
        show Steps p.tables e below (s₁.setTop (mkF m 38 #[iv p0, iv p1, iv p2, iv p3, iv p4] [(.int ((p1 <<< ((18 : Int32) &&& 31)) ||| (p2 <<< ((12 : Int32) &&& 31))))])) target
        refine XS.iloadN X0.here hx rfl (hb hby own_d3_38) rfl ?_
        refine XS.bipush X0.here hx rfl (hb hby own_d3_39) ?_
        refine XS.ishl X0.here hx rfl (hb hby own_d3_41) rfl ?_
        refine XS.ior X0.here hx rfl (hb hby own_d3_42) rfl ?_
        refine XS.iload X0.here hx rfl (hb hby own_d3_43) rfl ?_
        refine XS.ior X0.here hx rfl (hb hby own_d3_45) rfl ?_
        exact kt
      obtain ⟨fs, hr, hrun, hended, hW, hsame⟩ := X0.leave (v := some (.int ((((p1 <<< ((18 : Int32) &&& 31)) ||| (p2 <<< ((12 : Int32) &&& 31))) ||| (p3 <<< ((6 : Int32) &&& 31))) ||| p4))) (fun h => by rw [Bd.returns] at h; cases h)
      have hend : Steps p.tables e below (s₁.setTop (mkF m 46 #[iv p0, iv p1, iv p2, iv p3, iv p4] [(.int ((((p1 <<< ((18 : Int32) &&& 31)) ||| (p2 <<< ((12 : Int32) &&& 31))) ||| (p3 <<< ((6 : Int32) &&& 31))) ||| p4))])) (s₁.setFrames fs) := by
        exact retI X0 hx Bd.returns (hb hby own_d3_46) hr
      refine own_fin hend ⟨_, hrun, hended, _, _, rfl, ?_, ⟨_, rfl⟩, hW, hsame.mono (by decide) (by decide)⟩
      show own_Q3 Z p0 p1 p2 p3 p4 h0 n0 _ s₁.heap _
      rw [e0]
      exact ⟨(congrArg (fun z => some (Value.int z)) (Eq.trans (if_neg c14).symm (if_neg c2).symm)), N0, rfl⟩
theorem own_pn1 : plainName "com/example/psyche/psyche/XmlChars" = true := by first | (simp [plainName, overriddenIn]; done) | decide +kernel
theorem own_d1_0 : decode prog_171_method_20_code 0 = .ok (.aload_n 0, 1) := by decide +kernel
theorem own_d1_1 : decode prog_171_method_20_code 1 = .ok (.iload_n 1, 1) := by decide +kernel
theorem own_d1_2 : decode prog_171_method_20_code 2 = .ok (.baload, 1) := by decide +kernel
theorem own_d1_3 : decode prog_171_method_20_code 3 = .ok (.sipush 255, 3) := by decide +kernel
theorem own_d1_6 : decode prog_171_method_20_code 6 = .ok (.iand, 1) := by decide +kernel
theorem own_d1_7 : decode prog_171_method_20_code 7 = .ok (.istore_n 3, 1) := by decide +kernel
theorem own_d1_8 : decode prog_171_method_20_code 8 = .ok (.sipush 128, 3) := by decide +kernel
theorem own_d1_11 : decode prog_171_method_20_code 11 = .ok (.istore 5, 2) := by decide +kernel
theorem own_d1_13 : decode prog_171_method_20_code 13 = .ok (.sipush 191, 3) := by decide +kernel
theorem own_d1_16 : decode prog_171_method_20_code 16 = .ok (.istore 6, 2) := by decide +kernel
theorem own_d1_18 : decode prog_171_method_20_code 18 = .ok (.iload_n 3, 1) := by decide +kernel
theorem own_d1_19 : decode prog_171_method_20_code 19 = .ok (.sipush 194, 3) := by decide +kernel
theorem own_d1_22 : decode prog_171_method_20_code 22 = .ok (.if_icmp .ge 5, 3) := by decide +kernel
theorem own_d1_25 : decode prog_171_method_20_code 25 = .ok (.iconst (-1), 1) := by decide +kernel
theorem own_d1_26 : decode prog_171_method_20_code 26 = .ok (.ireturn, 1) := by decide +kernel
theorem own_ef1_A (m : MethodId) (r0 : Addr) (p1 : Int32) (p2 : Int32) : entryFrame m #[(.ref r0), (.int p1), (.int p2)] 9 = mkF m 0 #[rv r0, iv p1, iv p2, .unset, .unset, .unset, .unset, .unset, .unset] [] := by first | (simp [entryFrame, mkF, argsToLocals, Value.category]; done) | rfl
def own_Q1_A (Z : State) (r0 : Addr) (p1 : Int32) (p2 : Int32) (g : Nat → Int32) (h0 : Heap) (n0 : Nat) (v : Option Value) (h : Heap) (L : List Loc) : Prop := (v = some (.int (-1 : Int32))) ∧ (Fr n0 L) ∧ (h = h0)
set_option maxRecDepth 65536 in
set_option maxHeartbeats 40000000 in
theorem own_rm1_A (l : Launch) (Z : State) (a0 : Array Value) (hw : ∀ d ∈ tables_1, d.before a0 Z = true) (ws : List Jvm.Cond) (r0 : Addr) (p1 : Int32) (p2 : Int32) (g : Nat → Int32) (h0 : Heap) (n0 : Nat) (Z0 : n0 ≤ h0.size) (R_r0 : own_RayB Z h0 r0 8 g) (hat : p1 = (0 : Int32) ∨ p1 = (1 : Int32) ∨ p1 = (2 : Int32) ∨ p1 = (3 : Int32)) (h1 : ((g (p1).toNatClampNeg) &&& (255 : Int32)) < (194 : Int32)) :
    MetFree l (⟨"com/example/psyche/psyche/XmlChars", "sequenceLength", "([BII)I"⟩ : MethodName) (head1 (Jvm.Cond.code (⟨"com/example/psyche/psyche/XmlChars", "sequenceLength", "([BII)I"⟩ : MethodName) prog_171_method_20_code 9 (some .int) :: ws) ({ frames := 0, cells := 0, slots := 0, locals := 0 } : Room)) (fun a U => a = #[(.ref r0), (.int p1), (.int p2)] ∧ Z.Warmed39 U.vm ∧ U.heap = h0) (fun _ _ _ _ _ => True) (fun _ U o U' => ∃ v L, o = .returned v ∧ own_Q1_A Z r0 p1 p2 g h0 n0 v U'.heap L ∧ FrameEnd U o U' L ({ frames := 0, cells := 0, slots := 0, locals := 0 } : Room).cells ({ frames := 0, cells := 0, slots := 0, locals := 0 } : Room).slots) := by
  refine MetFree.of_bodySF (plainFor_of_name own_pn1) hisR ?_
  intro p e s m args below meth c s₁ Bd hml0 hP hK
  obtain ⟨rfl, hZ, hh⟩ := hP
  have hx := Bd.exec
  have hby := Bd.bytes
  have hml : c.maxLocals = 9 := hml0
  have hown : s.vm.findClass "com/example/psyche/psyche/XmlChars" = some m.cls := findClass_of_methodNamed Bd.named
  have hnm := (name_of_methodNamed Bd.named Bd.method).1
  have X0 : Stand p l e ({ frames := 0, cells := 0, slots := 0, locals := 0 } : Room) s m #[(.ref r0), (.int p1), (.int p2)] below meth c s₁ [] 0 0 := Stand.of_body Bd
  have e0 : s₁.heap = h0 := by rw [← hh, Bd.state]; rfl
  have N0 := Fr.nil n0
  have pre0 : ∀ t, Steps p.tables e below (s₁.setTop (mkF m 0 #[rv r0, iv p1, iv p2, .unset, .unset, .unset, .unset, .unset, .unset] [])) t → Steps p.tables e below (s₁.setTop (entryFrame m #[(.ref r0), (.int p1), (.int p2)] 9)) t := fun t k => castTop (own_ef1_A m r0 p1 p2) k
  refine own_run (own_st pre0 ?_)
  have hin := own_in p1 hat
  refine own_st (B := s₁.setTop (mkF m 2 #[rv r0, iv p1, iv p2, .unset, .unset, .unset, .unset, .unset, .unset] [(.int p1), (.ref r0)])) (fun target kt => ?_) ?_
  · show Steps p.tables e below (s₁.setTop (mkF m 0 #[rv r0, iv p1, iv p2, .unset, .unset, .unset, .unset, .unset, .unset] [])) target
    refine XS.aloadN X0.here hx rfl (hb hby own_d1_0) rfl rfl ?_
    refine XS.iloadN X0.here hx rfl (hb hby own_d1_1) rfl ?_
    exact kt
  obtain ⟨clg2, Arg2, Szg2, Atg2⟩ := id R_r0
  have hing2 : ¬ (p1 < 0 ∨ clg2.slots.size ≤ (p1).toNatClampNeg) := own_inb Szg2 hin.1
  have hatg2 : clg2.slots[(p1).toNatClampNeg]? = some (.int (g (p1).toNatClampNeg)) := own_RayB_nth Atg2 Szg2 hing2
  refine own_st (B := s₁.setTop (mkF m 3 #[rv r0, iv p1, iv p2, .unset, .unset, .unset, .unset, .unset, .unset] [(.int (g (p1).toNatClampNeg))])) (fun target kt => ?_) ?_
  · refine X0.baloadBytes hx (j := p1) (v := (.int (g (p1).toNatClampNeg))) (by first | exact Arg2.1 | (rw [e0]; exact Arg2.1)) (State.isArrayOf_alike hZ.alike Arg2.2.1) Arg2.2.2 hing2 hatg2 (g := (mkF m 2 #[rv r0, iv p1, iv p2, .unset, .unset, .unset, .unset, .unset, .unset] [(.int p1), (.ref r0)])) rfl rfl (hb hby own_d1_2) _ ?_
    exact kt
  obtain ⟨v7, hv7⟩ : ∃ z : Int32, z = ((g (p1).toNatClampNeg) &&& (255 : Int32)) := ⟨_, rfl⟩
  refine own_st (B := s₁.setTop (mkF m 22 #[rv r0, iv p1, iv p2, iv v7, .unset, iv (128 : Int32), iv (191 : Int32), .unset, .unset] [(.int (194 : Int32)), (.int v7)])) (fun target kt => ?_) ?_
  · show Steps p.tables e below (s₁.setTop (mkF m 3 #[rv r0, iv p1, iv p2, .unset, .unset, .unset, .unset, .unset, .unset] [(.int (g (p1).toNatClampNeg))])) target
    refine XS.sipush X0.here hx rfl (hb hby own_d1_3) ?_
    refine XS.iand X0.here hx rfl (hb hby own_d1_6) rfl ?_
    refine XS.istoreN X0.here hx rfl (hb hby own_d1_7) rfl (l' := #[rv r0, iv p1, iv p2, iv v7, .unset, .unset, .unset, .unset, .unset]) (by subst hv7; rfl) ?_
    refine XS.sipush X0.here hx rfl (hb hby own_d1_8) ?_
    refine XS.istore X0.here hx rfl (hb hby own_d1_11) rfl (l' := #[rv r0, iv p1, iv p2, iv v7, .unset, iv (128 : Int32), .unset, .unset, .unset]) rfl ?_
    refine XS.sipush X0.here hx rfl (hb hby own_d1_13) ?_
    refine XS.istore X0.here hx rfl (hb hby own_d1_16) rfl (l' := #[rv r0, iv p1, iv p2, iv v7, .unset, iv (128 : Int32), iv (191 : Int32), .unset, .unset]) rfl ?_
    refine XS.iloadN X0.here hx rfl (hb hby own_d1_18) rfl ?_
    show Steps p.tables e below (s₁.setTop (mkF m 19 #[rv r0, iv p1, iv p2, iv v7, .unset, iv (128 : Int32), iv (191 : Int32), .unset, .unset] [(.int v7)])) target
    refine XS.sipush X0.here hx rfl (hb hby own_d1_19) ?_
    exact kt
  have c22 : v7 < (194 : Int32) := by
    rw [hv7]
    exact h1
  refine own_st (B := s₁.setTop (mkF m 26 #[rv r0, iv p1, iv p2, iv v7, .unset, iv (128 : Int32), iv (191 : Int32), .unset, .unset] [(.int (-1 : Int32))])) (fun target kt => ?_) ?_
  · show Steps p.tables e below (s₁.setTop (mkF m 22 #[rv r0, iv p1, iv p2, iv v7, .unset, iv (128 : Int32), iv (191 : Int32), .unset, .unset] [(.int (194 : Int32)), (.int v7)])) target
    refine XS.icmpNo X0.here hx rfl (hb hby own_d1_22) rfl (tlt c22).2.1 ?_
    refine XS.iconst X0.here hx rfl (hb hby own_d1_25) ?_
    exact kt
  obtain ⟨fs, hr, hrun, hended, hW, hsame⟩ := X0.leave (v := some (.int (-1 : Int32))) (fun h => by rw [Bd.returns] at h; cases h)
  have hend : Steps p.tables e below (s₁.setTop (mkF m 26 #[rv r0, iv p1, iv p2, iv v7, .unset, iv (128 : Int32), iv (191 : Int32), .unset, .unset] [(.int (-1 : Int32))])) (s₁.setFrames fs) := by
    exact retI X0 hx Bd.returns (hb hby own_d1_26) hr
  refine own_fin hend ⟨_, hrun, hended, _, _, rfl, ?_, ⟨_, rfl⟩, hW, hsame.mono (by decide) (by decide)⟩
  show own_Q1_A Z r0 p1 p2 g h0 n0 _ s₁.heap _
  rw [e0]
  subst hv7
  exact ⟨(congrArg (fun z => some (Value.int z)) rfl), N0, rfl⟩
theorem own_d1_27 : decode prog_171_method_20_code 27 = .ok (.iload_n 3, 1) := by decide +kernel
theorem own_d1_28 : decode prog_171_method_20_code 28 = .ok (.sipush 224, 3) := by decide +kernel
theorem own_d1_31 : decode prog_171_method_20_code 31 = .ok (.if_icmp .ge 9, 3) := by decide +kernel
theorem own_d1_34 : decode prog_171_method_20_code 34 = .ok (.iconst 2, 1) := by decide +kernel
theorem own_d1_35 : decode prog_171_method_20_code 35 = .ok (.istore 4, 2) := by decide +kernel
theorem own_d1_37 : decode prog_171_method_20_code 37 = .ok (.goto 85, 3) := by decide +kernel
theorem own_d1_122 : decode prog_171_method_20_code 122 = .ok (.iconst 1, 1) := by decide +kernel
theorem own_d1_123 : decode prog_171_method_20_code 123 = .ok (.istore 7, 2) := by decide +kernel
theorem own_d1_125 : decode prog_171_method_20_code 125 = .ok (.iload 7, 2) := by decide +kernel
theorem own_d1_127 : decode prog_171_method_20_code 127 = .ok (.iload 4, 2) := by decide +kernel
theorem own_d1_129 : decode prog_171_method_20_code 129 = .ok (.if_icmp .ge 71, 3) := by decide +kernel
theorem own_d1_132 : decode prog_171_method_20_code 132 = .ok (.iload_n 1, 1) := by decide +kernel
theorem own_d1_133 : decode prog_171_method_20_code 133 = .ok (.iload 7, 2) := by decide +kernel
theorem own_d1_135 : decode prog_171_method_20_code 135 = .ok (.iadd, 1) := by decide +kernel
theorem own_d1_136 : decode prog_171_method_20_code 136 = .ok (.iload_n 2, 1) := by decide +kernel
theorem own_d1_137 : decode prog_171_method_20_code 137 = .ok (.if_icmp .lt 5, 3) := by decide +kernel
theorem own_d1_140 : decode prog_171_method_20_code 140 = .ok (.iconst 0, 1) := by decide +kernel
theorem own_d1_141 : decode prog_171_method_20_code 141 = .ok (.ireturn, 1) := by decide +kernel
theorem own_d1_142 : decode prog_171_method_20_code 142 = .ok (.aload_n 0, 1) := by decide +kernel
theorem own_d1_143 : decode prog_171_method_20_code 143 = .ok (.iload_n 1, 1) := by decide +kernel
theorem own_d1_144 : decode prog_171_method_20_code 144 = .ok (.iload 7, 2) := by decide +kernel
theorem own_d1_146 : decode prog_171_method_20_code 146 = .ok (.iadd, 1) := by decide +kernel
theorem own_d1_147 : decode prog_171_method_20_code 147 = .ok (.baload, 1) := by decide +kernel
theorem own_d1_148 : decode prog_171_method_20_code 148 = .ok (.sipush 255, 3) := by decide +kernel
theorem own_d1_151 : decode prog_171_method_20_code 151 = .ok (.iand, 1) := by decide +kernel
theorem own_d1_152 : decode prog_171_method_20_code 152 = .ok (.istore 8, 2) := by decide +kernel
theorem own_d1_154 : decode prog_171_method_20_code 154 = .ok (.iload 8, 2) := by decide +kernel
theorem own_d1_156 : decode prog_171_method_20_code 156 = .ok (.iload 7, 2) := by decide +kernel
theorem own_d1_158 : decode prog_171_method_20_code 158 = .ok (.iconst 1, 1) := by decide +kernel
theorem own_d1_159 : decode prog_171_method_20_code 159 = .ok (.if_icmp .ne 8, 3) := by decide +kernel
theorem own_d1_162 : decode prog_171_method_20_code 162 = .ok (.iload 5, 2) := by decide +kernel
theorem own_d1_164 : decode prog_171_method_20_code 164 = .ok (.goto 6, 3) := by decide +kernel
theorem own_d1_170 : decode prog_171_method_20_code 170 = .ok (.if_icmp .lt 22, 3) := by decide +kernel
theorem own_d1_173 : decode prog_171_method_20_code 173 = .ok (.iload 8, 2) := by decide +kernel
theorem own_d1_175 : decode prog_171_method_20_code 175 = .ok (.iload 7, 2) := by decide +kernel
theorem own_d1_177 : decode prog_171_method_20_code 177 = .ok (.iconst 1, 1) := by decide +kernel
theorem own_d1_178 : decode prog_171_method_20_code 178 = .ok (.if_icmp .ne 8, 3) := by decide +kernel
theorem own_d1_181 : decode prog_171_method_20_code 181 = .ok (.iload 6, 2) := by decide +kernel
theorem own_d1_183 : decode prog_171_method_20_code 183 = .ok (.goto 6, 3) := by decide +kernel
theorem own_d1_189 : decode prog_171_method_20_code 189 = .ok (.if_icmp .le 5, 3) := by decide +kernel
theorem own_d1_192 : decode prog_171_method_20_code 192 = .ok (.iconst (-1), 1) := by decide +kernel
theorem own_d1_193 : decode prog_171_method_20_code 193 = .ok (.ireturn, 1) := by decide +kernel
theorem own_d1_194 : decode prog_171_method_20_code 194 = .ok (.iinc 7 1, 3) := by decide +kernel
theorem own_d1_197 : decode prog_171_method_20_code 197 = .ok (.goto (-72), 3) := by decide +kernel
theorem own_d1_200 : decode prog_171_method_20_code 200 = .ok (.iload_n 3, 1) := by decide +kernel
theorem own_d1_201 : decode prog_171_method_20_code 201 = .ok (.sipush 239, 3) := by decide +kernel
theorem own_d1_204 : decode prog_171_method_20_code 204 = .ok (.if_icmp .ne 31, 3) := by decide +kernel
theorem own_d1_207 : decode prog_171_method_20_code 207 = .ok (.aload_n 0, 1) := by decide +kernel
theorem own_d1_208 : decode prog_171_method_20_code 208 = .ok (.iload_n 1, 1) := by decide +kernel
theorem own_d1_209 : decode prog_171_method_20_code 209 = .ok (.iconst 1, 1) := by decide +kernel
theorem own_d1_210 : decode prog_171_method_20_code 210 = .ok (.iadd, 1) := by decide +kernel
theorem own_d1_211 : decode prog_171_method_20_code 211 = .ok (.baload, 1) := by decide +kernel
theorem own_d1_212 : decode prog_171_method_20_code 212 = .ok (.bipush (-65), 2) := by decide +kernel
theorem own_d1_214 : decode prog_171_method_20_code 214 = .ok (.if_icmp .ne 21, 3) := by decide +kernel
theorem own_d1_217 : decode prog_171_method_20_code 217 = .ok (.aload_n 0, 1) := by decide +kernel
theorem own_d1_218 : decode prog_171_method_20_code 218 = .ok (.iload_n 1, 1) := by decide +kernel
theorem own_d1_219 : decode prog_171_method_20_code 219 = .ok (.iconst 2, 1) := by decide +kernel
theorem own_d1_220 : decode prog_171_method_20_code 220 = .ok (.iadd, 1) := by decide +kernel
theorem own_d1_221 : decode prog_171_method_20_code 221 = .ok (.baload, 1) := by decide +kernel
theorem own_d1_222 : decode prog_171_method_20_code 222 = .ok (.sipush 254, 3) := by decide +kernel
theorem own_d1_225 : decode prog_171_method_20_code 225 = .ok (.iand, 1) := by decide +kernel
theorem own_d1_226 : decode prog_171_method_20_code 226 = .ok (.sipush 190, 3) := by decide +kernel
theorem own_d1_229 : decode prog_171_method_20_code 229 = .ok (.if_icmp .ne 6, 3) := by decide +kernel
theorem own_d1_232 : decode prog_171_method_20_code 232 = .ok (.bipush (-2), 2) := by decide +kernel
theorem own_d1_234 : decode prog_171_method_20_code 234 = .ok (.ireturn, 1) := by decide +kernel
theorem own_d1_235 : decode prog_171_method_20_code 235 = .ok (.iload 4, 2) := by decide +kernel
theorem own_d1_237 : decode prog_171_method_20_code 237 = .ok (.ireturn, 1) := by decide +kernel
theorem own_ef1_B (m : MethodId) (r0 : Addr) (p1 : Int32) (p2 : Int32) : entryFrame m #[(.ref r0), (.int p1), (.int p2)] 9 = mkF m 0 #[rv r0, iv p1, iv p2, .unset, .unset, .unset, .unset, .unset, .unset] [] := by first | (simp [entryFrame, mkF, argsToLocals, Value.category]; done) | rfl
def own_Q1_B (Z : State) (r0 : Addr) (p1 : Int32) (p2 : Int32) (g : Nat → Int32) (h0 : Heap) (n0 : Nat) (v : Option Value) (h : Heap) (L : List Loc) : Prop := (v = some (.int (if (((g (p1).toNatClampNeg) &&& (255 : Int32))) < (194 : Int32) then (-1 : Int32) else (if (p1 + (1 : Int32)) < p2 then (if (((g ((p1 + (1 : Int32))).toNatClampNeg) &&& (255 : Int32))) < (128 : Int32) then (-1 : Int32) else (if (191 : Int32) < (((g ((p1 + (1 : Int32))).toNatClampNeg) &&& (255 : Int32))) then (-1 : Int32) else (if (((g (p1).toNatClampNeg) &&& (255 : Int32))) = (239 : Int32) then (if (g ((p1 + (1 : Int32))).toNatClampNeg) = (-65 : Int32) then (if ((g ((p1 + (2 : Int32))).toNatClampNeg) &&& (254 : Int32)) = (190 : Int32) then (-2 : Int32) else (2 : Int32)) else (2 : Int32)) else (2 : Int32)))) else (0 : Int32))))) ∧ (Fr n0 L) ∧ (h = h0)
set_option maxRecDepth 65536 in
set_option maxHeartbeats 40000000 in
theorem own_rm1_B (l : Launch) (Z : State) (a0 : Array Value) (hw : ∀ d ∈ tables_1, d.before a0 Z = true) (ws : List Jvm.Cond) (r0 : Addr) (p1 : Int32) (p2 : Int32) (g : Nat → Int32) (h0 : Heap) (n0 : Nat) (Z0 : n0 ≤ h0.size) (R_r0 : own_RayB Z h0 r0 8 g) (hat : p1 = (0 : Int32) ∨ p1 = (1 : Int32) ∨ p1 = (2 : Int32) ∨ p1 = (3 : Int32)) (h2 : ((g (p1).toNatClampNeg) &&& (255 : Int32)) < (224 : Int32)) :
    MetFree l (⟨"com/example/psyche/psyche/XmlChars", "sequenceLength", "([BII)I"⟩ : MethodName) (head1 (Jvm.Cond.code (⟨"com/example/psyche/psyche/XmlChars", "sequenceLength", "([BII)I"⟩ : MethodName) prog_171_method_20_code 9 (some .int) :: ws) ({ frames := 0, cells := 0, slots := 0, locals := 0 } : Room)) (fun a U => a = #[(.ref r0), (.int p1), (.int p2)] ∧ Z.Warmed39 U.vm ∧ U.heap = h0) (fun _ _ _ _ _ => True) (fun _ U o U' => ∃ v L, o = .returned v ∧ own_Q1_B Z r0 p1 p2 g h0 n0 v U'.heap L ∧ FrameEnd U o U' L ({ frames := 0, cells := 0, slots := 0, locals := 0 } : Room).cells ({ frames := 0, cells := 0, slots := 0, locals := 0 } : Room).slots) := by
  refine MetFree.of_bodySF (plainFor_of_name own_pn1) hisR ?_
  intro p e s m args below meth c s₁ Bd hml0 hP hK
  obtain ⟨rfl, hZ, hh⟩ := hP
  have hx := Bd.exec
  have hby := Bd.bytes
  have hml : c.maxLocals = 9 := hml0
  have hown : s.vm.findClass "com/example/psyche/psyche/XmlChars" = some m.cls := findClass_of_methodNamed Bd.named
  have hnm := (name_of_methodNamed Bd.named Bd.method).1
  have X0 : Stand p l e ({ frames := 0, cells := 0, slots := 0, locals := 0 } : Room) s m #[(.ref r0), (.int p1), (.int p2)] below meth c s₁ [] 0 0 := Stand.of_body Bd
  have e0 : s₁.heap = h0 := by rw [← hh, Bd.state]; rfl
  have N0 := Fr.nil n0
  have pre0 : ∀ t, Steps p.tables e below (s₁.setTop (mkF m 0 #[rv r0, iv p1, iv p2, .unset, .unset, .unset, .unset, .unset, .unset] [])) t → Steps p.tables e below (s₁.setTop (entryFrame m #[(.ref r0), (.int p1), (.int p2)] 9)) t := fun t k => castTop (own_ef1_B m r0 p1 p2) k
  refine own_run (own_st pre0 ?_)
  have hin := own_in p1 hat
  refine own_st (B := s₁.setTop (mkF m 2 #[rv r0, iv p1, iv p2, .unset, .unset, .unset, .unset, .unset, .unset] [(.int p1), (.ref r0)])) (fun target kt => ?_) ?_
  · show Steps p.tables e below (s₁.setTop (mkF m 0 #[rv r0, iv p1, iv p2, .unset, .unset, .unset, .unset, .unset, .unset] [])) target
    refine XS.aloadN X0.here hx rfl (hb hby own_d1_0) rfl rfl ?_
    refine XS.iloadN X0.here hx rfl (hb hby own_d1_1) rfl ?_
    exact kt
  obtain ⟨clg2, Arg2, Szg2, Atg2⟩ := id R_r0
  have hing2 : ¬ (p1 < 0 ∨ clg2.slots.size ≤ (p1).toNatClampNeg) := own_inb Szg2 hin.1
  have hatg2 : clg2.slots[(p1).toNatClampNeg]? = some (.int (g (p1).toNatClampNeg)) := own_RayB_nth Atg2 Szg2 hing2
  refine own_st (B := s₁.setTop (mkF m 3 #[rv r0, iv p1, iv p2, .unset, .unset, .unset, .unset, .unset, .unset] [(.int (g (p1).toNatClampNeg))])) (fun target kt => ?_) ?_
  · refine X0.baloadBytes hx (j := p1) (v := (.int (g (p1).toNatClampNeg))) (by first | exact Arg2.1 | (rw [e0]; exact Arg2.1)) (State.isArrayOf_alike hZ.alike Arg2.2.1) Arg2.2.2 hing2 hatg2 (g := (mkF m 2 #[rv r0, iv p1, iv p2, .unset, .unset, .unset, .unset, .unset, .unset] [(.int p1), (.ref r0)])) rfl rfl (hb hby own_d1_2) _ ?_
    exact kt
  obtain ⟨v7, hv7⟩ : ∃ z : Int32, z = ((g (p1).toNatClampNeg) &&& (255 : Int32)) := ⟨_, rfl⟩
  refine own_st (B := s₁.setTop (mkF m 22 #[rv r0, iv p1, iv p2, iv v7, .unset, iv (128 : Int32), iv (191 : Int32), .unset, .unset] [(.int (194 : Int32)), (.int v7)])) (fun target kt => ?_) ?_
  · show Steps p.tables e below (s₁.setTop (mkF m 3 #[rv r0, iv p1, iv p2, .unset, .unset, .unset, .unset, .unset, .unset] [(.int (g (p1).toNatClampNeg))])) target
    refine XS.sipush X0.here hx rfl (hb hby own_d1_3) ?_
    refine XS.iand X0.here hx rfl (hb hby own_d1_6) rfl ?_
    refine XS.istoreN X0.here hx rfl (hb hby own_d1_7) rfl (l' := #[rv r0, iv p1, iv p2, iv v7, .unset, .unset, .unset, .unset, .unset]) (by subst hv7; rfl) ?_
    refine XS.sipush X0.here hx rfl (hb hby own_d1_8) ?_
    refine XS.istore X0.here hx rfl (hb hby own_d1_11) rfl (l' := #[rv r0, iv p1, iv p2, iv v7, .unset, iv (128 : Int32), .unset, .unset, .unset]) rfl ?_
    refine XS.sipush X0.here hx rfl (hb hby own_d1_13) ?_
    refine XS.istore X0.here hx rfl (hb hby own_d1_16) rfl (l' := #[rv r0, iv p1, iv p2, iv v7, .unset, iv (128 : Int32), iv (191 : Int32), .unset, .unset]) rfl ?_
    refine XS.iloadN X0.here hx rfl (hb hby own_d1_18) rfl ?_
    show Steps p.tables e below (s₁.setTop (mkF m 19 #[rv r0, iv p1, iv p2, iv v7, .unset, iv (128 : Int32), iv (191 : Int32), .unset, .unset] [(.int v7)])) target
    refine XS.sipush X0.here hx rfl (hb hby own_d1_19) ?_
    exact kt
  by_cases c22 : v7 < (194 : Int32)
  · refine own_st (B := s₁.setTop (mkF m 26 #[rv r0, iv p1, iv p2, iv v7, .unset, iv (128 : Int32), iv (191 : Int32), .unset, .unset] [(.int (-1 : Int32))])) (fun target kt => ?_) ?_
    · show Steps p.tables e below (s₁.setTop (mkF m 22 #[rv r0, iv p1, iv p2, iv v7, .unset, iv (128 : Int32), iv (191 : Int32), .unset, .unset] [(.int (194 : Int32)), (.int v7)])) target
      refine XS.icmpNo X0.here hx rfl (hb hby own_d1_22) rfl (tlt c22).2.1 ?_
      refine XS.iconst X0.here hx rfl (hb hby own_d1_25) ?_
      exact kt
    obtain ⟨fs, hr, hrun, hended, hW, hsame⟩ := X0.leave (v := some (.int (-1 : Int32))) (fun h => by rw [Bd.returns] at h; cases h)
    have hend : Steps p.tables e below (s₁.setTop (mkF m 26 #[rv r0, iv p1, iv p2, iv v7, .unset, iv (128 : Int32), iv (191 : Int32), .unset, .unset] [(.int (-1 : Int32))])) (s₁.setFrames fs) := by
      exact retI X0 hx Bd.returns (hb hby own_d1_26) hr
    refine own_fin hend ⟨_, hrun, hended, _, _, rfl, ?_, ⟨_, rfl⟩, hW, hsame.mono (by decide) (by decide)⟩
    show own_Q1_B Z r0 p1 p2 g h0 n0 _ s₁.heap _
    rw [e0]
    subst hv7
    exact ⟨(congrArg (fun z => some (Value.int z)) (if_pos c22).symm), N0, rfl⟩
  · refine own_st (B := s₁.setTop (mkF m 31 #[rv r0, iv p1, iv p2, iv v7, .unset, iv (128 : Int32), iv (191 : Int32), .unset, .unset] [(.int (224 : Int32)), (.int v7)])) (fun target kt => ?_) ?_
    · show Steps p.tables e below (s₁.setTop (mkF m 22 #[rv r0, iv p1, iv p2, iv v7, .unset, iv (128 : Int32), iv (191 : Int32), .unset, .unset] [(.int (194 : Int32)), (.int v7)])) target
      refine XS.icmpYes X0.here hx rfl (pc0 := 22) (pc' := 27) rfl (hb hby own_d1_22) rfl (flt c22).2.1 (by decide) (by decide) ?_
      refine XS.iloadN X0.here hx rfl (hb hby own_d1_27) rfl ?_
      refine XS.sipush X0.here hx rfl (hb hby own_d1_28) ?_
      exact kt
    have c31 : v7 < (224 : Int32) := by
      rw [hv7]
      exact h2
    refine own_st (B := s₁.setTop (mkF m 137 #[rv r0, iv p1, iv p2, iv v7, iv (2 : Int32), iv (128 : Int32), iv (191 : Int32), iv (1 : Int32), .unset] [(.int p2), (.int (p1 + (1 : Int32)))])) (fun target kt => ?_) ?_
    · show Steps p.tables e below (s₁.setTop (mkF m 31 #[rv r0, iv p1, iv p2, iv v7, .unset, iv (128 : Int32), iv (191 : Int32), .unset, .unset] [(.int (224 : Int32)), (.int v7)])) target
      refine XS.icmpNo X0.here hx rfl (hb hby own_d1_31) rfl (tlt c31).2.1 ?_
      refine XS.iconst X0.here hx rfl (hb hby own_d1_34) ?_
      refine XS.istore X0.here hx rfl (hb hby own_d1_35) rfl (l' := #[rv r0, iv p1, iv p2, iv v7, iv (2 : Int32), iv (128 : Int32), iv (191 : Int32), .unset, .unset]) rfl ?_
      refine XS.goto X0.here hx rfl (pc0 := 37) (pc' := 122) rfl (hb hby own_d1_37) (by decide) (by decide) ?_
      refine XS.iconst X0.here hx rfl (hb hby own_d1_122) ?_
      refine XS.istore X0.here hx rfl (hb hby own_d1_123) rfl (l' := #[rv r0, iv p1, iv p2, iv v7, iv (2 : Int32), iv (128 : Int32), iv (191 : Int32), iv (1 : Int32), .unset]) rfl ?_
      refine XS.iload X0.here hx rfl (hb hby own_d1_125) rfl ?_
      refine XS.iload X0.here hx rfl (hb hby own_d1_127) rfl ?_
      show Steps p.tables e below (s₁.setTop (mkF m 129 #[rv r0, iv p1, iv p2, iv v7, iv (2 : Int32), iv (128 : Int32), iv (191 : Int32), iv (1 : Int32), .unset] [(.int (2 : Int32)), (.int (1 : Int32))])) target
      refine XS.icmpNo X0.here hx rfl (hb hby own_d1_129) rfl (tlt (by decide : (1 : Int32) < (2 : Int32))).2.1 ?_
      refine XS.iloadN X0.here hx rfl (hb hby own_d1_132) rfl ?_
      refine XS.iload X0.here hx rfl (hb hby own_d1_133) rfl ?_
      refine XS.iadd X0.here hx rfl (hb hby own_d1_135) rfl ?_
      refine XS.iloadN X0.here hx rfl (hb hby own_d1_136) rfl ?_
      exact kt
    by_cases c137 : (p1 + (1 : Int32)) < p2
    · refine own_st (B := s₁.setTop (mkF m 147 #[rv r0, iv p1, iv p2, iv v7, iv (2 : Int32), iv (128 : Int32), iv (191 : Int32), iv (1 : Int32), .unset] [(.int (p1 + (1 : Int32))), (.ref r0)])) (fun target kt => ?_) ?_
      · show Steps p.tables e below (s₁.setTop (mkF m 137 #[rv r0, iv p1, iv p2, iv v7, iv (2 : Int32), iv (128 : Int32), iv (191 : Int32), iv (1 : Int32), .unset] [(.int p2), (.int (p1 + (1 : Int32)))])) target
        refine XS.icmpYes X0.here hx rfl (pc0 := 137) (pc' := 142) rfl (hb hby own_d1_137) rfl (tlt c137).1 (by decide) (by decide) ?_
        refine XS.aloadN X0.here hx rfl (hb hby own_d1_142) rfl rfl ?_
        refine XS.iloadN X0.here hx rfl (hb hby own_d1_143) rfl ?_
        refine XS.iload X0.here hx rfl (hb hby own_d1_144) rfl ?_
        refine XS.iadd X0.here hx rfl (hb hby own_d1_146) rfl ?_
        exact kt
      obtain ⟨clg147, Arg147, Szg147, Atg147⟩ := id R_r0
      have hing147 : ¬ ((p1 + (1 : Int32)) < 0 ∨ clg147.slots.size ≤ ((p1 + (1 : Int32))).toNatClampNeg) := own_inb Szg147 hin.2.1
      have hatg147 : clg147.slots[((p1 + (1 : Int32))).toNatClampNeg]? = some (.int (g ((p1 + (1 : Int32))).toNatClampNeg)) := own_RayB_nth Atg147 Szg147 hing147
      refine own_st (B := s₁.setTop (mkF m 148 #[rv r0, iv p1, iv p2, iv v7, iv (2 : Int32), iv (128 : Int32), iv (191 : Int32), iv (1 : Int32), .unset] [(.int (g ((p1 + (1 : Int32))).toNatClampNeg))])) (fun target kt => ?_) ?_
      · refine X0.baloadBytes hx (j := (p1 + (1 : Int32))) (v := (.int (g ((p1 + (1 : Int32))).toNatClampNeg))) (by first | exact Arg147.1 | (rw [e0]; exact Arg147.1)) (State.isArrayOf_alike hZ.alike Arg147.2.1) Arg147.2.2 hing147 hatg147 (g := (mkF m 147 #[rv r0, iv p1, iv p2, iv v7, iv (2 : Int32), iv (128 : Int32), iv (191 : Int32), iv (1 : Int32), .unset] [(.int (p1 + (1 : Int32))), (.ref r0)])) rfl rfl (hb hby own_d1_147) _ ?_
        exact kt
      obtain ⟨v152, hv152⟩ : ∃ z : Int32, z = ((g ((p1 + (1 : Int32))).toNatClampNeg) &&& (255 : Int32)) := ⟨_, rfl⟩
      refine own_st (B := s₁.setTop (mkF m 170 #[rv r0, iv p1, iv p2, iv v7, iv (2 : Int32), iv (128 : Int32), iv (191 : Int32), iv (1 : Int32), iv v152] [(.int (128 : Int32)), (.int v152)])) (fun target kt => ?_) ?_
      · show Steps p.tables e below (s₁.setTop (mkF m 148 #[rv r0, iv p1, iv p2, iv v7, iv (2 : Int32), iv (128 : Int32), iv (191 : Int32), iv (1 : Int32), .unset] [(.int (g ((p1 + (1 : Int32))).toNatClampNeg))])) target
        refine XS.sipush X0.here hx rfl (hb hby own_d1_148) ?_
        refine XS.iand X0.here hx rfl (hb hby own_d1_151) rfl ?_
        refine XS.istore X0.here hx rfl (hb hby own_d1_152) rfl (l' := #[rv r0, iv p1, iv p2, iv v7, iv (2 : Int32), iv (128 : Int32), iv (191 : Int32), iv (1 : Int32), iv v152]) (by subst hv152; rfl) ?_
        refine XS.iload X0.here hx rfl (hb hby own_d1_154) rfl ?_
        refine XS.iload X0.here hx rfl (hb hby own_d1_156) rfl ?_
        refine XS.iconst X0.here hx rfl (hb hby own_d1_158) ?_
        refine XS.icmpNo X0.here hx rfl (hb hby own_d1_159) rfl (teq (by decide : (1 : Int32) = (1 : Int32))).2 ?_
        refine XS.iload X0.here hx rfl (hb hby own_d1_162) rfl ?_
        show Steps p.tables e below (s₁.setTop (mkF m 164 #[rv r0, iv p1, iv p2, iv v7, iv (2 : Int32), iv (128 : Int32), iv (191 : Int32), iv (1 : Int32), iv v152] [(.int (128 : Int32)), (.int v152)])) target
        refine XS.goto X0.here hx rfl (pc0 := 164) (pc' := 170) rfl (hb hby own_d1_164) (by decide) (by decide) ?_
        exact kt
      by_cases c170 : v152 < (128 : Int32)
      · refine own_st (B := s₁.setTop (mkF m 193 #[rv r0, iv p1, iv p2, iv v7, iv (2 : Int32), iv (128 : Int32), iv (191 : Int32), iv (1 : Int32), iv v152] [(.int (-1 : Int32))])) (fun target kt => ?_) ?_
        · show Steps p.tables e below (s₁.setTop (mkF m 170 #[rv r0, iv p1, iv p2, iv v7, iv (2 : Int32), iv (128 : Int32), iv (191 : Int32), iv (1 : Int32), iv v152] [(.int (128 : Int32)), (.int v152)])) target
          refine XS.icmpYes X0.here hx rfl (pc0 := 170) (pc' := 192) rfl (hb hby own_d1_170) rfl (tlt c170).1 (by decide) (by decide) ?_
          refine XS.iconst X0.here hx rfl (hb hby own_d1_192) ?_
          exact kt
        obtain ⟨fs, hr, hrun, hended, hW, hsame⟩ := X0.leave (v := some (.int (-1 : Int32))) (fun h => by rw [Bd.returns] at h; cases h)
        have hend : Steps p.tables e below (s₁.setTop (mkF m 193 #[rv r0, iv p1, iv p2, iv v7, iv (2 : Int32), iv (128 : Int32), iv (191 : Int32), iv (1 : Int32), iv v152] [(.int (-1 : Int32))])) (s₁.setFrames fs) := by
          exact retI X0 hx Bd.returns (hb hby own_d1_193) hr
        refine own_fin hend ⟨_, hrun, hended, _, _, rfl, ?_, ⟨_, rfl⟩, hW, hsame.mono (by decide) (by decide)⟩
        show own_Q1_B Z r0 p1 p2 g h0 n0 _ s₁.heap _
        rw [e0]
        subst hv7 hv152
        exact ⟨(congrArg (fun z => some (Value.int z)) (Eq.trans (Eq.trans (if_pos c170).symm (if_pos c137).symm) (if_neg c22).symm)), N0, rfl⟩
      · refine own_st (B := s₁.setTop (mkF m 189 #[rv r0, iv p1, iv p2, iv v7, iv (2 : Int32), iv (128 : Int32), iv (191 : Int32), iv (1 : Int32), iv v152] [(.int (191 : Int32)), (.int v152)])) (fun target kt => ?_) ?_
        · show Steps p.tables e below (s₁.setTop (mkF m 170 #[rv r0, iv p1, iv p2, iv v7, iv (2 : Int32), iv (128 : Int32), iv (191 : Int32), iv (1 : Int32), iv v152] [(.int (128 : Int32)), (.int v152)])) target
          refine XS.icmpNo X0.here hx rfl (hb hby own_d1_170) rfl (flt c170).1 ?_
          refine XS.iload X0.here hx rfl (hb hby own_d1_173) rfl ?_
          refine XS.iload X0.here hx rfl (hb hby own_d1_175) rfl ?_
          refine XS.iconst X0.here hx rfl (hb hby own_d1_177) ?_
          refine XS.icmpNo X0.here hx rfl (hb hby own_d1_178) rfl (teq (by decide : (1 : Int32) = (1 : Int32))).2 ?_
          refine XS.iload X0.here hx rfl (hb hby own_d1_181) rfl ?_
          refine XS.goto X0.here hx rfl (pc0 := 183) (pc' := 189) rfl (hb hby own_d1_183) (by decide) (by decide) ?_
          exact kt
        by_cases c189 : (191 : Int32) < v152
        · refine own_st (B := s₁.setTop (mkF m 193 #[rv r0, iv p1, iv p2, iv v7, iv (2 : Int32), iv (128 : Int32), iv (191 : Int32), iv (1 : Int32), iv v152] [(.int (-1 : Int32))])) (fun target kt => ?_) ?_
          · show Steps p.tables e below (s₁.setTop (mkF m 189 #[rv r0, iv p1, iv p2, iv v7, iv (2 : Int32), iv (128 : Int32), iv (191 : Int32), iv (1 : Int32), iv v152] [(.int (191 : Int32)), (.int v152)])) target
            refine XS.icmpNo X0.here hx rfl (hb hby own_d1_189) rfl (tlt c189).2.2.2 ?_
            refine XS.iconst X0.here hx rfl (hb hby own_d1_192) ?_
            exact kt
          obtain ⟨fs, hr, hrun, hended, hW, hsame⟩ := X0.leave (v := some (.int (-1 : Int32))) (fun h => by rw [Bd.returns] at h; cases h)
          have hend : Steps p.tables e below (s₁.setTop (mkF m 193 #[rv r0, iv p1, iv p2, iv v7, iv (2 : Int32), iv (128 : Int32), iv (191 : Int32), iv (1 : Int32), iv v152] [(.int (-1 : Int32))])) (s₁.setFrames fs) := by
            exact retI X0 hx Bd.returns (hb hby own_d1_193) hr
          refine own_fin hend ⟨_, hrun, hended, _, _, rfl, ?_, ⟨_, rfl⟩, hW, hsame.mono (by decide) (by decide)⟩
          show own_Q1_B Z r0 p1 p2 g h0 n0 _ s₁.heap _
          rw [e0]
          subst hv7 hv152
          exact ⟨(congrArg (fun z => some (Value.int z)) (Eq.trans (Eq.trans (Eq.trans (if_pos c189).symm (if_neg c170).symm) (if_pos c137).symm) (if_neg c22).symm)), N0, rfl⟩
        · refine own_st (B := s₁.setTop (mkF m 204 #[rv r0, iv p1, iv p2, iv v7, iv (2 : Int32), iv (128 : Int32), iv (191 : Int32), iv (2 : Int32), iv v152] [(.int (239 : Int32)), (.int v7)])) (fun target kt => ?_) ?_
          · show Steps p.tables e below (s₁.setTop (mkF m 189 #[rv r0, iv p1, iv p2, iv v7, iv (2 : Int32), iv (128 : Int32), iv (191 : Int32), iv (1 : Int32), iv v152] [(.int (191 : Int32)), (.int v152)])) target
            refine XS.icmpYes X0.here hx rfl (pc0 := 189) (pc' := 194) rfl (hb hby own_d1_189) rfl (flt c189).2.2.2 (by decide) (by decide) ?_
            refine XS.iinc X0.here hx rfl (hb hby own_d1_194) rfl (l' := #[rv r0, iv p1, iv p2, iv v7, iv (2 : Int32), iv (128 : Int32), iv (191 : Int32), iv (2 : Int32), iv v152]) rfl ?_
            refine XS.goto X0.here hx rfl (pc0 := 197) (pc' := 125) rfl (hb hby own_d1_197) (by decide) (by decide) ?_
            refine XS.iload X0.here hx rfl (hb hby own_d1_125) rfl ?_
            refine XS.iload X0.here hx rfl (hb hby own_d1_127) rfl ?_
            refine XS.icmpYes X0.here hx rfl (pc0 := 129) (pc' := 200) rfl (hb hby own_d1_129) rfl (flt (by decide : ¬ ((2 : Int32) < (2 : Int32)))).2.1 (by decide) (by decide) ?_
            refine XS.iloadN X0.here hx rfl (hb hby own_d1_200) rfl ?_
            refine XS.sipush X0.here hx rfl (hb hby own_d1_201) ?_
            exact kt
          by_cases c204 : v7 = (239 : Int32)
          · refine own_st (B := s₁.setTop (mkF m 211 #[rv r0, iv p1, iv p2, iv v7, iv (2 : Int32), iv (128 : Int32), iv (191 : Int32), iv (2 : Int32), iv v152] [(.int (p1 + (1 : Int32))), (.ref r0)])) (fun target kt => ?_) ?_
            · show Steps p.tables e below (s₁.setTop (mkF m 204 #[rv r0, iv p1, iv p2, iv v7, iv (2 : Int32), iv (128 : Int32), iv (191 : Int32), iv (2 : Int32), iv v152] [(.int (239 : Int32)), (.int v7)])) target
              refine XS.icmpNo X0.here hx rfl (hb hby own_d1_204) rfl (teq c204).2 ?_
              refine XS.aloadN X0.here hx rfl (hb hby own_d1_207) rfl rfl ?_
              refine XS.iloadN X0.here hx rfl (hb hby own_d1_208) rfl ?_
              refine XS.iconst X0.here hx rfl (hb hby own_d1_209) ?_
              refine XS.iadd X0.here hx rfl (hb hby own_d1_210) rfl ?_
              exact kt
            obtain ⟨clg211, Arg211, Szg211, Atg211⟩ := id R_r0
            have hing211 : ¬ ((p1 + (1 : Int32)) < 0 ∨ clg211.slots.size ≤ ((p1 + (1 : Int32))).toNatClampNeg) := own_inb Szg211 hin.2.1
            have hatg211 : clg211.slots[((p1 + (1 : Int32))).toNatClampNeg]? = some (.int (g ((p1 + (1 : Int32))).toNatClampNeg)) := own_RayB_nth Atg211 Szg211 hing211
            refine own_st (B := s₁.setTop (mkF m 212 #[rv r0, iv p1, iv p2, iv v7, iv (2 : Int32), iv (128 : Int32), iv (191 : Int32), iv (2 : Int32), iv v152] [(.int (g ((p1 + (1 : Int32))).toNatClampNeg))])) (fun target kt => ?_) ?_
            · refine X0.baloadBytes hx (j := (p1 + (1 : Int32))) (v := (.int (g ((p1 + (1 : Int32))).toNatClampNeg))) (by first | exact Arg211.1 | (rw [e0]; exact Arg211.1)) (State.isArrayOf_alike hZ.alike Arg211.2.1) Arg211.2.2 hing211 hatg211 (g := (mkF m 211 #[rv r0, iv p1, iv p2, iv v7, iv (2 : Int32), iv (128 : Int32), iv (191 : Int32), iv (2 : Int32), iv v152] [(.int (p1 + (1 : Int32))), (.ref r0)])) rfl rfl (hb hby own_d1_211) _ ?_
              exact kt
            refine own_st (B := s₁.setTop (mkF m 214 #[rv r0, iv p1, iv p2, iv v7, iv (2 : Int32), iv (128 : Int32), iv (191 : Int32), iv (2 : Int32), iv v152] [(.int (-65 : Int32)), (.int (g ((p1 + (1 : Int32))).toNatClampNeg))])) (fun target kt => ?_) ?_
            · show Steps p.tables e below (s₁.setTop (mkF m 212 #[rv r0, iv p1, iv p2, iv v7, iv (2 : Int32), iv (128 : Int32), iv (191 : Int32), iv (2 : Int32), iv v152] [(.int (g ((p1 + (1 : Int32))).toNatClampNeg))])) target
              refine XS.bipush X0.here hx rfl (hb hby own_d1_212) ?_
              exact kt
            by_cases c214 : (g ((p1 + (1 : Int32))).toNatClampNeg) = (-65 : Int32)
            · refine own_st (B := s₁.setTop (mkF m 221 #[rv r0, iv p1, iv p2, iv v7, iv (2 : Int32), iv (128 : Int32), iv (191 : Int32), iv (2 : Int32), iv v152] [(.int (p1 + (2 : Int32))), (.ref r0)])) (fun target kt => ?_) ?_
              · show Steps p.tables e below (s₁.setTop (mkF m 214 #[rv r0, iv p1, iv p2, iv v7, iv (2 : Int32), iv (128 : Int32), iv (191 : Int32), iv (2 : Int32), iv v152] [(.int (-65 : Int32)), (.int (g ((p1 + (1 : Int32))).toNatClampNeg))])) target
                refine XS.icmpNo X0.here hx rfl (hb hby own_d1_214) rfl (teq c214).2 ?_
                refine XS.aloadN X0.here hx rfl (hb hby own_d1_217) rfl rfl ?_
                refine XS.iloadN X0.here hx rfl (hb hby own_d1_218) rfl ?_
                refine XS.iconst X0.here hx rfl (hb hby own_d1_219) ?_
                refine XS.iadd X0.here hx rfl (hb hby own_d1_220) rfl ?_
                exact kt
              obtain ⟨clg221, Arg221, Szg221, Atg221⟩ := id R_r0
              have hing221 : ¬ ((p1 + (2 : Int32)) < 0 ∨ clg221.slots.size ≤ ((p1 + (2 : Int32))).toNatClampNeg) := own_inb Szg221 hin.2.2.1
              have hatg221 : clg221.slots[((p1 + (2 : Int32))).toNatClampNeg]? = some (.int (g ((p1 + (2 : Int32))).toNatClampNeg)) := own_RayB_nth Atg221 Szg221 hing221
              refine own_st (B := s₁.setTop (mkF m 222 #[rv r0, iv p1, iv p2, iv v7, iv (2 : Int32), iv (128 : Int32), iv (191 : Int32), iv (2 : Int32), iv v152] [(.int (g ((p1 + (2 : Int32))).toNatClampNeg))])) (fun target kt => ?_) ?_
              · refine X0.baloadBytes hx (j := (p1 + (2 : Int32))) (v := (.int (g ((p1 + (2 : Int32))).toNatClampNeg))) (by first | exact Arg221.1 | (rw [e0]; exact Arg221.1)) (State.isArrayOf_alike hZ.alike Arg221.2.1) Arg221.2.2 hing221 hatg221 (g := (mkF m 221 #[rv r0, iv p1, iv p2, iv v7, iv (2 : Int32), iv (128 : Int32), iv (191 : Int32), iv (2 : Int32), iv v152] [(.int (p1 + (2 : Int32))), (.ref r0)])) rfl rfl (hb hby own_d1_221) _ ?_
                exact kt
              refine own_st (B := s₁.setTop (mkF m 229 #[rv r0, iv p1, iv p2, iv v7, iv (2 : Int32), iv (128 : Int32), iv (191 : Int32), iv (2 : Int32), iv v152] [(.int (190 : Int32)), (.int ((g ((p1 + (2 : Int32))).toNatClampNeg) &&& (254 : Int32)))])) (fun target kt => ?_) ?_
              · show Steps p.tables e below (s₁.setTop (mkF m 222 #[rv r0, iv p1, iv p2, iv v7, iv (2 : Int32), iv (128 : Int32), iv (191 : Int32), iv (2 : Int32), iv v152] [(.int (g ((p1 + (2 : Int32))).toNatClampNeg))])) target
                refine XS.sipush X0.here hx rfl (hb hby own_d1_222) ?_
                refine XS.iand X0.here hx rfl (hb hby own_d1_225) rfl ?_
                refine XS.sipush X0.here hx rfl (hb hby own_d1_226) ?_
                exact kt
              by_cases c229 : ((g ((p1 + (2 : Int32))).toNatClampNeg) &&& (254 : Int32)) = (190 : Int32)
              · refine own_st (B := s₁.setTop (mkF m 234 #[rv r0, iv p1, iv p2, iv v7, iv (2 : Int32), iv (128 : Int32), iv (191 : Int32), iv (2 : Int32), iv v152] [(.int (-2 : Int32))])) (fun target kt => ?_) ?_
                · show Steps p.tables e below (s₁.setTop (mkF m 229 #[rv r0, iv p1, iv p2, iv v7, iv (2 : Int32), iv (128 : Int32), iv (191 : Int32), iv (2 : Int32), iv v152] [(.int (190 : Int32)), (.int ((g ((p1 + (2 : Int32))).toNatClampNeg) &&& (254 : Int32)))])) target
                  refine XS.icmpNo X0.here hx rfl (hb hby own_d1_229) rfl (teq c229).2 ?_
                  refine XS.bipush X0.here hx rfl (hb hby own_d1_232) ?_
                  exact kt
                obtain ⟨fs, hr, hrun, hended, hW, hsame⟩ := X0.leave (v := some (.int (-2 : Int32))) (fun h => by rw [Bd.returns] at h; cases h)
                have hend : Steps p.tables e below (s₁.setTop (mkF m 234 #[rv r0, iv p1, iv p2, iv v7, iv (2 : Int32), iv (128 : Int32), iv (191 : Int32), iv (2 : Int32), iv v152] [(.int (-2 : Int32))])) (s₁.setFrames fs) := by
                  exact retI X0 hx Bd.returns (hb hby own_d1_234) hr
                refine own_fin hend ⟨_, hrun, hended, _, _, rfl, ?_, ⟨_, rfl⟩, hW, hsame.mono (by decide) (by decide)⟩
                show own_Q1_B Z r0 p1 p2 g h0 n0 _ s₁.heap _
                rw [e0]
                subst hv7 hv152
                exact ⟨(congrArg (fun z => some (Value.int z)) (Eq.trans (Eq.trans (Eq.trans (Eq.trans (Eq.trans (Eq.trans (if_pos c229).symm (if_pos c214).symm) (if_pos c204).symm) (if_neg c189).symm) (if_neg c170).symm) (if_pos c137).symm) (if_neg c22).symm)), N0, rfl⟩
              · refine own_st (B := s₁.setTop (mkF m 237 #[rv r0, iv p1, iv p2, iv v7, iv (2 : Int32), iv (128 : Int32), iv (191 : Int32), iv (2 : Int32), iv v152] [(.int (2 : Int32))])) (fun target kt => ?_) ?_
                · show Steps p.tables e below (s₁.setTop (mkF m 229 #[rv r0, iv p1, iv p2, iv v7, iv (2 : Int32), iv (128 : Int32), iv (191 : Int32), iv (2 : Int32), iv v152] [(.int (190 : Int32)), (.int ((g ((p1 + (2 : Int32))).toNatClampNeg) &&& (254 : Int32)))])) target
                  refine XS.icmpYes X0.here hx rfl (pc0 := 229) (pc' := 235) rfl (hb hby own_d1_229) rfl (feq c229).2 (by decide) (by decide) ?_
                  refine XS.iload X0.here hx rfl (hb hby own_d1_235) rfl ?_
                  exact kt
                obtain ⟨fs, hr, hrun, hended, hW, hsame⟩ := X0.leave (v := some (.int (2 : Int32))) (fun h => by rw [Bd.returns] at h; cases h)
                have hend : Steps p.tables e below (s₁.setTop (mkF m 237 #[rv r0, iv p1, iv p2, iv v7, iv (2 : Int32), iv (128 : Int32), iv (191 : Int32), iv (2 : Int32), iv v152] [(.int (2 : Int32))])) (s₁.setFrames fs) := by
                  exact retI X0 hx Bd.returns (hb hby own_d1_237) hr
                refine own_fin hend ⟨_, hrun, hended, _, _, rfl, ?_, ⟨_, rfl⟩, hW, hsame.mono (by decide) (by decide)⟩
                show own_Q1_B Z r0 p1 p2 g h0 n0 _ s₁.heap _
                rw [e0]
                subst hv7 hv152
                exact ⟨(congrArg (fun z => some (Value.int z)) (Eq.trans (Eq.trans (Eq.trans (Eq.trans (Eq.trans (Eq.trans (if_neg c229).symm (if_pos c214).symm) (if_pos c204).symm) (if_neg c189).symm) (if_neg c170).symm) (if_pos c137).symm) (if_neg c22).symm)), N0, rfl⟩
            · refine own_st (B := s₁.setTop (mkF m 237 #[rv r0, iv p1, iv p2, iv v7, iv (2 : Int32), iv (128 : Int32), iv (191 : Int32), iv (2 : Int32), iv v152] [(.int (2 : Int32))])) (fun target kt => ?_) ?_
              · show Steps p.tables e below (s₁.setTop (mkF m 214 #[rv r0, iv p1, iv p2, iv v7, iv (2 : Int32), iv (128 : Int32), iv (191 : Int32), iv (2 : Int32), iv v152] [(.int (-65 : Int32)), (.int (g ((p1 + (1 : Int32))).toNatClampNeg))])) target
                refine XS.icmpYes X0.here hx rfl (pc0 := 214) (pc' := 235) rfl (hb hby own_d1_214) rfl (feq c214).2 (by decide) (by decide) ?_
                refine XS.iload X0.here hx rfl (hb hby own_d1_235) rfl ?_
                exact kt
              obtain ⟨fs, hr, hrun, hended, hW, hsame⟩ := X0.leave (v := some (.int (2 : Int32))) (fun h => by rw [Bd.returns] at h; cases h)
              have hend : Steps p.tables e below (s₁.setTop (mkF m 237 #[rv r0, iv p1, iv p2, iv v7, iv (2 : Int32), iv (128 : Int32), iv (191 : Int32), iv (2 : Int32), iv v152] [(.int (2 : Int32))])) (s₁.setFrames fs) := by
                exact retI X0 hx Bd.returns (hb hby own_d1_237) hr
              refine own_fin hend ⟨_, hrun, hended, _, _, rfl, ?_, ⟨_, rfl⟩, hW, hsame.mono (by decide) (by decide)⟩
              show own_Q1_B Z r0 p1 p2 g h0 n0 _ s₁.heap _
              rw [e0]
              subst hv7 hv152
              exact ⟨(congrArg (fun z => some (Value.int z)) (Eq.trans (Eq.trans (Eq.trans (Eq.trans (Eq.trans (if_neg c214).symm (if_pos c204).symm) (if_neg c189).symm) (if_neg c170).symm) (if_pos c137).symm) (if_neg c22).symm)), N0, rfl⟩
          · refine own_st (B := s₁.setTop (mkF m 237 #[rv r0, iv p1, iv p2, iv v7, iv (2 : Int32), iv (128 : Int32), iv (191 : Int32), iv (2 : Int32), iv v152] [(.int (2 : Int32))])) (fun target kt => ?_) ?_
            · show Steps p.tables e below (s₁.setTop (mkF m 204 #[rv r0, iv p1, iv p2, iv v7, iv (2 : Int32), iv (128 : Int32), iv (191 : Int32), iv (2 : Int32), iv v152] [(.int (239 : Int32)), (.int v7)])) target
              refine XS.icmpYes X0.here hx rfl (pc0 := 204) (pc' := 235) rfl (hb hby own_d1_204) rfl (feq c204).2 (by decide) (by decide) ?_
              refine XS.iload X0.here hx rfl (hb hby own_d1_235) rfl ?_
              exact kt
            obtain ⟨fs, hr, hrun, hended, hW, hsame⟩ := X0.leave (v := some (.int (2 : Int32))) (fun h => by rw [Bd.returns] at h; cases h)
            have hend : Steps p.tables e below (s₁.setTop (mkF m 237 #[rv r0, iv p1, iv p2, iv v7, iv (2 : Int32), iv (128 : Int32), iv (191 : Int32), iv (2 : Int32), iv v152] [(.int (2 : Int32))])) (s₁.setFrames fs) := by
              exact retI X0 hx Bd.returns (hb hby own_d1_237) hr
            refine own_fin hend ⟨_, hrun, hended, _, _, rfl, ?_, ⟨_, rfl⟩, hW, hsame.mono (by decide) (by decide)⟩
            show own_Q1_B Z r0 p1 p2 g h0 n0 _ s₁.heap _
            rw [e0]
            subst hv7 hv152
            exact ⟨(congrArg (fun z => some (Value.int z)) (Eq.trans (Eq.trans (Eq.trans (Eq.trans (if_neg c204).symm (if_neg c189).symm) (if_neg c170).symm) (if_pos c137).symm) (if_neg c22).symm)), N0, rfl⟩
    · refine own_st (B := s₁.setTop (mkF m 141 #[rv r0, iv p1, iv p2, iv v7, iv (2 : Int32), iv (128 : Int32), iv (191 : Int32), iv (1 : Int32), .unset] [(.int (0 : Int32))])) (fun target kt => ?_) ?_
      · show Steps p.tables e below (s₁.setTop (mkF m 137 #[rv r0, iv p1, iv p2, iv v7, iv (2 : Int32), iv (128 : Int32), iv (191 : Int32), iv (1 : Int32), .unset] [(.int p2), (.int (p1 + (1 : Int32)))])) target
        refine XS.icmpNo X0.here hx rfl (hb hby own_d1_137) rfl (flt c137).1 ?_
        refine XS.iconst X0.here hx rfl (hb hby own_d1_140) ?_
        exact kt
      obtain ⟨fs, hr, hrun, hended, hW, hsame⟩ := X0.leave (v := some (.int (0 : Int32))) (fun h => by rw [Bd.returns] at h; cases h)
      have hend : Steps p.tables e below (s₁.setTop (mkF m 141 #[rv r0, iv p1, iv p2, iv v7, iv (2 : Int32), iv (128 : Int32), iv (191 : Int32), iv (1 : Int32), .unset] [(.int (0 : Int32))])) (s₁.setFrames fs) := by
        exact retI X0 hx Bd.returns (hb hby own_d1_141) hr
      refine own_fin hend ⟨_, hrun, hended, _, _, rfl, ?_, ⟨_, rfl⟩, hW, hsame.mono (by decide) (by decide)⟩
      show own_Q1_B Z r0 p1 p2 g h0 n0 _ s₁.heap _
      rw [e0]
      subst hv7
      exact ⟨(congrArg (fun z => some (Value.int z)) (Eq.trans (if_neg c137).symm (if_neg c22).symm)), N0, rfl⟩
theorem own_d1_40 : decode prog_171_method_20_code 40 = .ok (.iload_n 3, 1) := by decide +kernel
theorem own_d1_41 : decode prog_171_method_20_code 41 = .ok (.sipush 240, 3) := by decide +kernel
theorem own_d1_44 : decode prog_171_method_20_code 44 = .ok (.if_icmp .ge 36, 3) := by decide +kernel
theorem own_d1_47 : decode prog_171_method_20_code 47 = .ok (.iconst 3, 1) := by decide +kernel
theorem own_d1_48 : decode prog_171_method_20_code 48 = .ok (.istore 4, 2) := by decide +kernel
theorem own_d1_50 : decode prog_171_method_20_code 50 = .ok (.iload_n 3, 1) := by decide +kernel
theorem own_d1_51 : decode prog_171_method_20_code 51 = .ok (.sipush 224, 3) := by decide +kernel
theorem own_d1_54 : decode prog_171_method_20_code 54 = .ok (.if_icmp .ne 11, 3) := by decide +kernel
theorem own_d1_57 : decode prog_171_method_20_code 57 = .ok (.sipush 160, 3) := by decide +kernel
theorem own_d1_60 : decode prog_171_method_20_code 60 = .ok (.istore 5, 2) := by decide +kernel
theorem own_d1_62 : decode prog_171_method_20_code 62 = .ok (.goto 60, 3) := by decide +kernel
theorem own_d1_65 : decode prog_171_method_20_code 65 = .ok (.iload_n 3, 1) := by decide +kernel
theorem own_d1_66 : decode prog_171_method_20_code 66 = .ok (.sipush 237, 3) := by decide +kernel
theorem own_d1_69 : decode prog_171_method_20_code 69 = .ok (.if_icmp .ne 53, 3) := by decide +kernel
theorem own_d1_72 : decode prog_171_method_20_code 72 = .ok (.sipush 159, 3) := by decide +kernel
theorem own_d1_75 : decode prog_171_method_20_code 75 = .ok (.istore 6, 2) := by decide +kernel
theorem own_d1_77 : decode prog_171_method_20_code 77 = .ok (.goto 45, 3) := by decide +kernel
theorem own_d1_167 : decode prog_171_method_20_code 167 = .ok (.sipush 128, 3) := by decide +kernel
theorem own_d1_186 : decode prog_171_method_20_code 186 = .ok (.sipush 191, 3) := by decide +kernel
theorem own_ef1_C (m : MethodId) (r0 : Addr) (p1 : Int32) (p2 : Int32) : entryFrame m #[(.ref r0), (.int p1), (.int p2)] 9 = mkF m 0 #[rv r0, iv p1, iv p2, .unset, .unset, .unset, .unset, .unset, .unset] [] := by first | (simp [entryFrame, mkF, argsToLocals, Value.category]; done) | rfl
def own_Q1_C (Z : State) (r0 : Addr) (p1 : Int32) (p2 : Int32) (g : Nat → Int32) (h0 : Heap) (n0 : Nat) (v : Option Value) (h : Heap) (L : List Loc) : Prop := (v = some (.int (if (p1 + (1 : Int32)) < p2 then (if (((g ((p1 + (1 : Int32))).toNatClampNeg) &&& (255 : Int32))) < ((if (((g (p1).toNatClampNeg) &&& (255 : Int32))) = (224 : Int32) then (160 : Int32) else (128 : Int32))) then (-1 : Int32) else (if ((if (((g (p1).toNatClampNeg) &&& (255 : Int32))) = (224 : Int32) then (191 : Int32) else (if (((g (p1).toNatClampNeg) &&& (255 : Int32))) = (237 : Int32) then (159 : Int32) else (191 : Int32)))) < (((g ((p1 + (1 : Int32))).toNatClampNeg) &&& (255 : Int32))) then (-1 : Int32) else (if (p1 + (2 : Int32)) < p2 then (if (((g ((p1 + (2 : Int32))).toNatClampNeg) &&& (255 : Int32))) < (128 : Int32) then (-1 : Int32) else (if (191 : Int32) < (((g ((p1 + (2 : Int32))).toNatClampNeg) &&& (255 : Int32))) then (-1 : Int32) else (if (((g (p1).toNatClampNeg) &&& (255 : Int32))) = (239 : Int32) then (if (g ((p1 + (1 : Int32))).toNatClampNeg) = (-65 : Int32) then (if ((g ((p1 + (2 : Int32))).toNatClampNeg) &&& (254 : Int32)) = (190 : Int32) then (-2 : Int32) else (3 : Int32)) else (3 : Int32)) else (3 : Int32)))) else (0 : Int32)))) else (0 : Int32)))) ∧ (Fr n0 L) ∧ (h = h0)
set_option maxRecDepth 65536 in
set_option maxHeartbeats 40000000 in
theorem own_rm1_C (l : Launch) (Z : State) (a0 : Array Value) (hw : ∀ d ∈ tables_1, d.before a0 Z = true) (ws : List Jvm.Cond) (r0 : Addr) (p1 : Int32) (p2 : Int32) (g : Nat → Int32) (h0 : Heap) (n0 : Nat) (Z0 : n0 ≤ h0.size) (R_r0 : own_RayB Z h0 r0 8 g) (hat : p1 = (0 : Int32) ∨ p1 = (1 : Int32) ∨ p1 = (2 : Int32) ∨ p1 = (3 : Int32)) (h1 : ¬ ((g (p1).toNatClampNeg) &&& (255 : Int32)) < (194 : Int32)) (h2 : ¬ ((g (p1).toNatClampNeg) &&& (255 : Int32)) < (224 : Int32)) (h3 : ((g (p1).toNatClampNeg) &&& (255 : Int32)) < (240 : Int32)) :
    MetFree l (⟨"com/example/psyche/psyche/XmlChars", "sequenceLength", "([BII)I"⟩ : MethodName) (head1 (Jvm.Cond.code (⟨"com/example/psyche/psyche/XmlChars", "sequenceLength", "([BII)I"⟩ : MethodName) prog_171_method_20_code 9 (some .int) :: ws) ({ frames := 0, cells := 0, slots := 0, locals := 0 } : Room)) (fun a U => a = #[(.ref r0), (.int p1), (.int p2)] ∧ Z.Warmed39 U.vm ∧ U.heap = h0) (fun _ _ _ _ _ => True) (fun _ U o U' => ∃ v L, o = .returned v ∧ own_Q1_C Z r0 p1 p2 g h0 n0 v U'.heap L ∧ FrameEnd U o U' L ({ frames := 0, cells := 0, slots := 0, locals := 0 } : Room).cells ({ frames := 0, cells := 0, slots := 0, locals := 0 } : Room).slots) := by
  refine MetFree.of_bodySF (plainFor_of_name own_pn1) hisR ?_
  intro p e s m args below meth c s₁ Bd hml0 hP hK
  obtain ⟨rfl, hZ, hh⟩ := hP
  have hx := Bd.exec
  have hby := Bd.bytes
  have hml : c.maxLocals = 9 := hml0
  have hown : s.vm.findClass "com/example/psyche/psyche/XmlChars" = some m.cls := findClass_of_methodNamed Bd.named
  have hnm := (name_of_methodNamed Bd.named Bd.method).1
  have X0 : Stand p l e ({ frames := 0, cells := 0, slots := 0, locals := 0 } : Room) s m #[(.ref r0), (.int p1), (.int p2)] below meth c s₁ [] 0 0 := Stand.of_body Bd
  have e0 : s₁.heap = h0 := by rw [← hh, Bd.state]; rfl
  have N0 := Fr.nil n0
  have pre0 : ∀ t, Steps p.tables e below (s₁.setTop (mkF m 0 #[rv r0, iv p1, iv p2, .unset, .unset, .unset, .unset, .unset, .unset] [])) t → Steps p.tables e below (s₁.setTop (entryFrame m #[(.ref r0), (.int p1), (.int p2)] 9)) t := fun t k => castTop (own_ef1_C m r0 p1 p2) k
  refine own_run (own_st pre0 ?_)
  have hin := own_in p1 hat
  refine own_st (B := s₁.setTop (mkF m 2 #[rv r0, iv p1, iv p2, .unset, .unset, .unset, .unset, .unset, .unset] [(.int p1), (.ref r0)])) (fun target kt => ?_) ?_
  · show Steps p.tables e below (s₁.setTop (mkF m 0 #[rv r0, iv p1, iv p2, .unset, .unset, .unset, .unset, .unset, .unset] [])) target
    refine XS.aloadN X0.here hx rfl (hb hby own_d1_0) rfl rfl ?_
    refine XS.iloadN X0.here hx rfl (hb hby own_d1_1) rfl ?_
    exact kt
  obtain ⟨clg2, Arg2, Szg2, Atg2⟩ := id R_r0
  have hing2 : ¬ (p1 < 0 ∨ clg2.slots.size ≤ (p1).toNatClampNeg) := own_inb Szg2 hin.1
  have hatg2 : clg2.slots[(p1).toNatClampNeg]? = some (.int (g (p1).toNatClampNeg)) := own_RayB_nth Atg2 Szg2 hing2
  refine own_st (B := s₁.setTop (mkF m 3 #[rv r0, iv p1, iv p2, .unset, .unset, .unset, .unset, .unset, .unset] [(.int (g (p1).toNatClampNeg))])) (fun target kt => ?_) ?_
  · refine X0.baloadBytes hx (j := p1) (v := (.int (g (p1).toNatClampNeg))) (by first | exact Arg2.1 | (rw [e0]; exact Arg2.1)) (State.isArrayOf_alike hZ.alike Arg2.2.1) Arg2.2.2 hing2 hatg2 (g := (mkF m 2 #[rv r0, iv p1, iv p2, .unset, .unset, .unset, .unset, .unset, .unset] [(.int p1), (.ref r0)])) rfl rfl (hb hby own_d1_2) _ ?_
    exact kt
  obtain ⟨v7, hv7⟩ : ∃ z : Int32, z = ((g (p1).toNatClampNeg) &&& (255 : Int32)) := ⟨_, rfl⟩
  refine own_st (B := s₁.setTop (mkF m 22 #[rv r0, iv p1, iv p2, iv v7, .unset, iv (128 : Int32), iv (191 : Int32), .unset, .unset] [(.int (194 : Int32)), (.int v7)])) (fun target kt => ?_) ?_
  · show Steps p.tables e below (s₁.setTop (mkF m 3 #[rv r0, iv p1, iv p2, .unset, .unset, .unset, .unset, .unset, .unset] [(.int (g (p1).toNatClampNeg))])) target
    refine XS.sipush X0.here hx rfl (hb hby own_d1_3) ?_
    refine XS.iand X0.here hx rfl (hb hby own_d1_6) rfl ?_
    refine XS.istoreN X0.here hx rfl (hb hby own_d1_7) rfl (l' := #[rv r0, iv p1, iv p2, iv v7, .unset, .unset, .unset, .unset, .unset]) (by subst hv7; rfl) ?_
    refine XS.sipush X0.here hx rfl (hb hby own_d1_8) ?_
    refine XS.istore X0.here hx rfl (hb hby own_d1_11) rfl (l' := #[rv r0, iv p1, iv p2, iv v7, .unset, iv (128 : Int32), .unset, .unset, .unset]) rfl ?_
    refine XS.sipush X0.here hx rfl (hb hby own_d1_13) ?_
    refine XS.istore X0.here hx rfl (hb hby own_d1_16) rfl (l' := #[rv r0, iv p1, iv p2, iv v7, .unset, iv (128 : Int32), iv (191 : Int32), .unset, .unset]) rfl ?_
    refine XS.iloadN X0.here hx rfl (hb hby own_d1_18) rfl ?_
    show Steps p.tables e below (s₁.setTop (mkF m 19 #[rv r0, iv p1, iv p2, iv v7, .unset, iv (128 : Int32), iv (191 : Int32), .unset, .unset] [(.int v7)])) target
    refine XS.sipush X0.here hx rfl (hb hby own_d1_19) ?_
    exact kt
  have c22 : ¬ (v7 < (194 : Int32)) := by
    rw [hv7]
    exact h1
  refine own_st (B := s₁.setTop (mkF m 31 #[rv r0, iv p1, iv p2, iv v7, .unset, iv (128 : Int32), iv (191 : Int32), .unset, .unset] [(.int (224 : Int32)), (.int v7)])) (fun target kt => ?_) ?_
  · show Steps p.tables e below (s₁.setTop (mkF m 22 #[rv r0, iv p1, iv p2, iv v7, .unset, iv (128 : Int32), iv (191 : Int32), .unset, .unset] [(.int (194 : Int32)), (.int v7)])) target
    refine XS.icmpYes X0.here hx rfl (pc0 := 22) (pc' := 27) rfl (hb hby own_d1_22) rfl (flt c22).2.1 (by decide) (by decide) ?_
    refine XS.iloadN X0.here hx rfl (hb hby own_d1_27) rfl ?_
    refine XS.sipush X0.here hx rfl (hb hby own_d1_28) ?_
    exact kt
  have c31 : ¬ (v7 < (224 : Int32)) := by
    rw [hv7]
    exact h2
  refine own_st (B := s₁.setTop (mkF m 44 #[rv r0, iv p1, iv p2, iv v7, .unset, iv (128 : Int32), iv (191 : Int32), .unset, .unset] [(.int (240 : Int32)), (.int v7)])) (fun target kt => ?_) ?_
  · show Steps p.tables e below (s₁.setTop (mkF m 31 #[rv r0, iv p1, iv p2, iv v7, .unset, iv (128 : Int32), iv (191 : Int32), .unset, .unset] [(.int (224 : Int32)), (.int v7)])) target
    refine XS.icmpYes X0.here hx rfl (pc0 := 31) (pc' := 40) rfl (hb hby own_d1_31) rfl (flt c31).2.1 (by decide) (by decide) ?_
    refine XS.iloadN X0.here hx rfl (hb hby own_d1_40) rfl ?_
    refine XS.sipush X0.here hx rfl (hb hby own_d1_41) ?_
    exact kt
  have c44 : v7 < (240 : Int32) := by
    rw [hv7]
    exact h3
  refine own_st (B := s₁.setTop (mkF m 54 #[rv r0, iv p1, iv p2, iv v7, iv (3 : Int32), iv (128 : Int32), iv (191 : Int32), .unset, .unset] [(.int (224 : Int32)), (.int v7)])) (fun target kt => ?_) ?_
  · show Steps p.tables e below (s₁.setTop (mkF m 44 #[rv r0, iv p1, iv p2, iv v7, .unset, iv (128 : Int32), iv (191 : Int32), .unset, .unset] [(.int (240 : Int32)), (.int v7)])) target
    refine XS.icmpNo X0.here hx rfl (hb hby own_d1_44) rfl (tlt c44).2.1 ?_
    refine XS.iconst X0.here hx rfl (hb hby own_d1_47) ?_
    refine XS.istore X0.here hx rfl (hb hby own_d1_48) rfl (l' := #[rv r0, iv p1, iv p2, iv v7, iv (3 : Int32), iv (128 : Int32), iv (191 : Int32), .unset, .unset]) rfl ?_
    refine XS.iloadN X0.here hx rfl (hb hby own_d1_50) rfl ?_
    refine XS.sipush X0.here hx rfl (hb hby own_d1_51) ?_
    exact kt
  obtain ⟨_, ⟨j122_l5, j122_l6, rfl, hj122_l5, hj122_l6⟩, st_M122⟩ : own_Lead p.tables e below (s₁.setTop (mkF m 54 #[rv r0, iv p1, iv p2, iv v7, iv (3 : Int32), iv (128 : Int32), iv (191 : Int32), .unset, .unset] [(.int (224 : Int32)), (.int v7)])) (fun B => ∃ (j122_l5 : Int32) (j122_l6 : Int32), B = s₁.setTop (mkF m 122 #[rv r0, iv p1, iv p2, iv v7, iv (3 : Int32), iv j122_l5, iv j122_l6, .unset, .unset] []) ∧ j122_l5 = (if v7 = (224 : Int32) then (160 : Int32) else (128 : Int32)) ∧ j122_l6 = (if v7 = (224 : Int32) then (191 : Int32) else (if v7 = (237 : Int32) then (159 : Int32) else (191 : Int32)))) := by
    by_cases c54 : v7 = (224 : Int32)
    · refine own_st (B := s₁.setTop (mkF m 122 #[rv r0, iv p1, iv p2, iv v7, iv (3 : Int32), iv (160 : Int32), iv (191 : Int32), .unset, .unset] [])) (fun target kt => ?_) ?_
      · show Steps p.tables e below (s₁.setTop (mkF m 54 #[rv r0, iv p1, iv p2, iv v7, iv (3 : Int32), iv (128 : Int32), iv (191 : Int32), .unset, .unset] [(.int (224 : Int32)), (.int v7)])) target
        refine XS.icmpNo X0.here hx rfl (hb hby own_d1_54) rfl (teq c54).2 ?_
        refine XS.sipush X0.here hx rfl (hb hby own_d1_57) ?_
        refine XS.istore X0.here hx rfl (hb hby own_d1_60) rfl (l' := #[rv r0, iv p1, iv p2, iv v7, iv (3 : Int32), iv (160 : Int32), iv (191 : Int32), .unset, .unset]) rfl ?_
        refine XS.goto X0.here hx rfl (pc0 := 62) (pc' := 122) rfl (hb hby own_d1_62) (by decide) (by decide) ?_
        exact kt
      exact ⟨_, ⟨(160 : Int32), (191 : Int32), rfl, (if_pos c54).symm, (if_pos c54).symm⟩, fun _ k => k⟩
    · refine own_st (B := s₁.setTop (mkF m 69 #[rv r0, iv p1, iv p2, iv v7, iv (3 : Int32), iv (128 : Int32), iv (191 : Int32), .unset, .unset] [(.int (237 : Int32)), (.int v7)])) (fun target kt => ?_) ?_
      · show Steps p.tables e below (s₁.setTop (mkF m 54 #[rv r0, iv p1, iv p2, iv v7, iv (3 : Int32), iv (128 : Int32), iv (191 : Int32), .unset, .unset] [(.int (224 : Int32)), (.int v7)])) target
        refine XS.icmpYes X0.here hx rfl (pc0 := 54) (pc' := 65) rfl (hb hby own_d1_54) rfl (feq c54).2 (by decide) (by decide) ?_
        refine XS.iloadN X0.here hx rfl (hb hby own_d1_65) rfl ?_
        refine XS.sipush X0.here hx rfl (hb hby own_d1_66) ?_
        exact kt
      by_cases c69 : v7 = (237 : Int32)
      · refine own_st (B := s₁.setTop (mkF m 122 #[rv r0, iv p1, iv p2, iv v7, iv (3 : Int32), iv (128 : Int32), iv (159 : Int32), .unset, .unset] [])) (fun target kt => ?_) ?_
        · show Steps p.tables e below (s₁.setTop (mkF m 69 #[rv r0, iv p1, iv p2, iv v7, iv (3 : Int32), iv (128 : Int32), iv (191 : Int32), .unset, .unset] [(.int (237 : Int32)), (.int v7)])) target
          refine XS.icmpNo X0.here hx rfl (hb hby own_d1_69) rfl (teq c69).2 ?_
          refine XS.sipush X0.here hx rfl (hb hby own_d1_72) ?_
          refine XS.istore X0.here hx rfl (hb hby own_d1_75) rfl (l' := #[rv r0, iv p1, iv p2, iv v7, iv (3 : Int32), iv (128 : Int32), iv (159 : Int32), .unset, .unset]) rfl ?_
          refine XS.goto X0.here hx rfl (pc0 := 77) (pc' := 122) rfl (hb hby own_d1_77) (by decide) (by decide) ?_
          exact kt
        exact ⟨_, ⟨(128 : Int32), (159 : Int32), rfl, (if_neg c54).symm, (Eq.trans (if_pos c69).symm (if_neg c54).symm)⟩, fun _ k => k⟩
      · refine own_st (B := s₁.setTop (mkF m 122 #[rv r0, iv p1, iv p2, iv v7, iv (3 : Int32), iv (128 : Int32), iv (191 : Int32), .unset, .unset] [])) (fun target kt => ?_) ?_
        · show Steps p.tables e below (s₁.setTop (mkF m 69 #[rv r0, iv p1, iv p2, iv v7, iv (3 : Int32), iv (128 : Int32), iv (191 : Int32), .unset, .unset] [(.int (237 : Int32)), (.int v7)])) target
          refine XS.icmpYes X0.here hx rfl (pc0 := 69) (pc' := 122) rfl (hb hby own_d1_69) rfl (feq c69).2 (by decide) (by decide) ?_
          exact kt
        exact ⟨_, ⟨(128 : Int32), (191 : Int32), rfl, (if_neg c54).symm, (Eq.trans (if_neg c69).symm (if_neg c54).symm)⟩, fun _ k => k⟩
  refine own_st st_M122 ?_
  refine own_st (B := s₁.setTop (mkF m 137 #[rv r0, iv p1, iv p2, iv v7, iv (3 : Int32), iv j122_l5, iv j122_l6, iv (1 : Int32), .unset] [(.int p2), (.int (p1 + (1 : Int32)))])) (fun target kt => ?_) ?_
  · show Steps p.tables e below (s₁.setTop (mkF m 122 #[rv r0, iv p1, iv p2, iv v7, iv (3 : Int32), iv j122_l5, iv j122_l6, .unset, .unset] [])) target
    refine XS.iconst X0.here hx rfl (hb hby own_d1_122) ?_
    refine XS.istore X0.here hx rfl (hb hby own_d1_123) rfl (l' := #[rv r0, iv p1, iv p2, iv v7, iv (3 : Int32), iv j122_l5, iv j122_l6, iv (1 : Int32), .unset]) rfl ?_
    refine XS.iload X0.here hx rfl (hb hby own_d1_125) rfl ?_
    refine XS.iload X0.here hx rfl (hb hby own_d1_127) rfl ?_
    refine XS.icmpNo X0.here hx rfl (hb hby own_d1_129) rfl (tlt (by decide : (1 : Int32) < (3 : Int32))).2.1 ?_
    refine XS.iloadN X0.here hx rfl (hb hby own_d1_132) rfl ?_
    refine XS.iload X0.here hx rfl (hb hby own_d1_133) rfl ?_
    refine XS.iadd X0.here hx rfl (hb hby own_d1_135) rfl ?_
    show Steps p.tables e below (s₁.setTop (mkF m 136 #[rv r0, iv p1, iv p2, iv v7, iv (3 : Int32), iv j122_l5, iv j122_l6, iv (1 : Int32), .unset] [(.int (p1 + (1 : Int32)))])) target
    refine XS.iloadN X0.here hx rfl (hb hby own_d1_136) rfl ?_
    exact kt
  by_cases c137 : (p1 + (1 : Int32)) < p2
  · refine own_st (B := s₁.setTop (mkF m 147 #[rv r0, iv p1, iv p2, iv v7, iv (3 : Int32), iv j122_l5, iv j122_l6, iv (1 : Int32), .unset] [(.int (p1 + (1 : Int32))), (.ref r0)])) (fun target kt => ?_) ?_
    · show Steps p.tables e below (s₁.setTop (mkF m 137 #[rv r0, iv p1, iv p2, iv v7, iv (3 : Int32), iv j122_l5, iv j122_l6, iv (1 : Int32), .unset] [(.int p2), (.int (p1 + (1 : Int32)))])) target
      refine XS.icmpYes X0.here hx rfl (pc0 := 137) (pc' := 142) rfl (hb hby own_d1_137) rfl (tlt c137).1 (by decide) (by decide) ?_
      refine XS.aloadN X0.here hx rfl (hb hby own_d1_142) rfl rfl ?_
      refine XS.iloadN X0.here hx rfl (hb hby own_d1_143) rfl ?_
      refine XS.iload X0.here hx rfl (hb hby own_d1_144) rfl ?_
      refine XS.iadd X0.here hx rfl (hb hby own_d1_146) rfl ?_
      exact kt
    obtain ⟨clg147, Arg147, Szg147, Atg147⟩ := id R_r0
    have hing147 : ¬ ((p1 + (1 : Int32)) < 0 ∨ clg147.slots.size ≤ ((p1 + (1 : Int32))).toNatClampNeg) := own_inb Szg147 hin.2.1
    have hatg147 : clg147.slots[((p1 + (1 : Int32))).toNatClampNeg]? = some (.int (g ((p1 + (1 : Int32))).toNatClampNeg)) := own_RayB_nth Atg147 Szg147 hing147
    refine own_st (B := s₁.setTop (mkF m 148 #[rv r0, iv p1, iv p2, iv v7, iv (3 : Int32), iv j122_l5, iv j122_l6, iv (1 : Int32), .unset] [(.int (g ((p1 + (1 : Int32))).toNatClampNeg))])) (fun target kt => ?_) ?_
    · refine X0.baloadBytes hx (j := (p1 + (1 : Int32))) (v := (.int (g ((p1 + (1 : Int32))).toNatClampNeg))) (by first | exact Arg147.1 | (rw [e0]; exact Arg147.1)) (State.isArrayOf_alike hZ.alike Arg147.2.1) Arg147.2.2 hing147 hatg147 (g := (mkF m 147 #[rv r0, iv p1, iv p2, iv v7, iv (3 : Int32), iv j122_l5, iv j122_l6, iv (1 : Int32), .unset] [(.int (p1 + (1 : Int32))), (.ref r0)])) rfl rfl (hb hby own_d1_147) _ ?_
      exact kt
    obtain ⟨v152, hv152⟩ : ∃ z : Int32, z = ((g ((p1 + (1 : Int32))).toNatClampNeg) &&& (255 : Int32)) := ⟨_, rfl⟩
    refine own_st (B := s₁.setTop (mkF m 170 #[rv r0, iv p1, iv p2, iv v7, iv (3 : Int32), iv j122_l5, iv j122_l6, iv (1 : Int32), iv v152] [(.int j122_l5), (.int v152)])) (fun target kt => ?_) ?_
    · show Steps p.tables e below (s₁.setTop (mkF m 148 #[rv r0, iv p1, iv p2, iv v7, iv (3 : Int32), iv j122_l5, iv j122_l6, iv (1 : Int32), .unset] [(.int (g ((p1 + (1 : Int32))).toNatClampNeg))])) target
      refine XS.sipush X0.here hx rfl (hb hby own_d1_148) ?_
      refine XS.iand X0.here hx rfl (hb hby own_d1_151) rfl ?_
      refine XS.istore X0.here hx rfl (hb hby own_d1_152) rfl (l' := #[rv r0, iv p1, iv p2, iv v7, iv (3 : Int32), iv j122_l5, iv j122_l6, iv (1 : Int32), iv v152]) (by subst hv152; rfl) ?_
      refine XS.iload X0.here hx rfl (hb hby own_d1_154) rfl ?_
      refine XS.iload X0.here hx rfl (hb hby own_d1_156) rfl ?_
      refine XS.iconst X0.here hx rfl (hb hby own_d1_158) ?_
      refine XS.icmpNo X0.here hx rfl (hb hby own_d1_159) rfl (teq (by decide : (1 : Int32) = (1 : Int32))).2 ?_
      refine XS.iload X0.here hx rfl (hb hby own_d1_162) rfl ?_
      show Steps p.tables e below (s₁.setTop (mkF m 164 #[rv r0, iv p1, iv p2, iv v7, iv (3 : Int32), iv j122_l5, iv j122_l6, iv (1 : Int32), iv v152] [(.int j122_l5), (.int v152)])) target
      refine XS.goto X0.here hx rfl (pc0 := 164) (pc' := 170) rfl (hb hby own_d1_164) (by decide) (by decide) ?_
      exact kt
    by_cases c170 : v152 < j122_l5
    · refine own_st (B := s₁.setTop (mkF m 193 #[rv r0, iv p1, iv p2, iv v7, iv (3 : Int32), iv j122_l5, iv j122_l6, iv (1 : Int32), iv v152] [(.int (-1 : Int32))])) (fun target kt => ?_) ?_
      · show Steps p.tables e below (s₁.setTop (mkF m 170 #[rv r0, iv p1, iv p2, iv v7, iv (3 : Int32), iv j122_l5, iv j122_l6, iv (1 : Int32), iv v152] [(.int j122_l5), (.int v152)])) target
        refine XS.icmpYes X0.here hx rfl (pc0 := 170) (pc' := 192) rfl (hb hby own_d1_170) rfl (tlt c170).1 (by decide) (by decide) ?_
        refine XS.iconst X0.here hx rfl (hb hby own_d1_192) ?_
        exact kt
      obtain ⟨fs, hr, hrun, hended, hW, hsame⟩ := X0.leave (v := some (.int (-1 : Int32))) (fun h => by rw [Bd.returns] at h; cases h)
      have hend : Steps p.tables e below (s₁.setTop (mkF m 193 #[rv r0, iv p1, iv p2, iv v7, iv (3 : Int32), iv j122_l5, iv j122_l6, iv (1 : Int32), iv v152] [(.int (-1 : Int32))])) (s₁.setFrames fs) := by
        exact retI X0 hx Bd.returns (hb hby own_d1_193) hr
      refine own_fin hend ⟨_, hrun, hended, _, _, rfl, ?_, ⟨_, rfl⟩, hW, hsame.mono (by decide) (by decide)⟩
      show own_Q1_C Z r0 p1 p2 g h0 n0 _ s₁.heap _
      rw [e0]
      subst hv7 hj122_l5 hj122_l6 hv152
      exact ⟨(congrArg (fun z => some (Value.int z)) (Eq.trans (if_pos c170).symm (if_pos c137).symm)), N0, rfl⟩
    · refine own_st (B := s₁.setTop (mkF m 189 #[rv r0, iv p1, iv p2, iv v7, iv (3 : Int32), iv j122_l5, iv j122_l6, iv (1 : Int32), iv v152] [(.int j122_l6), (.int v152)])) (fun target kt => ?_) ?_
      · show Steps p.tables e below (s₁.setTop (mkF m 170 #[rv r0, iv p1, iv p2, iv v7, iv (3 : Int32), iv j122_l5, iv j122_l6, iv (1 : Int32), iv v152] [(.int j122_l5), (.int v152)])) target
        refine XS.icmpNo X0.here hx rfl (hb hby own_d1_170) rfl (flt c170).1 ?_
        refine XS.iload X0.here hx rfl (hb hby own_d1_173) rfl ?_
        refine XS.iload X0.here hx rfl (hb hby own_d1_175) rfl ?_
        refine XS.iconst X0.here hx rfl (hb hby own_d1_177) ?_
        refine XS.icmpNo X0.here hx rfl (hb hby own_d1_178) rfl (teq (by decide : (1 : Int32) = (1 : Int32))).2 ?_
        refine XS.iload X0.here hx rfl (hb hby own_d1_181) rfl ?_
        refine XS.goto X0.here hx rfl (pc0 := 183) (pc' := 189) rfl (hb hby own_d1_183) (by decide) (by decide) ?_
        exact kt
      by_cases c189 : j122_l6 < v152
      · refine own_st (B := s₁.setTop (mkF m 193 #[rv r0, iv p1, iv p2, iv v7, iv (3 : Int32), iv j122_l5, iv j122_l6, iv (1 : Int32), iv v152] [(.int (-1 : Int32))])) (fun target kt => ?_) ?_
        · show Steps p.tables e below (s₁.setTop (mkF m 189 #[rv r0, iv p1, iv p2, iv v7, iv (3 : Int32), iv j122_l5, iv j122_l6, iv (1 : Int32), iv v152] [(.int j122_l6), (.int v152)])) target
          refine XS.icmpNo X0.here hx rfl (hb hby own_d1_189) rfl (tlt c189).2.2.2 ?_
          refine XS.iconst X0.here hx rfl (hb hby own_d1_192) ?_
          exact kt
        obtain ⟨fs, hr, hrun, hended, hW, hsame⟩ := X0.leave (v := some (.int (-1 : Int32))) (fun h => by rw [Bd.returns] at h; cases h)
        have hend : Steps p.tables e below (s₁.setTop (mkF m 193 #[rv r0, iv p1, iv p2, iv v7, iv (3 : Int32), iv j122_l5, iv j122_l6, iv (1 : Int32), iv v152] [(.int (-1 : Int32))])) (s₁.setFrames fs) := by
          exact retI X0 hx Bd.returns (hb hby own_d1_193) hr
        refine own_fin hend ⟨_, hrun, hended, _, _, rfl, ?_, ⟨_, rfl⟩, hW, hsame.mono (by decide) (by decide)⟩
        show own_Q1_C Z r0 p1 p2 g h0 n0 _ s₁.heap _
        rw [e0]
        subst hv7 hj122_l5 hj122_l6 hv152
        exact ⟨(congrArg (fun z => some (Value.int z)) (Eq.trans (Eq.trans (if_pos c189).symm (if_neg c170).symm) (if_pos c137).symm)), N0, rfl⟩
      · refine own_st (B := s₁.setTop (mkF m 137 #[rv r0, iv p1, iv p2, iv v7, iv (3 : Int32), iv j122_l5, iv j122_l6, iv (2 : Int32), iv v152] [(.int p2), (.int (p1 + (2 : Int32)))])) (fun target kt => ?_) ?_
        · show Steps p.tables e below (s₁.setTop (mkF m 189 #[rv r0, iv p1, iv p2, iv v7, iv (3 : Int32), iv j122_l5, iv j122_l6, iv (1 : Int32), iv v152] [(.int j122_l6), (.int v152)])) target
          refine XS.icmpYes X0.here hx rfl (pc0 := 189) (pc' := 194) rfl (hb hby own_d1_189) rfl (flt c189).2.2.2 (by decide) (by decide) ?_
          refine XS.iinc X0.here hx rfl (hb hby own_d1_194) rfl (l' := #[rv r0, iv p1, iv p2, iv v7, iv (3 : Int32), iv j122_l5, iv j122_l6, iv (2 : Int32), iv v152]) rfl ?_
          refine XS.goto X0.here hx rfl (pc0 := 197) (pc' := 125) rfl (hb hby own_d1_197) (by decide) (by decide) ?_
          refine XS.iload X0.here hx rfl (hb hby own_d1_125) rfl ?_
          refine XS.iload X0.here hx rfl (hb hby own_d1_127) rfl ?_
          refine XS.icmpNo X0.here hx rfl (hb hby own_d1_129) rfl (tlt (by decide : (2 : Int32) < (3 : Int32))).2.1 ?_
          refine XS.iloadN X0.here hx rfl (hb hby own_d1_132) rfl ?_
          refine XS.iload X0.here hx rfl (hb hby own_d1_133) rfl ?_
          show Steps p.tables e below (s₁.setTop (mkF m 135 #[rv r0, iv p1, iv p2, iv v7, iv (3 : Int32), iv j122_l5, iv j122_l6, iv (2 : Int32), iv v152] [(.int (2 : Int32)), (.int p1)])) target
          refine XS.iadd X0.here hx rfl (hb hby own_d1_135) rfl ?_
          refine XS.iloadN X0.here hx rfl (hb hby own_d1_136) rfl ?_
          exact kt
        by_cases c137_1 : (p1 + (2 : Int32)) < p2
        · refine own_st (B := s₁.setTop (mkF m 147 #[rv r0, iv p1, iv p2, iv v7, iv (3 : Int32), iv j122_l5, iv j122_l6, iv (2 : Int32), iv v152] [(.int (p1 + (2 : Int32))), (.ref r0)])) (fun target kt => ?_) ?_
          · show Steps p.tables e below (s₁.setTop (mkF m 137 #[rv r0, iv p1, iv p2, iv v7, iv (3 : Int32), iv j122_l5, iv j122_l6, iv (2 : Int32), iv v152] [(.int p2), (.int (p1 + (2 : Int32)))])) target
            refine XS.icmpYes X0.here hx rfl (pc0 := 137) (pc' := 142) rfl (hb hby own_d1_137) rfl (tlt c137_1).1 (by decide) (by decide) ?_
            refine XS.aloadN X0.here hx rfl (hb hby own_d1_142) rfl rfl ?_
            refine XS.iloadN X0.here hx rfl (hb hby own_d1_143) rfl ?_
            refine XS.iload X0.here hx rfl (hb hby own_d1_144) rfl ?_
            refine XS.iadd X0.here hx rfl (hb hby own_d1_146) rfl ?_
            exact kt
          obtain ⟨clg147_1, Arg147_1, Szg147_1, Atg147_1⟩ := id R_r0
          have hing147_1 : ¬ ((p1 + (2 : Int32)) < 0 ∨ clg147_1.slots.size ≤ ((p1 + (2 : Int32))).toNatClampNeg) := own_inb Szg147_1 hin.2.2.1
          have hatg147_1 : clg147_1.slots[((p1 + (2 : Int32))).toNatClampNeg]? = some (.int (g ((p1 + (2 : Int32))).toNatClampNeg)) := own_RayB_nth Atg147_1 Szg147_1 hing147_1
          refine own_st (B := s₁.setTop (mkF m 148 #[rv r0, iv p1, iv p2, iv v7, iv (3 : Int32), iv j122_l5, iv j122_l6, iv (2 : Int32), iv v152] [(.int (g ((p1 + (2 : Int32))).toNatClampNeg))])) (fun target kt => ?_) ?_
          · refine X0.baloadBytes hx (j := (p1 + (2 : Int32))) (v := (.int (g ((p1 + (2 : Int32))).toNatClampNeg))) (by first | exact Arg147_1.1 | (rw [e0]; exact Arg147_1.1)) (State.isArrayOf_alike hZ.alike Arg147_1.2.1) Arg147_1.2.2 hing147_1 hatg147_1 (g := (mkF m 147 #[rv r0, iv p1, iv p2, iv v7, iv (3 : Int32), iv j122_l5, iv j122_l6, iv (2 : Int32), iv v152] [(.int (p1 + (2 : Int32))), (.ref r0)])) rfl rfl (hb hby own_d1_147) _ ?_
            exact kt
          obtain ⟨v152_1, hv152_1⟩ : ∃ z : Int32, z = ((g ((p1 + (2 : Int32))).toNatClampNeg) &&& (255 : Int32)) := ⟨_, rfl⟩
          refine own_st (B := s₁.setTop (mkF m 170 #[rv r0, iv p1, iv p2, iv v7, iv (3 : Int32), iv j122_l5, iv j122_l6, iv (2 : Int32), iv v152_1] [(.int (128 : Int32)), (.int v152_1)])) (fun target kt => ?_) ?_
          · show Steps p.tables e below (s₁.setTop (mkF m 148 #[rv r0, iv p1, iv p2, iv v7, iv (3 : Int32), iv j122_l5, iv j122_l6, iv (2 : Int32), iv v152] [(.int (g ((p1 + (2 : Int32))).toNatClampNeg))])) target
            refine XS.sipush X0.here hx rfl (hb hby own_d1_148) ?_
            refine XS.iand X0.here hx rfl (hb hby own_d1_151) rfl ?_
            refine XS.istore X0.here hx rfl (hb hby own_d1_152) rfl (l' := #[rv r0, iv p1, iv p2, iv v7, iv (3 : Int32), iv j122_l5, iv j122_l6, iv (2 : Int32), iv v152_1]) (by subst hv152_1; rfl) ?_
            refine XS.iload X0.here hx rfl (hb hby own_d1_154) rfl ?_
            refine XS.iload X0.here hx rfl (hb hby own_d1_156) rfl ?_
            refine XS.iconst X0.here hx rfl (hb hby own_d1_158) ?_
            refine XS.icmpYes X0.here hx rfl (pc0 := 159) (pc' := 167) rfl (hb hby own_d1_159) rfl (feq (by decide : ¬ ((2 : Int32) = (1 : Int32)))).2 (by decide) (by decide) ?_
            refine XS.sipush X0.here hx rfl (hb hby own_d1_167) ?_
            exact kt
          by_cases c170_1 : v152_1 < (128 : Int32)
          · refine own_st (B := s₁.setTop (mkF m 193 #[rv r0, iv p1, iv p2, iv v7, iv (3 : Int32), iv j122_l5, iv j122_l6, iv (2 : Int32), iv v152_1] [(.int (-1 : Int32))])) (fun target kt => ?_) ?_
            · show Steps p.tables e below (s₁.setTop (mkF m 170 #[rv r0, iv p1, iv p2, iv v7, iv (3 : Int32), iv j122_l5, iv j122_l6, iv (2 : Int32), iv v152_1] [(.int (128 : Int32)), (.int v152_1)])) target
              refine XS.icmpYes X0.here hx rfl (pc0 := 170) (pc' := 192) rfl (hb hby own_d1_170) rfl (tlt c170_1).1 (by decide) (by decide) ?_
              refine XS.iconst X0.here hx rfl (hb hby own_d1_192) ?_
              exact kt
            obtain ⟨fs, hr, hrun, hended, hW, hsame⟩ := X0.leave (v := some (.int (-1 : Int32))) (fun h => by rw [Bd.returns] at h; cases h)
            have hend : Steps p.tables e below (s₁.setTop (mkF m 193 #[rv r0, iv p1, iv p2, iv v7, iv (3 : Int32), iv j122_l5, iv j122_l6, iv (2 : Int32), iv v152_1] [(.int (-1 : Int32))])) (s₁.setFrames fs) := by
              exact retI X0 hx Bd.returns (hb hby own_d1_193) hr
            refine own_fin hend ⟨_, hrun, hended, _, _, rfl, ?_, ⟨_, rfl⟩, hW, hsame.mono (by decide) (by decide)⟩
            show own_Q1_C Z r0 p1 p2 g h0 n0 _ s₁.heap _
            rw [e0]
            subst hv7 hj122_l5 hj122_l6 hv152 hv152_1
            exact ⟨(congrArg (fun z => some (Value.int z)) (Eq.trans (Eq.trans (Eq.trans (Eq.trans (if_pos c170_1).symm (if_pos c137_1).symm) (if_neg c189).symm) (if_neg c170).symm) (if_pos c137).symm)), N0, rfl⟩
          · refine own_st (B := s₁.setTop (mkF m 189 #[rv r0, iv p1, iv p2, iv v7, iv (3 : Int32), iv j122_l5, iv j122_l6, iv (2 : Int32), iv v152_1] [(.int (191 : Int32)), (.int v152_1)])) (fun target kt => ?_) ?_
            · show Steps p.tables e below (s₁.setTop (mkF m 170 #[rv r0, iv p1, iv p2, iv v7, iv (3 : Int32), iv j122_l5, iv j122_l6, iv (2 : Int32), iv v152_1] [(.int (128 : Int32)), (.int v152_1)])) target
              refine XS.icmpNo X0.here hx rfl (hb hby own_d1_170) rfl (flt c170_1).1 ?_
              refine XS.iload X0.here hx rfl (hb hby own_d1_173) rfl ?_
              refine XS.iload X0.here hx rfl (hb hby own_d1_175) rfl ?_
              refine XS.iconst X0.here hx rfl (hb hby own_d1_177) ?_
              refine XS.icmpYes X0.here hx rfl (pc0 := 178) (pc' := 186) rfl (hb hby own_d1_178) rfl (feq (by decide : ¬ ((2 : Int32) = (1 : Int32)))).2 (by decide) (by decide) ?_
              refine XS.sipush X0.here hx rfl (hb hby own_d1_186) ?_
              exact kt
            by_cases c189_1 : (191 : Int32) < v152_1
            · refine own_st (B := s₁.setTop (mkF m 193 #[rv r0, iv p1, iv p2, iv v7, iv (3 : Int32), iv j122_l5, iv j122_l6, iv (2 : Int32), iv v152_1] [(.int (-1 : Int32))])) (fun target kt => ?_) ?_
              · show Steps p.tables e below (s₁.setTop (mkF m 189 #[rv r0, iv p1, iv p2, iv v7, iv (3 : Int32), iv j122_l5, iv j122_l6, iv (2 : Int32), iv v152_1] [(.int (191 : Int32)), (.int v152_1)])) target
                refine XS.icmpNo X0.here hx rfl (hb hby own_d1_189) rfl (tlt c189_1).2.2.2 ?_
                refine XS.iconst X0.here hx rfl (hb hby own_d1_192) ?_
                exact kt
              obtain ⟨fs, hr, hrun, hended, hW, hsame⟩ := X0.leave (v := some (.int (-1 : Int32))) (fun h => by rw [Bd.returns] at h; cases h)
              have hend : Steps p.tables e below (s₁.setTop (mkF m 193 #[rv r0, iv p1, iv p2, iv v7, iv (3 : Int32), iv j122_l5, iv j122_l6, iv (2 : Int32), iv v152_1] [(.int (-1 : Int32))])) (s₁.setFrames fs) := by
                exact retI X0 hx Bd.returns (hb hby own_d1_193) hr
              refine own_fin hend ⟨_, hrun, hended, _, _, rfl, ?_, ⟨_, rfl⟩, hW, hsame.mono (by decide) (by decide)⟩
              show own_Q1_C Z r0 p1 p2 g h0 n0 _ s₁.heap _
              rw [e0]
              subst hv7 hj122_l5 hj122_l6 hv152 hv152_1
              exact ⟨(congrArg (fun z => some (Value.int z)) (Eq.trans (Eq.trans (Eq.trans (Eq.trans (Eq.trans (if_pos c189_1).symm (if_neg c170_1).symm) (if_pos c137_1).symm) (if_neg c189).symm) (if_neg c170).symm) (if_pos c137).symm)), N0, rfl⟩
            · refine own_st (B := s₁.setTop (mkF m 204 #[rv r0, iv p1, iv p2, iv v7, iv (3 : Int32), iv j122_l5, iv j122_l6, iv (3 : Int32), iv v152_1] [(.int (239 : Int32)), (.int v7)])) (fun target kt => ?_) ?_
              · show Steps p.tables e below (s₁.setTop (mkF m 189 #[rv r0, iv p1, iv p2, iv v7, iv (3 : Int32), iv j122_l5, iv j122_l6, iv (2 : Int32), iv v152_1] [(.int (191 : Int32)), (.int v152_1)])) target
                refine XS.icmpYes X0.here hx rfl (pc0 := 189) (pc' := 194) rfl (hb hby own_d1_189) rfl (flt c189_1).2.2.2 (by decide) (by decide) ?_
                refine XS.iinc X0.here hx rfl (hb hby own_d1_194) rfl (l' := #[rv r0, iv p1, iv p2, iv v7, iv (3 : Int32), iv j122_l5, iv j122_l6, iv (3 : Int32), iv v152_1]) rfl ?_
                refine XS.goto X0.here hx rfl (pc0 := 197) (pc' := 125) rfl (hb hby own_d1_197) (by decide) (by decide) ?_
                refine XS.iload X0.here hx rfl (hb hby own_d1_125) rfl ?_
                refine XS.iload X0.here hx rfl (hb hby own_d1_127) rfl ?_
                refine XS.icmpYes X0.here hx rfl (pc0 := 129) (pc' := 200) rfl (hb hby own_d1_129) rfl (flt (by decide : ¬ ((3 : Int32) < (3 : Int32)))).2.1 (by decide) (by decide) ?_
                refine XS.iloadN X0.here hx rfl (hb hby own_d1_200) rfl ?_
                refine XS.sipush X0.here hx rfl (hb hby own_d1_201) ?_
                exact kt
              by_cases c204 : v7 = (239 : Int32)
              · refine own_st (B := s₁.setTop (mkF m 211 #[rv r0, iv p1, iv p2, iv v7, iv (3 : Int32), iv j122_l5, iv j122_l6, iv (3 : Int32), iv v152_1] [(.int (p1 + (1 : Int32))), (.ref r0)])) (fun target kt => ?_) ?_
                · show Steps p.tables e below (s₁.setTop (mkF m 204 #[rv r0, iv p1, iv p2, iv v7, iv (3 : Int32), iv j122_l5, iv j122_l6, iv (3 : Int32), iv v152_1] [(.int (239 : Int32)), (.int v7)])) target
                  refine XS.icmpNo X0.here hx rfl (hb hby own_d1_204) rfl (teq c204).2 ?_
                  refine XS.aloadN X0.here hx rfl (hb hby own_d1_207) rfl rfl ?_
                  refine XS.iloadN X0.here hx rfl (hb hby own_d1_208) rfl ?_
                  refine XS.iconst X0.here hx rfl (hb hby own_d1_209) ?_
                  refine XS.iadd X0.here hx rfl (hb hby own_d1_210) rfl ?_
                  exact kt
                obtain ⟨clg211, Arg211, Szg211, Atg211⟩ := id R_r0
                have hing211 : ¬ ((p1 + (1 : Int32)) < 0 ∨ clg211.slots.size ≤ ((p1 + (1 : Int32))).toNatClampNeg) := own_inb Szg211 hin.2.1
                have hatg211 : clg211.slots[((p1 + (1 : Int32))).toNatClampNeg]? = some (.int (g ((p1 + (1 : Int32))).toNatClampNeg)) := own_RayB_nth Atg211 Szg211 hing211
                refine own_st (B := s₁.setTop (mkF m 212 #[rv r0, iv p1, iv p2, iv v7, iv (3 : Int32), iv j122_l5, iv j122_l6, iv (3 : Int32), iv v152_1] [(.int (g ((p1 + (1 : Int32))).toNatClampNeg))])) (fun target kt => ?_) ?_
                · refine X0.baloadBytes hx (j := (p1 + (1 : Int32))) (v := (.int (g ((p1 + (1 : Int32))).toNatClampNeg))) (by first | exact Arg211.1 | (rw [e0]; exact Arg211.1)) (State.isArrayOf_alike hZ.alike Arg211.2.1) Arg211.2.2 hing211 hatg211 (g := (mkF m 211 #[rv r0, iv p1, iv p2, iv v7, iv (3 : Int32), iv j122_l5, iv j122_l6, iv (3 : Int32), iv v152_1] [(.int (p1 + (1 : Int32))), (.ref r0)])) rfl rfl (hb hby own_d1_211) _ ?_
                  exact kt
                refine own_st (B := s₁.setTop (mkF m 214 #[rv r0, iv p1, iv p2, iv v7, iv (3 : Int32), iv j122_l5, iv j122_l6, iv (3 : Int32), iv v152_1] [(.int (-65 : Int32)), (.int (g ((p1 + (1 : Int32))).toNatClampNeg))])) (fun target kt => ?_) ?_
                · show Steps p.tables e below (s₁.setTop (mkF m 212 #[rv r0, iv p1, iv p2, iv v7, iv (3 : Int32), iv j122_l5, iv j122_l6, iv (3 : Int32), iv v152_1] [(.int (g ((p1 + (1 : Int32))).toNatClampNeg))])) target
                  refine XS.bipush X0.here hx rfl (hb hby own_d1_212) ?_
                  exact kt
                by_cases c214 : (g ((p1 + (1 : Int32))).toNatClampNeg) = (-65 : Int32)
                · refine own_st (B := s₁.setTop (mkF m 221 #[rv r0, iv p1, iv p2, iv v7, iv (3 : Int32), iv j122_l5, iv j122_l6, iv (3 : Int32), iv v152_1] [(.int (p1 + (2 : Int32))), (.ref r0)])) (fun target kt => ?_) ?_
                  · show Steps p.tables e below (s₁.setTop (mkF m 214 #[rv r0, iv p1, iv p2, iv v7, iv (3 : Int32), iv j122_l5, iv j122_l6, iv (3 : Int32), iv v152_1] [(.int (-65 : Int32)), (.int (g ((p1 + (1 : Int32))).toNatClampNeg))])) target
                    refine XS.icmpNo X0.here hx rfl (hb hby own_d1_214) rfl (teq c214).2 ?_
                    refine XS.aloadN X0.here hx rfl (hb hby own_d1_217) rfl rfl ?_
                    refine XS.iloadN X0.here hx rfl (hb hby own_d1_218) rfl ?_
                    refine XS.iconst X0.here hx rfl (hb hby own_d1_219) ?_
                    refine XS.iadd X0.here hx rfl (hb hby own_d1_220) rfl ?_
                    exact kt
                  obtain ⟨clg221, Arg221, Szg221, Atg221⟩ := id R_r0
                  have hing221 : ¬ ((p1 + (2 : Int32)) < 0 ∨ clg221.slots.size ≤ ((p1 + (2 : Int32))).toNatClampNeg) := own_inb Szg221 hin.2.2.1
                  have hatg221 : clg221.slots[((p1 + (2 : Int32))).toNatClampNeg]? = some (.int (g ((p1 + (2 : Int32))).toNatClampNeg)) := own_RayB_nth Atg221 Szg221 hing221
                  refine own_st (B := s₁.setTop (mkF m 222 #[rv r0, iv p1, iv p2, iv v7, iv (3 : Int32), iv j122_l5, iv j122_l6, iv (3 : Int32), iv v152_1] [(.int (g ((p1 + (2 : Int32))).toNatClampNeg))])) (fun target kt => ?_) ?_
                  · refine X0.baloadBytes hx (j := (p1 + (2 : Int32))) (v := (.int (g ((p1 + (2 : Int32))).toNatClampNeg))) (by first | exact Arg221.1 | (rw [e0]; exact Arg221.1)) (State.isArrayOf_alike hZ.alike Arg221.2.1) Arg221.2.2 hing221 hatg221 (g := (mkF m 221 #[rv r0, iv p1, iv p2, iv v7, iv (3 : Int32), iv j122_l5, iv j122_l6, iv (3 : Int32), iv v152_1] [(.int (p1 + (2 : Int32))), (.ref r0)])) rfl rfl (hb hby own_d1_221) _ ?_
                    exact kt
                  refine own_st (B := s₁.setTop (mkF m 229 #[rv r0, iv p1, iv p2, iv v7, iv (3 : Int32), iv j122_l5, iv j122_l6, iv (3 : Int32), iv v152_1] [(.int (190 : Int32)), (.int ((g ((p1 + (2 : Int32))).toNatClampNeg) &&& (254 : Int32)))])) (fun target kt => ?_) ?_
                  · show Steps p.tables e below (s₁.setTop (mkF m 222 #[rv r0, iv p1, iv p2, iv v7, iv (3 : Int32), iv j122_l5, iv j122_l6, iv (3 : Int32), iv v152_1] [(.int (g ((p1 + (2 : Int32))).toNatClampNeg))])) target
                    refine XS.sipush X0.here hx rfl (hb hby own_d1_222) ?_
                    refine XS.iand X0.here hx rfl (hb hby own_d1_225) rfl ?_
                    refine XS.sipush X0.here hx rfl (hb hby own_d1_226) ?_
                    exact kt
                  by_cases c229 : ((g ((p1 + (2 : Int32))).toNatClampNeg) &&& (254 : Int32)) = (190 : Int32)
                  · refine own_st (B := s₁.setTop (mkF m 234 #[rv r0, iv p1, iv p2, iv v7, iv (3 : Int32), iv j122_l5, iv j122_l6, iv (3 : Int32), iv v152_1] [(.int (-2 : Int32))])) (fun target kt => ?_) ?_
                    · show Steps p.tables e below (s₁.setTop (mkF m 229 #[rv r0, iv p1, iv p2, iv v7, iv (3 : Int32), iv j122_l5, iv j122_l6, iv (3 : Int32), iv v152_1] [(.int (190 : Int32)), (.int ((g ((p1 + (2 : Int32))).toNatClampNeg) &&& (254 : Int32)))])) target
                      refine XS.icmpNo X0.here hx rfl (hb hby own_d1_229) rfl (teq c229).2 ?_
                      refine XS.bipush X0.here hx rfl (hb hby own_d1_232) ?_
                      exact kt
                    obtain ⟨fs, hr, hrun, hended, hW, hsame⟩ := X0.leave (v := some (.int (-2 : Int32))) (fun h => by rw [Bd.returns] at h; cases h)
                    have hend : Steps p.tables e below (s₁.setTop (mkF m 234 #[rv r0, iv p1, iv p2, iv v7, iv (3 : Int32), iv j122_l5, iv j122_l6, iv (3 : Int32), iv v152_1] [(.int (-2 : Int32))])) (s₁.setFrames fs) := by
                      exact retI X0 hx Bd.returns (hb hby own_d1_234) hr
                    refine own_fin hend ⟨_, hrun, hended, _, _, rfl, ?_, ⟨_, rfl⟩, hW, hsame.mono (by decide) (by decide)⟩
                    show own_Q1_C Z r0 p1 p2 g h0 n0 _ s₁.heap _
                    rw [e0]
                    subst hv7 hj122_l5 hj122_l6 hv152 hv152_1
                    exact ⟨(congrArg (fun z => some (Value.int z)) (Eq.trans (Eq.trans (Eq.trans (Eq.trans (Eq.trans (Eq.trans (Eq.trans (Eq.trans (if_pos c229).symm (if_pos c214).symm) (if_pos c204).symm) (if_neg c189_1).symm) (if_neg c170_1).symm) (if_pos c137_1).symm) (if_neg c189).symm) (if_neg c170).symm) (if_pos c137).symm)), N0, rfl⟩
                  · refine own_st (B := s₁.setTop (mkF m 237 #[rv r0, iv p1, iv p2, iv v7, iv (3 : Int32), iv j122_l5, iv j122_l6, iv (3 : Int32), iv v152_1] [(.int (3 : Int32))])) (fun target kt => ?_) ?_
                    · show Steps p.tables e below (s₁.setTop (mkF m 229 #[rv r0, iv p1, iv p2, iv v7, iv (3 : Int32), iv j122_l5, iv j122_l6, iv (3 : Int32), iv v152_1] [(.int (190 : Int32)), (.int ((g ((p1 + (2 : Int32))).toNatClampNeg) &&& (254 : Int32)))])) target
                      refine XS.icmpYes X0.here hx rfl (pc0 := 229) (pc' := 235) rfl (hb hby own_d1_229) rfl (feq c229).2 (by decide) (by decide) ?_
                      refine XS.iload X0.here hx rfl (hb hby own_d1_235) rfl ?_
                      exact kt
                    obtain ⟨fs, hr, hrun, hended, hW, hsame⟩ := X0.leave (v := some (.int (3 : Int32))) (fun h => by rw [Bd.returns] at h; cases h)
                    have hend : Steps p.tables e below (s₁.setTop (mkF m 237 #[rv r0, iv p1, iv p2, iv v7, iv (3 : Int32), iv j122_l5, iv j122_l6, iv (3 : Int32), iv v152_1] [(.int (3 : Int32))])) (s₁.setFrames fs) := by
                      exact retI X0 hx Bd.returns (hb hby own_d1_237) hr
                    refine own_fin hend ⟨_, hrun, hended, _, _, rfl, ?_, ⟨_, rfl⟩, hW, hsame.mono (by decide) (by decide)⟩
                    show own_Q1_C Z r0 p1 p2 g h0 n0 _ s₁.heap _
                    rw [e0]
                    subst hv7 hj122_l5 hj122_l6 hv152 hv152_1
                    exact ⟨(congrArg (fun z => some (Value.int z)) (Eq.trans (Eq.trans (Eq.trans (Eq.trans (Eq.trans (Eq.trans (Eq.trans (Eq.trans (if_neg c229).symm (if_pos c214).symm) (if_pos c204).symm) (if_neg c189_1).symm) (if_neg c170_1).symm) (if_pos c137_1).symm) (if_neg c189).symm) (if_neg c170).symm) (if_pos c137).symm)), N0, rfl⟩
                · refine own_st (B := s₁.setTop (mkF m 237 #[rv r0, iv p1, iv p2, iv v7, iv (3 : Int32), iv j122_l5, iv j122_l6, iv (3 : Int32), iv v152_1] [(.int (3 : Int32))])) (fun target kt => ?_) ?_
                  · show Steps p.tables e below (s₁.setTop (mkF m 214 #[rv r0, iv p1, iv p2, iv v7, iv (3 : Int32), iv j122_l5, iv j122_l6, iv (3 : Int32), iv v152_1] [(.int (-65 : Int32)), (.int (g ((p1 + (1 : Int32))).toNatClampNeg))])) target
                    refine XS.icmpYes X0.here hx rfl (pc0 := 214) (pc' := 235) rfl (hb hby own_d1_214) rfl (feq c214).2 (by decide) (by decide) ?_
                    refine XS.iload X0.here hx rfl (hb hby own_d1_235) rfl ?_
                    exact kt
                  obtain ⟨fs, hr, hrun, hended, hW, hsame⟩ := X0.leave (v := some (.int (3 : Int32))) (fun h => by rw [Bd.returns] at h; cases h)
                  have hend : Steps p.tables e below (s₁.setTop (mkF m 237 #[rv r0, iv p1, iv p2, iv v7, iv (3 : Int32), iv j122_l5, iv j122_l6, iv (3 : Int32), iv v152_1] [(.int (3 : Int32))])) (s₁.setFrames fs) := by
                    exact retI X0 hx Bd.returns (hb hby own_d1_237) hr
                  refine own_fin hend ⟨_, hrun, hended, _, _, rfl, ?_, ⟨_, rfl⟩, hW, hsame.mono (by decide) (by decide)⟩
                  show own_Q1_C Z r0 p1 p2 g h0 n0 _ s₁.heap _
                  rw [e0]
                  subst hv7 hj122_l5 hj122_l6 hv152 hv152_1
                  exact ⟨(congrArg (fun z => some (Value.int z)) (Eq.trans (Eq.trans (Eq.trans (Eq.trans (Eq.trans (Eq.trans (Eq.trans (if_neg c214).symm (if_pos c204).symm) (if_neg c189_1).symm) (if_neg c170_1).symm) (if_pos c137_1).symm) (if_neg c189).symm) (if_neg c170).symm) (if_pos c137).symm)), N0, rfl⟩
              · refine own_st (B := s₁.setTop (mkF m 237 #[rv r0, iv p1, iv p2, iv v7, iv (3 : Int32), iv j122_l5, iv j122_l6, iv (3 : Int32), iv v152_1] [(.int (3 : Int32))])) (fun target kt => ?_) ?_
                · show Steps p.tables e below (s₁.setTop (mkF m 204 #[rv r0, iv p1, iv p2, iv v7, iv (3 : Int32), iv j122_l5, iv j122_l6, iv (3 : Int32), iv v152_1] [(.int (239 : Int32)), (.int v7)])) target
                  refine XS.icmpYes X0.here hx rfl (pc0 := 204) (pc' := 235) rfl (hb hby own_d1_204) rfl (feq c204).2 (by decide) (by decide) ?_
                  refine XS.iload X0.here hx rfl (hb hby own_d1_235) rfl ?_
                  exact kt
                obtain ⟨fs, hr, hrun, hended, hW, hsame⟩ := X0.leave (v := some (.int (3 : Int32))) (fun h => by rw [Bd.returns] at h; cases h)
                have hend : Steps p.tables e below (s₁.setTop (mkF m 237 #[rv r0, iv p1, iv p2, iv v7, iv (3 : Int32), iv j122_l5, iv j122_l6, iv (3 : Int32), iv v152_1] [(.int (3 : Int32))])) (s₁.setFrames fs) := by
                  exact retI X0 hx Bd.returns (hb hby own_d1_237) hr
                refine own_fin hend ⟨_, hrun, hended, _, _, rfl, ?_, ⟨_, rfl⟩, hW, hsame.mono (by decide) (by decide)⟩
                show own_Q1_C Z r0 p1 p2 g h0 n0 _ s₁.heap _
                rw [e0]
                subst hv7 hj122_l5 hj122_l6 hv152 hv152_1
                exact ⟨(congrArg (fun z => some (Value.int z)) (Eq.trans (Eq.trans (Eq.trans (Eq.trans (Eq.trans (Eq.trans (if_neg c204).symm (if_neg c189_1).symm) (if_neg c170_1).symm) (if_pos c137_1).symm) (if_neg c189).symm) (if_neg c170).symm) (if_pos c137).symm)), N0, rfl⟩
        · refine own_st (B := s₁.setTop (mkF m 141 #[rv r0, iv p1, iv p2, iv v7, iv (3 : Int32), iv j122_l5, iv j122_l6, iv (2 : Int32), iv v152] [(.int (0 : Int32))])) (fun target kt => ?_) ?_
          · show Steps p.tables e below (s₁.setTop (mkF m 137 #[rv r0, iv p1, iv p2, iv v7, iv (3 : Int32), iv j122_l5, iv j122_l6, iv (2 : Int32), iv v152] [(.int p2), (.int (p1 + (2 : Int32)))])) target
            refine XS.icmpNo X0.here hx rfl (hb hby own_d1_137) rfl (flt c137_1).1 ?_
            refine XS.iconst X0.here hx rfl (hb hby own_d1_140) ?_
            exact kt
          obtain ⟨fs, hr, hrun, hended, hW, hsame⟩ := X0.leave (v := some (.int (0 : Int32))) (fun h => by rw [Bd.returns] at h; cases h)
          have hend : Steps p.tables e below (s₁.setTop (mkF m 141 #[rv r0, iv p1, iv p2, iv v7, iv (3 : Int32), iv j122_l5, iv j122_l6, iv (2 : Int32), iv v152] [(.int (0 : Int32))])) (s₁.setFrames fs) := by
            exact retI X0 hx Bd.returns (hb hby own_d1_141) hr
          refine own_fin hend ⟨_, hrun, hended, _, _, rfl, ?_, ⟨_, rfl⟩, hW, hsame.mono (by decide) (by decide)⟩
          show own_Q1_C Z r0 p1 p2 g h0 n0 _ s₁.heap _
          rw [e0]
          subst hv7 hj122_l5 hj122_l6 hv152
          exact ⟨(congrArg (fun z => some (Value.int z)) (Eq.trans (Eq.trans (Eq.trans (if_neg c137_1).symm (if_neg c189).symm) (if_neg c170).symm) (if_pos c137).symm)), N0, rfl⟩
  · refine own_st (B := s₁.setTop (mkF m 141 #[rv r0, iv p1, iv p2, iv v7, iv (3 : Int32), iv j122_l5, iv j122_l6, iv (1 : Int32), .unset] [(.int (0 : Int32))])) (fun target kt => ?_) ?_
    · show Steps p.tables e below (s₁.setTop (mkF m 137 #[rv r0, iv p1, iv p2, iv v7, iv (3 : Int32), iv j122_l5, iv j122_l6, iv (1 : Int32), .unset] [(.int p2), (.int (p1 + (1 : Int32)))])) target
      refine XS.icmpNo X0.here hx rfl (hb hby own_d1_137) rfl (flt c137).1 ?_
      refine XS.iconst X0.here hx rfl (hb hby own_d1_140) ?_
      exact kt
    obtain ⟨fs, hr, hrun, hended, hW, hsame⟩ := X0.leave (v := some (.int (0 : Int32))) (fun h => by rw [Bd.returns] at h; cases h)
    have hend : Steps p.tables e below (s₁.setTop (mkF m 141 #[rv r0, iv p1, iv p2, iv v7, iv (3 : Int32), iv j122_l5, iv j122_l6, iv (1 : Int32), .unset] [(.int (0 : Int32))])) (s₁.setFrames fs) := by
      exact retI X0 hx Bd.returns (hb hby own_d1_141) hr
    refine own_fin hend ⟨_, hrun, hended, _, _, rfl, ?_, ⟨_, rfl⟩, hW, hsame.mono (by decide) (by decide)⟩
    show own_Q1_C Z r0 p1 p2 g h0 n0 _ s₁.heap _
    rw [e0]
    subst hv7 hj122_l5 hj122_l6
    exact ⟨(congrArg (fun z => some (Value.int z)) (if_neg c137).symm), N0, rfl⟩
theorem own_d1_80 : decode prog_171_method_20_code 80 = .ok (.iload_n 3, 1) := by decide +kernel
theorem own_d1_81 : decode prog_171_method_20_code 81 = .ok (.sipush 245, 3) := by decide +kernel
theorem own_d1_84 : decode prog_171_method_20_code 84 = .ok (.if_icmp .ge 36, 3) := by decide +kernel
theorem own_d1_87 : decode prog_171_method_20_code 87 = .ok (.iconst 4, 1) := by decide +kernel
theorem own_d1_88 : decode prog_171_method_20_code 88 = .ok (.istore 4, 2) := by decide +kernel
theorem own_d1_90 : decode prog_171_method_20_code 90 = .ok (.iload_n 3, 1) := by decide +kernel
theorem own_d1_91 : decode prog_171_method_20_code 91 = .ok (.sipush 240, 3) := by decide +kernel
theorem own_d1_94 : decode prog_171_method_20_code 94 = .ok (.if_icmp .ne 11, 3) := by decide +kernel
theorem own_d1_97 : decode prog_171_method_20_code 97 = .ok (.sipush 144, 3) := by decide +kernel
theorem own_d1_100 : decode prog_171_method_20_code 100 = .ok (.istore 5, 2) := by decide +kernel
theorem own_d1_102 : decode prog_171_method_20_code 102 = .ok (.goto 20, 3) := by decide +kernel
theorem own_d1_105 : decode prog_171_method_20_code 105 = .ok (.iload_n 3, 1) := by decide +kernel
theorem own_d1_106 : decode prog_171_method_20_code 106 = .ok (.sipush 244, 3) := by decide +kernel
theorem own_d1_109 : decode prog_171_method_20_code 109 = .ok (.if_icmp .ne 13, 3) := by decide +kernel
theorem own_d1_112 : decode prog_171_method_20_code 112 = .ok (.sipush 143, 3) := by decide +kernel
theorem own_d1_115 : decode prog_171_method_20_code 115 = .ok (.istore 6, 2) := by decide +kernel
theorem own_d1_117 : decode prog_171_method_20_code 117 = .ok (.goto 5, 3) := by decide +kernel
theorem own_d1_120 : decode prog_171_method_20_code 120 = .ok (.iconst (-1), 1) := by decide +kernel
theorem own_d1_121 : decode prog_171_method_20_code 121 = .ok (.ireturn, 1) := by decide +kernel
theorem own_ef1_D (m : MethodId) (r0 : Addr) (p1 : Int32) (p2 : Int32) : entryFrame m #[(.ref r0), (.int p1), (.int p2)] 9 = mkF m 0 #[rv r0, iv p1, iv p2, .unset, .unset, .unset, .unset, .unset, .unset] [] := by first | (simp [entryFrame, mkF, argsToLocals, Value.category]; done) | rfl
def own_Q1_D (Z : State) (r0 : Addr) (p1 : Int32) (p2 : Int32) (g : Nat → Int32) (h0 : Heap) (n0 : Nat) (v : Option Value) (h : Heap) (L : List Loc) : Prop := (v = some (.int (if (((g (p1).toNatClampNeg) &&& (255 : Int32))) < (245 : Int32) then (if (p1 + (1 : Int32)) < p2 then (if (((g ((p1 + (1 : Int32))).toNatClampNeg) &&& (255 : Int32))) < ((if (((g (p1).toNatClampNeg) &&& (255 : Int32))) = (240 : Int32) then (144 : Int32) else (128 : Int32))) then (-1 : Int32) else (if ((if (((g (p1).toNatClampNeg) &&& (255 : Int32))) = (240 : Int32) then (191 : Int32) else (if (((g (p1).toNatClampNeg) &&& (255 : Int32))) = (244 : Int32) then (143 : Int32) else (191 : Int32)))) < (((g ((p1 + (1 : Int32))).toNatClampNeg) &&& (255 : Int32))) then (-1 : Int32) else (if (p1 + (2 : Int32)) < p2 then (if (((g ((p1 + (2 : Int32))).toNatClampNeg) &&& (255 : Int32))) < (128 : Int32) then (-1 : Int32) else (if (191 : Int32) < (((g ((p1 + (2 : Int32))).toNatClampNeg) &&& (255 : Int32))) then (-1 : Int32) else (if (p1 + (3 : Int32)) < p2 then (if (((g ((p1 + (3 : Int32))).toNatClampNeg) &&& (255 : Int32))) < (128 : Int32) then (-1 : Int32) else (if (191 : Int32) < (((g ((p1 + (3 : Int32))).toNatClampNeg) &&& (255 : Int32))) then (-1 : Int32) else (if (((g (p1).toNatClampNeg) &&& (255 : Int32))) = (239 : Int32) then (if (g ((p1 + (1 : Int32))).toNatClampNeg) = (-65 : Int32) then (if ((g ((p1 + (2 : Int32))).toNatClampNeg) &&& (254 : Int32)) = (190 : Int32) then (-2 : Int32) else (4 : Int32)) else (4 : Int32)) else (4 : Int32)))) else (0 : Int32)))) else (0 : Int32)))) else (0 : Int32)) else (-1 : Int32)))) ∧ (Fr n0 L) ∧ (h = h0)
set_option maxRecDepth 65536 in
set_option maxHeartbeats 40000000 in
theorem own_rm1_D (l : Launch) (Z : State) (a0 : Array Value) (hw : ∀ d ∈ tables_1, d.before a0 Z = true) (ws : List Jvm.Cond) (r0 : Addr) (p1 : Int32) (p2 : Int32) (g : Nat → Int32) (h0 : Heap) (n0 : Nat) (Z0 : n0 ≤ h0.size) (R_r0 : own_RayB Z h0 r0 8 g) (hat : p1 = (0 : Int32) ∨ p1 = (1 : Int32) ∨ p1 = (2 : Int32) ∨ p1 = (3 : Int32)) (h1 : ¬ ((g (p1).toNatClampNeg) &&& (255 : Int32)) < (194 : Int32)) (h2 : ¬ ((g (p1).toNatClampNeg) &&& (255 : Int32)) < (224 : Int32)) (h3 : ¬ ((g (p1).toNatClampNeg) &&& (255 : Int32)) < (240 : Int32)) :
    MetFree l (⟨"com/example/psyche/psyche/XmlChars", "sequenceLength", "([BII)I"⟩ : MethodName) (head1 (Jvm.Cond.code (⟨"com/example/psyche/psyche/XmlChars", "sequenceLength", "([BII)I"⟩ : MethodName) prog_171_method_20_code 9 (some .int) :: ws) ({ frames := 0, cells := 0, slots := 0, locals := 0 } : Room)) (fun a U => a = #[(.ref r0), (.int p1), (.int p2)] ∧ Z.Warmed39 U.vm ∧ U.heap = h0) (fun _ _ _ _ _ => True) (fun _ U o U' => ∃ v L, o = .returned v ∧ own_Q1_D Z r0 p1 p2 g h0 n0 v U'.heap L ∧ FrameEnd U o U' L ({ frames := 0, cells := 0, slots := 0, locals := 0 } : Room).cells ({ frames := 0, cells := 0, slots := 0, locals := 0 } : Room).slots) := by
  refine MetFree.of_bodySF (plainFor_of_name own_pn1) hisR ?_
  intro p e s m args below meth c s₁ Bd hml0 hP hK
  obtain ⟨rfl, hZ, hh⟩ := hP
  have hx := Bd.exec
  have hby := Bd.bytes
  have hml : c.maxLocals = 9 := hml0
  have hown : s.vm.findClass "com/example/psyche/psyche/XmlChars" = some m.cls := findClass_of_methodNamed Bd.named
  have hnm := (name_of_methodNamed Bd.named Bd.method).1
  have X0 : Stand p l e ({ frames := 0, cells := 0, slots := 0, locals := 0 } : Room) s m #[(.ref r0), (.int p1), (.int p2)] below meth c s₁ [] 0 0 := Stand.of_body Bd
  have e0 : s₁.heap = h0 := by rw [← hh, Bd.state]; rfl
  have N0 := Fr.nil n0
  have pre0 : ∀ t, Steps p.tables e below (s₁.setTop (mkF m 0 #[rv r0, iv p1, iv p2, .unset, .unset, .unset, .unset, .unset, .unset] [])) t → Steps p.tables e below (s₁.setTop (entryFrame m #[(.ref r0), (.int p1), (.int p2)] 9)) t := fun t k => castTop (own_ef1_D m r0 p1 p2) k
  refine own_run (own_st pre0 ?_)
  have hin := own_in p1 hat
  refine own_st (B := s₁.setTop (mkF m 2 #[rv r0, iv p1, iv p2, .unset, .unset, .unset, .unset, .unset, .unset] [(.int p1), (.ref r0)])) (fun target kt => ?_) ?_
  · show Steps p.tables e below (s₁.setTop (mkF m 0 #[rv r0, iv p1, iv p2, .unset, .unset, .unset, .unset, .unset, .unset] [])) target
    refine XS.aloadN X0.here hx rfl (hb hby own_d1_0) rfl rfl ?_
    refine XS.iloadN X0.here hx rfl (hb hby own_d1_1) rfl ?_
    exact kt
  obtain ⟨clg2, Arg2, Szg2, Atg2⟩ := id R_r0
  have hing2 : ¬ (p1 < 0 ∨ clg2.slots.size ≤ (p1).toNatClampNeg) := own_inb Szg2 hin.1
  have hatg2 : clg2.slots[(p1).toNatClampNeg]? = some (.int (g (p1).toNatClampNeg)) := own_RayB_nth Atg2 Szg2 hing2
  refine own_st (B := s₁.setTop (mkF m 3 #[rv r0, iv p1, iv p2, .unset, .unset, .unset, .unset, .unset, .unset] [(.int (g (p1).toNatClampNeg))])) (fun target kt => ?_) ?_
  · refine X0.baloadBytes hx (j := p1) (v := (.int (g (p1).toNatClampNeg))) (by first | exact Arg2.1 | (rw [e0]; exact Arg2.1)) (State.isArrayOf_alike hZ.alike Arg2.2.1) Arg2.2.2 hing2 hatg2 (g := (mkF m 2 #[rv r0, iv p1, iv p2, .unset, .unset, .unset, .unset, .unset, .unset] [(.int p1), (.ref r0)])) rfl rfl (hb hby own_d1_2) _ ?_
    exact kt
  obtain ⟨v7, hv7⟩ : ∃ z : Int32, z = ((g (p1).toNatClampNeg) &&& (255 : Int32)) := ⟨_, rfl⟩
  refine own_st (B := s₁.setTop (mkF m 22 #[rv r0, iv p1, iv p2, iv v7, .unset, iv (128 : Int32), iv (191 : Int32), .unset, .unset] [(.int (194 : Int32)), (.int v7)])) (fun target kt => ?_) ?_
  · show Steps p.tables e below (s₁.setTop (mkF m 3 #[rv r0, iv p1, iv p2, .unset, .unset, .unset, .unset, .unset, .unset] [(.int (g (p1).toNatClampNeg))])) target
    refine XS.sipush X0.here hx rfl (hb hby own_d1_3) ?_
    refine XS.iand X0.here hx rfl (hb hby own_d1_6) rfl ?_
    refine XS.istoreN X0.here hx rfl (hb hby own_d1_7) rfl (l' := #[rv r0, iv p1, iv p2, iv v7, .unset, .unset, .unset, .unset, .unset]) (by subst hv7; rfl) ?_
    refine XS.sipush X0.here hx rfl (hb hby own_d1_8) ?_
    refine XS.istore X0.here hx rfl (hb hby own_d1_11) rfl (l' := #[rv r0, iv p1, iv p2, iv v7, .unset, iv (128 : Int32), .unset, .unset, .unset]) rfl ?_
    refine XS.sipush X0.here hx rfl (hb hby own_d1_13) ?_
    refine XS.istore X0.here hx rfl (hb hby own_d1_16) rfl (l' := #[rv r0, iv p1, iv p2, iv v7, .unset, iv (128 : Int32), iv (191 : Int32), .unset, .unset]) rfl ?_
    refine XS.iloadN X0.here hx rfl (hb hby own_d1_18) rfl ?_
    show Steps p.tables e below (s₁.setTop (mkF m 19 #[rv r0, iv p1, iv p2, iv v7, .unset, iv (128 : Int32), iv (191 : Int32), .unset, .unset] [(.int v7)])) target
    refine XS.sipush X0.here hx rfl (hb hby own_d1_19) ?_
    exact kt
  have c22 : ¬ (v7 < (194 : Int32)) := by
    rw [hv7]
    exact h1
  refine own_st (B := s₁.setTop (mkF m 31 #[rv r0, iv p1, iv p2, iv v7, .unset, iv (128 : Int32), iv (191 : Int32), .unset, .unset] [(.int (224 : Int32)), (.int v7)])) (fun target kt => ?_) ?_
  · show Steps p.tables e below (s₁.setTop (mkF m 22 #[rv r0, iv p1, iv p2, iv v7, .unset, iv (128 : Int32), iv (191 : Int32), .unset, .unset] [(.int (194 : Int32)), (.int v7)])) target
    refine XS.icmpYes X0.here hx rfl (pc0 := 22) (pc' := 27) rfl (hb hby own_d1_22) rfl (flt c22).2.1 (by decide) (by decide) ?_
    refine XS.iloadN X0.here hx rfl (hb hby own_d1_27) rfl ?_
    refine XS.sipush X0.here hx rfl (hb hby own_d1_28) ?_
    exact kt
  have c31 : ¬ (v7 < (224 : Int32)) := by
    rw [hv7]
    exact h2
  refine own_st (B := s₁.setTop (mkF m 44 #[rv r0, iv p1, iv p2, iv v7, .unset, iv (128 : Int32), iv (191 : Int32), .unset, .unset] [(.int (240 : Int32)), (.int v7)])) (fun target kt => ?_) ?_
  · show Steps p.tables e below (s₁.setTop (mkF m 31 #[rv r0, iv p1, iv p2, iv v7, .unset, iv (128 : Int32), iv (191 : Int32), .unset, .unset] [(.int (224 : Int32)), (.int v7)])) target
    refine XS.icmpYes X0.here hx rfl (pc0 := 31) (pc' := 40) rfl (hb hby own_d1_31) rfl (flt c31).2.1 (by decide) (by decide) ?_
    refine XS.iloadN X0.here hx rfl (hb hby own_d1_40) rfl ?_
    refine XS.sipush X0.here hx rfl (hb hby own_d1_41) ?_
    exact kt
  have c44 : ¬ (v7 < (240 : Int32)) := by
    rw [hv7]
    exact h3
  refine own_st (B := s₁.setTop (mkF m 84 #[rv r0, iv p1, iv p2, iv v7, .unset, iv (128 : Int32), iv (191 : Int32), .unset, .unset] [(.int (245 : Int32)), (.int v7)])) (fun target kt => ?_) ?_
  · show Steps p.tables e below (s₁.setTop (mkF m 44 #[rv r0, iv p1, iv p2, iv v7, .unset, iv (128 : Int32), iv (191 : Int32), .unset, .unset] [(.int (240 : Int32)), (.int v7)])) target
    refine XS.icmpYes X0.here hx rfl (pc0 := 44) (pc' := 80) rfl (hb hby own_d1_44) rfl (flt c44).2.1 (by decide) (by decide) ?_
    refine XS.iloadN X0.here hx rfl (hb hby own_d1_80) rfl ?_
    refine XS.sipush X0.here hx rfl (hb hby own_d1_81) ?_
    exact kt
  by_cases c84 : v7 < (245 : Int32)
  · refine own_st (B := s₁.setTop (mkF m 94 #[rv r0, iv p1, iv p2, iv v7, iv (4 : Int32), iv (128 : Int32), iv (191 : Int32), .unset, .unset] [(.int (240 : Int32)), (.int v7)])) (fun target kt => ?_) ?_
    · show Steps p.tables e below (s₁.setTop (mkF m 84 #[rv r0, iv p1, iv p2, iv v7, .unset, iv (128 : Int32), iv (191 : Int32), .unset, .unset] [(.int (245 : Int32)), (.int v7)])) target
      refine XS.icmpNo X0.here hx rfl (hb hby own_d1_84) rfl (tlt c84).2.1 ?_
      refine XS.iconst X0.here hx rfl (hb hby own_d1_87) ?_
      refine XS.istore X0.here hx rfl (hb hby own_d1_88) rfl (l' := #[rv r0, iv p1, iv p2, iv v7, iv (4 : Int32), iv (128 : Int32), iv (191 : Int32), .unset, .unset]) rfl ?_
      refine XS.iloadN X0.here hx rfl (hb hby own_d1_90) rfl ?_
      refine XS.sipush X0.here hx rfl (hb hby own_d1_91) ?_
      exact kt
    obtain ⟨_, ⟨j122_l5, j122_l6, rfl, hj122_l5, hj122_l6⟩, st_M122⟩ : own_Lead p.tables e below (s₁.setTop (mkF m 94 #[rv r0, iv p1, iv p2, iv v7, iv (4 : Int32), iv (128 : Int32), iv (191 : Int32), .unset, .unset] [(.int (240 : Int32)), (.int v7)])) (fun B => ∃ (j122_l5 : Int32) (j122_l6 : Int32), B = s₁.setTop (mkF m 122 #[rv r0, iv p1, iv p2, iv v7, iv (4 : Int32), iv j122_l5, iv j122_l6, .unset, .unset] []) ∧ j122_l5 = (if v7 = (240 : Int32) then (144 : Int32) else (128 : Int32)) ∧ j122_l6 = (if v7 = (240 : Int32) then (191 : Int32) else (if v7 = (244 : Int32) then (143 : Int32) else (191 : Int32)))) := by
      by_cases c94 : v7 = (240 : Int32)
      · refine own_st (B := s₁.setTop (mkF m 122 #[rv r0, iv p1, iv p2, iv v7, iv (4 : Int32), iv (144 : Int32), iv (191 : Int32), .unset, .unset] [])) (fun target kt => ?_) ?_
        · show Steps p.tables e below (s₁.setTop (mkF m 94 #[rv r0, iv p1, iv p2, iv v7, iv (4 : Int32), iv (128 : Int32), iv (191 : Int32), .unset, .unset] [(.int (240 : Int32)), (.int v7)])) target
          refine XS.icmpNo X0.here hx rfl (hb hby own_d1_94) rfl (teq c94).2 ?_
          refine XS.sipush X0.here hx rfl (hb hby own_d1_97) ?_
          refine XS.istore X0.here hx rfl (hb hby own_d1_100) rfl (l' := #[rv r0, iv p1, iv p2, iv v7, iv (4 : Int32), iv (144 : Int32), iv (191 : Int32), .unset, .unset]) rfl ?_
          refine XS.goto X0.here hx rfl (pc0 := 102) (pc' := 122) rfl (hb hby own_d1_102) (by decide) (by decide) ?_
          exact kt
        exact ⟨_, ⟨(144 : Int32), (191 : Int32), rfl, (if_pos c94).symm, (if_pos c94).symm⟩, fun _ k => k⟩
      · refine own_st (B := s₁.setTop (mkF m 109 #[rv r0, iv p1, iv p2, iv v7, iv (4 : Int32), iv (128 : Int32), iv (191 : Int32), .unset, .unset] [(.int (244 : Int32)), (.int v7)])) (fun target kt => ?_) ?_
        · show Steps p.tables e below (s₁.setTop (mkF m 94 #[rv r0, iv p1, iv p2, iv v7, iv (4 : Int32), iv (128 : Int32), iv (191 : Int32), .unset, .unset] [(.int (240 : Int32)), (.int v7)])) target
          refine XS.icmpYes X0.here hx rfl (pc0 := 94) (pc' := 105) rfl (hb hby own_d1_94) rfl (feq c94).2 (by decide) (by decide) ?_
          refine XS.iloadN X0.here hx rfl (hb hby own_d1_105) rfl ?_
          refine XS.sipush X0.here hx rfl (hb hby own_d1_106) ?_
          exact kt
        by_cases c109 : v7 = (244 : Int32)
        · refine own_st (B := s₁.setTop (mkF m 122 #[rv r0, iv p1, iv p2, iv v7, iv (4 : Int32), iv (128 : Int32), iv (143 : Int32), .unset, .unset] [])) (fun target kt => ?_) ?_
          · show Steps p.tables e below (s₁.setTop (mkF m 109 #[rv r0, iv p1, iv p2, iv v7, iv (4 : Int32), iv (128 : Int32), iv (191 : Int32), .unset, .unset] [(.int (244 : Int32)), (.int v7)])) target
            refine XS.icmpNo X0.here hx rfl (hb hby own_d1_109) rfl (teq c109).2 ?_
            refine XS.sipush X0.here hx rfl (hb hby own_d1_112) ?_
            refine XS.istore X0.here hx rfl (hb hby own_d1_115) rfl (l' := #[rv r0, iv p1, iv p2, iv v7, iv (4 : Int32), iv (128 : Int32), iv (143 : Int32), .unset, .unset]) rfl ?_
            refine XS.goto X0.here hx rfl (pc0 := 117) (pc' := 122) rfl (hb hby own_d1_117) (by decide) (by decide) ?_
            exact kt
          exact ⟨_, ⟨(128 : Int32), (143 : Int32), rfl, (if_neg c94).symm, (Eq.trans (if_pos c109).symm (if_neg c94).symm)⟩, fun _ k => k⟩
        · refine own_st (B := s₁.setTop (mkF m 122 #[rv r0, iv p1, iv p2, iv v7, iv (4 : Int32), iv (128 : Int32), iv (191 : Int32), .unset, .unset] [])) (fun target kt => ?_) ?_
          · show Steps p.tables e below (s₁.setTop (mkF m 109 #[rv r0, iv p1, iv p2, iv v7, iv (4 : Int32), iv (128 : Int32), iv (191 : Int32), .unset, .unset] [(.int (244 : Int32)), (.int v7)])) target
            refine XS.icmpYes X0.here hx rfl (pc0 := 109) (pc' := 122) rfl (hb hby own_d1_109) rfl (feq c109).2 (by decide) (by decide) ?_
            exact kt
          exact ⟨_, ⟨(128 : Int32), (191 : Int32), rfl, (if_neg c94).symm, (Eq.trans (if_neg c109).symm (if_neg c94).symm)⟩, fun _ k => k⟩
    refine own_st st_M122 ?_
    refine own_st (B := s₁.setTop (mkF m 137 #[rv r0, iv p1, iv p2, iv v7, iv (4 : Int32), iv j122_l5, iv j122_l6, iv (1 : Int32), .unset] [(.int p2), (.int (p1 + (1 : Int32)))])) (fun target kt => ?_) ?_
    · show Steps p.tables e below (s₁.setTop (mkF m 122 #[rv r0, iv p1, iv p2, iv v7, iv (4 : Int32), iv j122_l5, iv j122_l6, .unset, .unset] [])) target
      refine XS.iconst X0.here hx rfl (hb hby own_d1_122) ?_
      refine XS.istore X0.here hx rfl (hb hby own_d1_123) rfl (l' := #[rv r0, iv p1, iv p2, iv v7, iv (4 : Int32), iv j122_l5, iv j122_l6, iv (1 : Int32), .unset]) rfl ?_
      refine XS.iload X0.here hx rfl (hb hby own_d1_125) rfl ?_
      refine XS.iload X0.here hx rfl (hb hby own_d1_127) rfl ?_
      refine XS.icmpNo X0.here hx rfl (hb hby own_d1_129) rfl (tlt (by decide : (1 : Int32) < (4 : Int32))).2.1 ?_
      refine XS.iloadN X0.here hx rfl (hb hby own_d1_132) rfl ?_
      refine XS.iload X0.here hx rfl (hb hby own_d1_133) rfl ?_
      refine XS.iadd X0.here hx rfl (hb hby own_d1_135) rfl ?_
      show Steps p.tables e below (s₁.setTop (mkF m 136 #[rv r0, iv p1, iv p2, iv v7, iv (4 : Int32), iv j122_l5, iv j122_l6, iv (1 : Int32), .unset] [(.int (p1 + (1 : Int32)))])) target
      refine XS.iloadN X0.here hx rfl (hb hby own_d1_136) rfl ?_
      exact kt
    by_cases c137 : (p1 + (1 : Int32)) < p2
    · refine own_st (B := s₁.setTop (mkF m 147 #[rv r0, iv p1, iv p2, iv v7, iv (4 : Int32), iv j122_l5, iv j122_l6, iv (1 : Int32), .unset] [(.int (p1 + (1 : Int32))), (.ref r0)])) (fun target kt => ?_) ?_
      · show Steps p.tables e below (s₁.setTop (mkF m 137 #[rv r0, iv p1, iv p2, iv v7, iv (4 : Int32), iv j122_l5, iv j122_l6, iv (1 : Int32), .unset] [(.int p2), (.int (p1 + (1 : Int32)))])) target
        refine XS.icmpYes X0.here hx rfl (pc0 := 137) (pc' := 142) rfl (hb hby own_d1_137) rfl (tlt c137).1 (by decide) (by decide) ?_
        refine XS.aloadN X0.here hx rfl (hb hby own_d1_142) rfl rfl ?_
        refine XS.iloadN X0.here hx rfl (hb hby own_d1_143) rfl ?_
        refine XS.iload X0.here hx rfl (hb hby own_d1_144) rfl ?_
        refine XS.iadd X0.here hx rfl (hb hby own_d1_146) rfl ?_
        exact kt
      obtain ⟨clg147, Arg147, Szg147, Atg147⟩ := id R_r0
      have hing147 : ¬ ((p1 + (1 : Int32)) < 0 ∨ clg147.slots.size ≤ ((p1 + (1 : Int32))).toNatClampNeg) := own_inb Szg147 hin.2.1
      have hatg147 : clg147.slots[((p1 + (1 : Int32))).toNatClampNeg]? = some (.int (g ((p1 + (1 : Int32))).toNatClampNeg)) := own_RayB_nth Atg147 Szg147 hing147
      refine own_st (B := s₁.setTop (mkF m 148 #[rv r0, iv p1, iv p2, iv v7, iv (4 : Int32), iv j122_l5, iv j122_l6, iv (1 : Int32), .unset] [(.int (g ((p1 + (1 : Int32))).toNatClampNeg))])) (fun target kt => ?_) ?_
      · refine X0.baloadBytes hx (j := (p1 + (1 : Int32))) (v := (.int (g ((p1 + (1 : Int32))).toNatClampNeg))) (by first | exact Arg147.1 | (rw [e0]; exact Arg147.1)) (State.isArrayOf_alike hZ.alike Arg147.2.1) Arg147.2.2 hing147 hatg147 (g := (mkF m 147 #[rv r0, iv p1, iv p2, iv v7, iv (4 : Int32), iv j122_l5, iv j122_l6, iv (1 : Int32), .unset] [(.int (p1 + (1 : Int32))), (.ref r0)])) rfl rfl (hb hby own_d1_147) _ ?_
        exact kt
      obtain ⟨v152, hv152⟩ : ∃ z : Int32, z = ((g ((p1 + (1 : Int32))).toNatClampNeg) &&& (255 : Int32)) := ⟨_, rfl⟩
      refine own_st (B := s₁.setTop (mkF m 170 #[rv r0, iv p1, iv p2, iv v7, iv (4 : Int32), iv j122_l5, iv j122_l6, iv (1 : Int32), iv v152] [(.int j122_l5), (.int v152)])) (fun target kt => ?_) ?_
      · show Steps p.tables e below (s₁.setTop (mkF m 148 #[rv r0, iv p1, iv p2, iv v7, iv (4 : Int32), iv j122_l5, iv j122_l6, iv (1 : Int32), .unset] [(.int (g ((p1 + (1 : Int32))).toNatClampNeg))])) target
        refine XS.sipush X0.here hx rfl (hb hby own_d1_148) ?_
        refine XS.iand X0.here hx rfl (hb hby own_d1_151) rfl ?_
        refine XS.istore X0.here hx rfl (hb hby own_d1_152) rfl (l' := #[rv r0, iv p1, iv p2, iv v7, iv (4 : Int32), iv j122_l5, iv j122_l6, iv (1 : Int32), iv v152]) (by subst hv152; rfl) ?_
        refine XS.iload X0.here hx rfl (hb hby own_d1_154) rfl ?_
        refine XS.iload X0.here hx rfl (hb hby own_d1_156) rfl ?_
        refine XS.iconst X0.here hx rfl (hb hby own_d1_158) ?_
        refine XS.icmpNo X0.here hx rfl (hb hby own_d1_159) rfl (teq (by decide : (1 : Int32) = (1 : Int32))).2 ?_
        refine XS.iload X0.here hx rfl (hb hby own_d1_162) rfl ?_
        show Steps p.tables e below (s₁.setTop (mkF m 164 #[rv r0, iv p1, iv p2, iv v7, iv (4 : Int32), iv j122_l5, iv j122_l6, iv (1 : Int32), iv v152] [(.int j122_l5), (.int v152)])) target
        refine XS.goto X0.here hx rfl (pc0 := 164) (pc' := 170) rfl (hb hby own_d1_164) (by decide) (by decide) ?_
        exact kt
      by_cases c170 : v152 < j122_l5
      · refine own_st (B := s₁.setTop (mkF m 193 #[rv r0, iv p1, iv p2, iv v7, iv (4 : Int32), iv j122_l5, iv j122_l6, iv (1 : Int32), iv v152] [(.int (-1 : Int32))])) (fun target kt => ?_) ?_
        · show Steps p.tables e below (s₁.setTop (mkF m 170 #[rv r0, iv p1, iv p2, iv v7, iv (4 : Int32), iv j122_l5, iv j122_l6, iv (1 : Int32), iv v152] [(.int j122_l5), (.int v152)])) target
          refine XS.icmpYes X0.here hx rfl (pc0 := 170) (pc' := 192) rfl (hb hby own_d1_170) rfl (tlt c170).1 (by decide) (by decide) ?_
          refine XS.iconst X0.here hx rfl (hb hby own_d1_192) ?_
          exact kt
        obtain ⟨fs, hr, hrun, hended, hW, hsame⟩ := X0.leave (v := some (.int (-1 : Int32))) (fun h => by rw [Bd.returns] at h; cases h)
        have hend : Steps p.tables e below (s₁.setTop (mkF m 193 #[rv r0, iv p1, iv p2, iv v7, iv (4 : Int32), iv j122_l5, iv j122_l6, iv (1 : Int32), iv v152] [(.int (-1 : Int32))])) (s₁.setFrames fs) := by
          exact retI X0 hx Bd.returns (hb hby own_d1_193) hr
        refine own_fin hend ⟨_, hrun, hended, _, _, rfl, ?_, ⟨_, rfl⟩, hW, hsame.mono (by decide) (by decide)⟩
        show own_Q1_D Z r0 p1 p2 g h0 n0 _ s₁.heap _
        rw [e0]
        subst hv7 hj122_l5 hj122_l6 hv152
        exact ⟨(congrArg (fun z => some (Value.int z)) (Eq.trans (Eq.trans (if_pos c170).symm (if_pos c137).symm) (if_pos c84).symm)), N0, rfl⟩
      · refine own_st (B := s₁.setTop (mkF m 189 #[rv r0, iv p1, iv p2, iv v7, iv (4 : Int32), iv j122_l5, iv j122_l6, iv (1 : Int32), iv v152] [(.int j122_l6), (.int v152)])) (fun target kt => ?_) ?_
        · show Steps p.tables e below (s₁.setTop (mkF m 170 #[rv r0, iv p1, iv p2, iv v7, iv (4 : Int32), iv j122_l5, iv j122_l6, iv (1 : Int32), iv v152] [(.int j122_l5), (.int v152)])) target
          refine XS.icmpNo X0.here hx rfl (hb hby own_d1_170) rfl (flt c170).1 ?_
          refine XS.iload X0.here hx rfl (hb hby own_d1_173) rfl ?_
          refine XS.iload X0.here hx rfl (hb hby own_d1_175) rfl ?_
          refine XS.iconst X0.here hx rfl (hb hby own_d1_177) ?_
          refine XS.icmpNo X0.here hx rfl (hb hby own_d1_178) rfl (teq (by decide : (1 : Int32) = (1 : Int32))).2 ?_
          refine XS.iload X0.here hx rfl (hb hby own_d1_181) rfl ?_
          refine XS.goto X0.here hx rfl (pc0 := 183) (pc' := 189) rfl (hb hby own_d1_183) (by decide) (by decide) ?_
          exact kt
        by_cases c189 : j122_l6 < v152
        · refine own_st (B := s₁.setTop (mkF m 193 #[rv r0, iv p1, iv p2, iv v7, iv (4 : Int32), iv j122_l5, iv j122_l6, iv (1 : Int32), iv v152] [(.int (-1 : Int32))])) (fun target kt => ?_) ?_
          · show Steps p.tables e below (s₁.setTop (mkF m 189 #[rv r0, iv p1, iv p2, iv v7, iv (4 : Int32), iv j122_l5, iv j122_l6, iv (1 : Int32), iv v152] [(.int j122_l6), (.int v152)])) target
            refine XS.icmpNo X0.here hx rfl (hb hby own_d1_189) rfl (tlt c189).2.2.2 ?_
            refine XS.iconst X0.here hx rfl (hb hby own_d1_192) ?_
            exact kt
          obtain ⟨fs, hr, hrun, hended, hW, hsame⟩ := X0.leave (v := some (.int (-1 : Int32))) (fun h => by rw [Bd.returns] at h; cases h)
          have hend : Steps p.tables e below (s₁.setTop (mkF m 193 #[rv r0, iv p1, iv p2, iv v7, iv (4 : Int32), iv j122_l5, iv j122_l6, iv (1 : Int32), iv v152] [(.int (-1 : Int32))])) (s₁.setFrames fs) := by
            exact retI X0 hx Bd.returns (hb hby own_d1_193) hr
          refine own_fin hend ⟨_, hrun, hended, _, _, rfl, ?_, ⟨_, rfl⟩, hW, hsame.mono (by decide) (by decide)⟩
          show own_Q1_D Z r0 p1 p2 g h0 n0 _ s₁.heap _
          rw [e0]
          subst hv7 hj122_l5 hj122_l6 hv152
          exact ⟨(congrArg (fun z => some (Value.int z)) (Eq.trans (Eq.trans (Eq.trans (if_pos c189).symm (if_neg c170).symm) (if_pos c137).symm) (if_pos c84).symm)), N0, rfl⟩
        · refine own_st (B := s₁.setTop (mkF m 137 #[rv r0, iv p1, iv p2, iv v7, iv (4 : Int32), iv j122_l5, iv j122_l6, iv (2 : Int32), iv v152] [(.int p2), (.int (p1 + (2 : Int32)))])) (fun target kt => ?_) ?_
          · show Steps p.tables e below (s₁.setTop (mkF m 189 #[rv r0, iv p1, iv p2, iv v7, iv (4 : Int32), iv j122_l5, iv j122_l6, iv (1 : Int32), iv v152] [(.int j122_l6), (.int v152)])) target
            refine XS.icmpYes X0.here hx rfl (pc0 := 189) (pc' := 194) rfl (hb hby own_d1_189) rfl (flt c189).2.2.2 (by decide) (by decide) ?_
            refine XS.iinc X0.here hx rfl (hb hby own_d1_194) rfl (l' := #[rv r0, iv p1, iv p2, iv v7, iv (4 : Int32), iv j122_l5, iv j122_l6, iv (2 : Int32), iv v152]) rfl ?_
            refine XS.goto X0.here hx rfl (pc0 := 197) (pc' := 125) rfl (hb hby own_d1_197) (by decide) (by decide) ?_
            refine XS.iload X0.here hx rfl (hb hby own_d1_125) rfl ?_
            refine XS.iload X0.here hx rfl (hb hby own_d1_127) rfl ?_
            refine XS.icmpNo X0.here hx rfl (hb hby own_d1_129) rfl (tlt (by decide : (2 : Int32) < (4 : Int32))).2.1 ?_
            refine XS.iloadN X0.here hx rfl (hb hby own_d1_132) rfl ?_
            refine XS.iload X0.here hx rfl (hb hby own_d1_133) rfl ?_
            show Steps p.tables e below (s₁.setTop (mkF m 135 #[rv r0, iv p1, iv p2, iv v7, iv (4 : Int32), iv j122_l5, iv j122_l6, iv (2 : Int32), iv v152] [(.int (2 : Int32)), (.int p1)])) target
            refine XS.iadd X0.here hx rfl (hb hby own_d1_135) rfl ?_
            refine XS.iloadN X0.here hx rfl (hb hby own_d1_136) rfl ?_
            exact kt
          by_cases c137_1 : (p1 + (2 : Int32)) < p2
          · refine own_st (B := s₁.setTop (mkF m 147 #[rv r0, iv p1, iv p2, iv v7, iv (4 : Int32), iv j122_l5, iv j122_l6, iv (2 : Int32), iv v152] [(.int (p1 + (2 : Int32))), (.ref r0)])) (fun target kt => ?_) ?_
            · show Steps p.tables e below (s₁.setTop (mkF m 137 #[rv r0, iv p1, iv p2, iv v7, iv (4 : Int32), iv j122_l5, iv j122_l6, iv (2 : Int32), iv v152] [(.int p2), (.int (p1 + (2 : Int32)))])) target
              refine XS.icmpYes X0.here hx rfl (pc0 := 137) (pc' := 142) rfl (hb hby own_d1_137) rfl (tlt c137_1).1 (by decide) (by decide) ?_
              refine XS.aloadN X0.here hx rfl (hb hby own_d1_142) rfl rfl ?_
              refine XS.iloadN X0.here hx rfl (hb hby own_d1_143) rfl ?_
              refine XS.iload X0.here hx rfl (hb hby own_d1_144) rfl ?_
              refine XS.iadd X0.here hx rfl (hb hby own_d1_146) rfl ?_
              exact kt
            obtain ⟨clg147_1, Arg147_1, Szg147_1, Atg147_1⟩ := id R_r0
            have hing147_1 : ¬ ((p1 + (2 : Int32)) < 0 ∨ clg147_1.slots.size ≤ ((p1 + (2 : Int32))).toNatClampNeg) := own_inb Szg147_1 hin.2.2.1
            have hatg147_1 : clg147_1.slots[((p1 + (2 : Int32))).toNatClampNeg]? = some (.int (g ((p1 + (2 : Int32))).toNatClampNeg)) := own_RayB_nth Atg147_1 Szg147_1 hing147_1
            refine own_st (B := s₁.setTop (mkF m 148 #[rv r0, iv p1, iv p2, iv v7, iv (4 : Int32), iv j122_l5, iv j122_l6, iv (2 : Int32), iv v152] [(.int (g ((p1 + (2 : Int32))).toNatClampNeg))])) (fun target kt => ?_) ?_
            · refine X0.baloadBytes hx (j := (p1 + (2 : Int32))) (v := (.int (g ((p1 + (2 : Int32))).toNatClampNeg))) (by first | exact Arg147_1.1 | (rw [e0]; exact Arg147_1.1)) (State.isArrayOf_alike hZ.alike Arg147_1.2.1) Arg147_1.2.2 hing147_1 hatg147_1 (g := (mkF m 147 #[rv r0, iv p1, iv p2, iv v7, iv (4 : Int32), iv j122_l5, iv j122_l6, iv (2 : Int32), iv v152] [(.int (p1 + (2 : Int32))), (.ref r0)])) rfl rfl (hb hby own_d1_147) _ ?_
              exact kt
            obtain ⟨v152_1, hv152_1⟩ : ∃ z : Int32, z = ((g ((p1 + (2 : Int32))).toNatClampNeg) &&& (255 : Int32)) := ⟨_, rfl⟩
            refine own_st (B := s₁.setTop (mkF m 170 #[rv r0, iv p1, iv p2, iv v7, iv (4 : Int32), iv j122_l5, iv j122_l6, iv (2 : Int32), iv v152_1] [(.int (128 : Int32)), (.int v152_1)])) (fun target kt => ?_) ?_
            · show Steps p.tables e below (s₁.setTop (mkF m 148 #[rv r0, iv p1, iv p2, iv v7, iv (4 : Int32), iv j122_l5, iv j122_l6, iv (2 : Int32), iv v152] [(.int (g ((p1 + (2 : Int32))).toNatClampNeg))])) target
              refine XS.sipush X0.here hx rfl (hb hby own_d1_148) ?_
              refine XS.iand X0.here hx rfl (hb hby own_d1_151) rfl ?_
              refine XS.istore X0.here hx rfl (hb hby own_d1_152) rfl (l' := #[rv r0, iv p1, iv p2, iv v7, iv (4 : Int32), iv j122_l5, iv j122_l6, iv (2 : Int32), iv v152_1]) (by subst hv152_1; rfl) ?_
              refine XS.iload X0.here hx rfl (hb hby own_d1_154) rfl ?_
              refine XS.iload X0.here hx rfl (hb hby own_d1_156) rfl ?_
              refine XS.iconst X0.here hx rfl (hb hby own_d1_158) ?_
              refine XS.icmpYes X0.here hx rfl (pc0 := 159) (pc' := 167) rfl (hb hby own_d1_159) rfl (feq (by decide : ¬ ((2 : Int32) = (1 : Int32)))).2 (by decide) (by decide) ?_
              refine XS.sipush X0.here hx rfl (hb hby own_d1_167) ?_
              exact kt
            by_cases c170_1 : v152_1 < (128 : Int32)
            · refine own_st (B := s₁.setTop (mkF m 193 #[rv r0, iv p1, iv p2, iv v7, iv (4 : Int32), iv j122_l5, iv j122_l6, iv (2 : Int32), iv v152_1] [(.int (-1 : Int32))])) (fun target kt => ?_) ?_
              · show Steps p.tables e below (s₁.setTop (mkF m 170 #[rv r0, iv p1, iv p2, iv v7, iv (4 : Int32), iv j122_l5, iv j122_l6, iv (2 : Int32), iv v152_1] [(.int (128 : Int32)), (.int v152_1)])) target
                refine XS.icmpYes X0.here hx rfl (pc0 := 170) (pc' := 192) rfl (hb hby own_d1_170) rfl (tlt c170_1).1 (by decide) (by decide) ?_
                refine XS.iconst X0.here hx rfl (hb hby own_d1_192) ?_
                exact kt
              obtain ⟨fs, hr, hrun, hended, hW, hsame⟩ := X0.leave (v := some (.int (-1 : Int32))) (fun h => by rw [Bd.returns] at h; cases h)
              have hend : Steps p.tables e below (s₁.setTop (mkF m 193 #[rv r0, iv p1, iv p2, iv v7, iv (4 : Int32), iv j122_l5, iv j122_l6, iv (2 : Int32), iv v152_1] [(.int (-1 : Int32))])) (s₁.setFrames fs) := by
                exact retI X0 hx Bd.returns (hb hby own_d1_193) hr
              refine own_fin hend ⟨_, hrun, hended, _, _, rfl, ?_, ⟨_, rfl⟩, hW, hsame.mono (by decide) (by decide)⟩
              show own_Q1_D Z r0 p1 p2 g h0 n0 _ s₁.heap _
              rw [e0]
              subst hv7 hj122_l5 hj122_l6 hv152 hv152_1
              exact ⟨(congrArg (fun z => some (Value.int z)) (Eq.trans (Eq.trans (Eq.trans (Eq.trans (Eq.trans (if_pos c170_1).symm (if_pos c137_1).symm) (if_neg c189).symm) (if_neg c170).symm) (if_pos c137).symm) (if_pos c84).symm)), N0, rfl⟩
            · refine own_st (B := s₁.setTop (mkF m 189 #[rv r0, iv p1, iv p2, iv v7, iv (4 : Int32), iv j122_l5, iv j122_l6, iv (2 : Int32), iv v152_1] [(.int (191 : Int32)), (.int v152_1)])) (fun target kt => ?_) ?_
              · show Steps p.tables e below (s₁.setTop (mkF m 170 #[rv r0, iv p1, iv p2, iv v7, iv (4 : Int32), iv j122_l5, iv j122_l6, iv (2 : Int32), iv v152_1] [(.int (128 : Int32)), (.int v152_1)])) target
                refine XS.icmpNo X0.here hx rfl (hb hby own_d1_170) rfl (flt c170_1).1 ?_
                refine XS.iload X0.here hx rfl (hb hby own_d1_173) rfl ?_
                refine XS.iload X0.here hx rfl (hb hby own_d1_175) rfl ?_
                refine XS.iconst X0.here hx rfl (hb hby own_d1_177) ?_
                refine XS.icmpYes X0.here hx rfl (pc0 := 178) (pc' := 186) rfl (hb hby own_d1_178) rfl (feq (by decide : ¬ ((2 : Int32) = (1 : Int32)))).2 (by decide) (by decide) ?_
                refine XS.sipush X0.here hx rfl (hb hby own_d1_186) ?_
                exact kt
              by_cases c189_1 : (191 : Int32) < v152_1
              · refine own_st (B := s₁.setTop (mkF m 193 #[rv r0, iv p1, iv p2, iv v7, iv (4 : Int32), iv j122_l5, iv j122_l6, iv (2 : Int32), iv v152_1] [(.int (-1 : Int32))])) (fun target kt => ?_) ?_
                · show Steps p.tables e below (s₁.setTop (mkF m 189 #[rv r0, iv p1, iv p2, iv v7, iv (4 : Int32), iv j122_l5, iv j122_l6, iv (2 : Int32), iv v152_1] [(.int (191 : Int32)), (.int v152_1)])) target
                  refine XS.icmpNo X0.here hx rfl (hb hby own_d1_189) rfl (tlt c189_1).2.2.2 ?_
                  refine XS.iconst X0.here hx rfl (hb hby own_d1_192) ?_
                  exact kt
                obtain ⟨fs, hr, hrun, hended, hW, hsame⟩ := X0.leave (v := some (.int (-1 : Int32))) (fun h => by rw [Bd.returns] at h; cases h)
                have hend : Steps p.tables e below (s₁.setTop (mkF m 193 #[rv r0, iv p1, iv p2, iv v7, iv (4 : Int32), iv j122_l5, iv j122_l6, iv (2 : Int32), iv v152_1] [(.int (-1 : Int32))])) (s₁.setFrames fs) := by
                  exact retI X0 hx Bd.returns (hb hby own_d1_193) hr
                refine own_fin hend ⟨_, hrun, hended, _, _, rfl, ?_, ⟨_, rfl⟩, hW, hsame.mono (by decide) (by decide)⟩
                show own_Q1_D Z r0 p1 p2 g h0 n0 _ s₁.heap _
                rw [e0]
                subst hv7 hj122_l5 hj122_l6 hv152 hv152_1
                exact ⟨(congrArg (fun z => some (Value.int z)) (Eq.trans (Eq.trans (Eq.trans (Eq.trans (Eq.trans (Eq.trans (if_pos c189_1).symm (if_neg c170_1).symm) (if_pos c137_1).symm) (if_neg c189).symm) (if_neg c170).symm) (if_pos c137).symm) (if_pos c84).symm)), N0, rfl⟩
              · refine own_st (B := s₁.setTop (mkF m 137 #[rv r0, iv p1, iv p2, iv v7, iv (4 : Int32), iv j122_l5, iv j122_l6, iv (3 : Int32), iv v152_1] [(.int p2), (.int (p1 + (3 : Int32)))])) (fun target kt => ?_) ?_
                · show Steps p.tables e below (s₁.setTop (mkF m 189 #[rv r0, iv p1, iv p2, iv v7, iv (4 : Int32), iv j122_l5, iv j122_l6, iv (2 : Int32), iv v152_1] [(.int (191 : Int32)), (.int v152_1)])) target
                  refine XS.icmpYes X0.here hx rfl (pc0 := 189) (pc' := 194) rfl (hb hby own_d1_189) rfl (flt c189_1).2.2.2 (by decide) (by decide) ?_
                  refine XS.iinc X0.here hx rfl (hb hby own_d1_194) rfl (l' := #[rv r0, iv p1, iv p2, iv v7, iv (4 : Int32), iv j122_l5, iv j122_l6, iv (3 : Int32), iv v152_1]) rfl ?_
                  refine XS.goto X0.here hx rfl (pc0 := 197) (pc' := 125) rfl (hb hby own_d1_197) (by decide) (by decide) ?_
                  refine XS.iload X0.here hx rfl (hb hby own_d1_125) rfl ?_
                  refine XS.iload X0.here hx rfl (hb hby own_d1_127) rfl ?_
                  refine XS.icmpNo X0.here hx rfl (hb hby own_d1_129) rfl (tlt (by decide : (3 : Int32) < (4 : Int32))).2.1 ?_
                  refine XS.iloadN X0.here hx rfl (hb hby own_d1_132) rfl ?_
                  refine XS.iload X0.here hx rfl (hb hby own_d1_133) rfl ?_
                  show Steps p.tables e below (s₁.setTop (mkF m 135 #[rv r0, iv p1, iv p2, iv v7, iv (4 : Int32), iv j122_l5, iv j122_l6, iv (3 : Int32), iv v152_1] [(.int (3 : Int32)), (.int p1)])) target
                  refine XS.iadd X0.here hx rfl (hb hby own_d1_135) rfl ?_
                  refine XS.iloadN X0.here hx rfl (hb hby own_d1_136) rfl ?_
                  exact kt
                by_cases c137_2 : (p1 + (3 : Int32)) < p2
                · refine own_st (B := s₁.setTop (mkF m 147 #[rv r0, iv p1, iv p2, iv v7, iv (4 : Int32), iv j122_l5, iv j122_l6, iv (3 : Int32), iv v152_1] [(.int (p1 + (3 : Int32))), (.ref r0)])) (fun target kt => ?_) ?_
                  · show Steps p.tables e below (s₁.setTop (mkF m 137 #[rv r0, iv p1, iv p2, iv v7, iv (4 : Int32), iv j122_l5, iv j122_l6, iv (3 : Int32), iv v152_1] [(.int p2), (.int (p1 + (3 : Int32)))])) target
                    refine XS.icmpYes X0.here hx rfl (pc0 := 137) (pc' := 142) rfl (hb hby own_d1_137) rfl (tlt c137_2).1 (by decide) (by decide) ?_
                    refine XS.aloadN X0.here hx rfl (hb hby own_d1_142) rfl rfl ?_
                    refine XS.iloadN X0.here hx rfl (hb hby own_d1_143) rfl ?_
                    refine XS.iload X0.here hx rfl (hb hby own_d1_144) rfl ?_
                    refine XS.iadd X0.here hx rfl (hb hby own_d1_146) rfl ?_
                    exact kt
                  obtain ⟨clg147_2, Arg147_2, Szg147_2, Atg147_2⟩ := id R_r0
                  have hing147_2 : ¬ ((p1 + (3 : Int32)) < 0 ∨ clg147_2.slots.size ≤ ((p1 + (3 : Int32))).toNatClampNeg) := own_inb Szg147_2 hin.2.2.2
                  have hatg147_2 : clg147_2.slots[((p1 + (3 : Int32))).toNatClampNeg]? = some (.int (g ((p1 + (3 : Int32))).toNatClampNeg)) := own_RayB_nth Atg147_2 Szg147_2 hing147_2
                  refine own_st (B := s₁.setTop (mkF m 148 #[rv r0, iv p1, iv p2, iv v7, iv (4 : Int32), iv j122_l5, iv j122_l6, iv (3 : Int32), iv v152_1] [(.int (g ((p1 + (3 : Int32))).toNatClampNeg))])) (fun target kt => ?_) ?_
                  · refine X0.baloadBytes hx (j := (p1 + (3 : Int32))) (v := (.int (g ((p1 + (3 : Int32))).toNatClampNeg))) (by first | exact Arg147_2.1 | (rw [e0]; exact Arg147_2.1)) (State.isArrayOf_alike hZ.alike Arg147_2.2.1) Arg147_2.2.2 hing147_2 hatg147_2 (g := (mkF m 147 #[rv r0, iv p1, iv p2, iv v7, iv (4 : Int32), iv j122_l5, iv j122_l6, iv (3 : Int32), iv v152_1] [(.int (p1 + (3 : Int32))), (.ref r0)])) rfl rfl (hb hby own_d1_147) _ ?_
                    exact kt
                  obtain ⟨v152_2, hv152_2⟩ : ∃ z : Int32, z = ((g ((p1 + (3 : Int32))).toNatClampNeg) &&& (255 : Int32)) := ⟨_, rfl⟩
                  refine own_st (B := s₁.setTop (mkF m 170 #[rv r0, iv p1, iv p2, iv v7, iv (4 : Int32), iv j122_l5, iv j122_l6, iv (3 : Int32), iv v152_2] [(.int (128 : Int32)), (.int v152_2)])) (fun target kt => ?_) ?_
                  · show Steps p.tables e below (s₁.setTop (mkF m 148 #[rv r0, iv p1, iv p2, iv v7, iv (4 : Int32), iv j122_l5, iv j122_l6, iv (3 : Int32), iv v152_1] [(.int (g ((p1 + (3 : Int32))).toNatClampNeg))])) target
                    refine XS.sipush X0.here hx rfl (hb hby own_d1_148) ?_
                    refine XS.iand X0.here hx rfl (hb hby own_d1_151) rfl ?_
                    refine XS.istore X0.here hx rfl (hb hby own_d1_152) rfl (l' := #[rv r0, iv p1, iv p2, iv v7, iv (4 : Int32), iv j122_l5, iv j122_l6, iv (3 : Int32), iv v152_2]) (by subst hv152_2; rfl) ?_
                    refine XS.iload X0.here hx rfl (hb hby own_d1_154) rfl ?_
                    refine XS.iload X0.here hx rfl (hb hby own_d1_156) rfl ?_
                    refine XS.iconst X0.here hx rfl (hb hby own_d1_158) ?_
                    refine XS.icmpYes X0.here hx rfl (pc0 := 159) (pc' := 167) rfl (hb hby own_d1_159) rfl (feq (by decide : ¬ ((3 : Int32) = (1 : Int32)))).2 (by decide) (by decide) ?_
                    refine XS.sipush X0.here hx rfl (hb hby own_d1_167) ?_
                    exact kt
                  by_cases c170_2 : v152_2 < (128 : Int32)
                  · refine own_st (B := s₁.setTop (mkF m 193 #[rv r0, iv p1, iv p2, iv v7, iv (4 : Int32), iv j122_l5, iv j122_l6, iv (3 : Int32), iv v152_2] [(.int (-1 : Int32))])) (fun target kt => ?_) ?_
                    · show Steps p.tables e below (s₁.setTop (mkF m 170 #[rv r0, iv p1, iv p2, iv v7, iv (4 : Int32), iv j122_l5, iv j122_l6, iv (3 : Int32), iv v152_2] [(.int (128 : Int32)), (.int v152_2)])) target
                      refine XS.icmpYes X0.here hx rfl (pc0 := 170) (pc' := 192) rfl (hb hby own_d1_170) rfl (tlt c170_2).1 (by decide) (by decide) ?_
                      refine XS.iconst X0.here hx rfl (hb hby own_d1_192) ?_
                      exact kt
                    obtain ⟨fs, hr, hrun, hended, hW, hsame⟩ := X0.leave (v := some (.int (-1 : Int32))) (fun h => by rw [Bd.returns] at h; cases h)
                    have hend : Steps p.tables e below (s₁.setTop (mkF m 193 #[rv r0, iv p1, iv p2, iv v7, iv (4 : Int32), iv j122_l5, iv j122_l6, iv (3 : Int32), iv v152_2] [(.int (-1 : Int32))])) (s₁.setFrames fs) := by
                      exact retI X0 hx Bd.returns (hb hby own_d1_193) hr
                    refine own_fin hend ⟨_, hrun, hended, _, _, rfl, ?_, ⟨_, rfl⟩, hW, hsame.mono (by decide) (by decide)⟩
                    show own_Q1_D Z r0 p1 p2 g h0 n0 _ s₁.heap _
                    rw [e0]
                    subst hv7 hj122_l5 hj122_l6 hv152 hv152_1 hv152_2
                    exact ⟨(congrArg (fun z => some (Value.int z)) (Eq.trans (Eq.trans (Eq.trans (Eq.trans (Eq.trans (Eq.trans (Eq.trans (Eq.trans (if_pos c170_2).symm (if_pos c137_2).symm) (if_neg c189_1).symm) (if_neg c170_1).symm) (if_pos c137_1).symm) (if_neg c189).symm) (if_neg c170).symm) (if_pos c137).symm) (if_pos c84).symm)), N0, rfl⟩
                  · refine own_st (B := s₁.setTop (mkF m 189 #[rv r0, iv p1, iv p2, iv v7, iv (4 : Int32), iv j122_l5, iv j122_l6, iv (3 : Int32), iv v152_2] [(.int (191 : Int32)), (.int v152_2)])) (fun target kt => ?_) ?_
                    · show Steps p.tables e below (s₁.setTop (mkF m 170 #[rv r0, iv p1, iv p2, iv v7, iv (4 : Int32), iv j122_l5, iv j122_l6, iv (3 : Int32), iv v152_2] [(.int (128 : Int32)), (.int v152_2)])) target
                      refine XS.icmpNo X0.here hx rfl (hb hby own_d1_170) rfl (flt c170_2).1 ?_
                      refine XS.iload X0.here hx rfl (hb hby own_d1_173) rfl ?_
                      refine XS.iload X0.here hx rfl (hb hby own_d1_175) rfl ?_
                      refine XS.iconst X0.here hx rfl (hb hby own_d1_177) ?_
                      refine XS.icmpYes X0.here hx rfl (pc0 := 178) (pc' := 186) rfl (hb hby own_d1_178) rfl (feq (by decide : ¬ ((3 : Int32) = (1 : Int32)))).2 (by decide) (by decide) ?_
                      refine XS.sipush X0.here hx rfl (hb hby own_d1_186) ?_
                      exact kt
                    by_cases c189_2 : (191 : Int32) < v152_2
                    · refine own_st (B := s₁.setTop (mkF m 193 #[rv r0, iv p1, iv p2, iv v7, iv (4 : Int32), iv j122_l5, iv j122_l6, iv (3 : Int32), iv v152_2] [(.int (-1 : Int32))])) (fun target kt => ?_) ?_
                      · show Steps p.tables e below (s₁.setTop (mkF m 189 #[rv r0, iv p1, iv p2, iv v7, iv (4 : Int32), iv j122_l5, iv j122_l6, iv (3 : Int32), iv v152_2] [(.int (191 : Int32)), (.int v152_2)])) target
                        refine XS.icmpNo X0.here hx rfl (hb hby own_d1_189) rfl (tlt c189_2).2.2.2 ?_
                        refine XS.iconst X0.here hx rfl (hb hby own_d1_192) ?_
                        exact kt
                      obtain ⟨fs, hr, hrun, hended, hW, hsame⟩ := X0.leave (v := some (.int (-1 : Int32))) (fun h => by rw [Bd.returns] at h; cases h)
                      have hend : Steps p.tables e below (s₁.setTop (mkF m 193 #[rv r0, iv p1, iv p2, iv v7, iv (4 : Int32), iv j122_l5, iv j122_l6, iv (3 : Int32), iv v152_2] [(.int (-1 : Int32))])) (s₁.setFrames fs) := by
                        exact retI X0 hx Bd.returns (hb hby own_d1_193) hr
                      refine own_fin hend ⟨_, hrun, hended, _, _, rfl, ?_, ⟨_, rfl⟩, hW, hsame.mono (by decide) (by decide)⟩
                      show own_Q1_D Z r0 p1 p2 g h0 n0 _ s₁.heap _
                      rw [e0]
                      subst hv7 hj122_l5 hj122_l6 hv152 hv152_1 hv152_2
                      exact ⟨(congrArg (fun z => some (Value.int z)) (Eq.trans (Eq.trans (Eq.trans (Eq.trans (Eq.trans (Eq.trans (Eq.trans (Eq.trans (Eq.trans (if_pos c189_2).symm (if_neg c170_2).symm) (if_pos c137_2).symm) (if_neg c189_1).symm) (if_neg c170_1).symm) (if_pos c137_1).symm) (if_neg c189).symm) (if_neg c170).symm) (if_pos c137).symm) (if_pos c84).symm)), N0, rfl⟩
                    · refine own_st (B := s₁.setTop (mkF m 204 #[rv r0, iv p1, iv p2, iv v7, iv (4 : Int32), iv j122_l5, iv j122_l6, iv (4 : Int32), iv v152_2] [(.int (239 : Int32)), (.int v7)])) (fun target kt => ?_) ?_
                      · show Steps p.tables e below (s₁.setTop (mkF m 189 #[rv r0, iv p1, iv p2, iv v7, iv (4 : Int32), iv j122_l5, iv j122_l6, iv (3 : Int32), iv v152_2] [(.int (191 : Int32)), (.int v152_2)])) target
                        refine XS.icmpYes X0.here hx rfl (pc0 := 189) (pc' := 194) rfl (hb hby own_d1_189) rfl (flt c189_2).2.2.2 (by decide) (by decide) ?_
                        refine XS.iinc X0.here hx rfl (hb hby own_d1_194) rfl (l' := #[rv r0, iv p1, iv p2, iv v7, iv (4 : Int32), iv j122_l5, iv j122_l6, iv (4 : Int32), iv v152_2]) rfl ?_
                        refine XS.goto X0.here hx rfl (pc0 := 197) (pc' := 125) rfl (hb hby own_d1_197) (by decide) (by decide) ?_
                        refine XS.iload X0.here hx rfl (hb hby own_d1_125) rfl ?_
                        refine XS.iload X0.here hx rfl (hb hby own_d1_127) rfl ?_
                        refine XS.icmpYes X0.here hx rfl (pc0 := 129) (pc' := 200) rfl (hb hby own_d1_129) rfl (flt (by decide : ¬ ((4 : Int32) < (4 : Int32)))).2.1 (by decide) (by decide) ?_
                        refine XS.iloadN X0.here hx rfl (hb hby own_d1_200) rfl ?_
                        refine XS.sipush X0.here hx rfl (hb hby own_d1_201) ?_
                        exact kt
                      by_cases c204 : v7 = (239 : Int32)
                      · refine own_st (B := s₁.setTop (mkF m 211 #[rv r0, iv p1, iv p2, iv v7, iv (4 : Int32), iv j122_l5, iv j122_l6, iv (4 : Int32), iv v152_2] [(.int (p1 + (1 : Int32))), (.ref r0)])) (fun target kt => ?_) ?_
                        · show Steps p.tables e below (s₁.setTop (mkF m 204 #[rv r0, iv p1, iv p2, iv v7, iv (4 : Int32), iv j122_l5, iv j122_l6, iv (4 : Int32), iv v152_2] [(.int (239 : Int32)), (.int v7)])) target
                          refine XS.icmpNo X0.here hx rfl (hb hby own_d1_204) rfl (teq c204).2 ?_
                          refine XS.aloadN X0.here hx rfl (hb hby own_d1_207) rfl rfl ?_
                          refine XS.iloadN X0.here hx rfl (hb hby own_d1_208) rfl ?_
                          refine XS.iconst X0.here hx rfl (hb hby own_d1_209) ?_
                          refine XS.iadd X0.here hx rfl (hb hby own_d1_210) rfl ?_
                          exact kt
                        obtain ⟨clg211, Arg211, Szg211, Atg211⟩ := id R_r0
                        have hing211 : ¬ ((p1 + (1 : Int32)) < 0 ∨ clg211.slots.size ≤ ((p1 + (1 : Int32))).toNatClampNeg) := own_inb Szg211 hin.2.1
                        have hatg211 : clg211.slots[((p1 + (1 : Int32))).toNatClampNeg]? = some (.int (g ((p1 + (1 : Int32))).toNatClampNeg)) := own_RayB_nth Atg211 Szg211 hing211
                        refine own_st (B := s₁.setTop (mkF m 212 #[rv r0, iv p1, iv p2, iv v7, iv (4 : Int32), iv j122_l5, iv j122_l6, iv (4 : Int32), iv v152_2] [(.int (g ((p1 + (1 : Int32))).toNatClampNeg))])) (fun target kt => ?_) ?_
                        · refine X0.baloadBytes hx (j := (p1 + (1 : Int32))) (v := (.int (g ((p1 + (1 : Int32))).toNatClampNeg))) (by first | exact Arg211.1 | (rw [e0]; exact Arg211.1)) (State.isArrayOf_alike hZ.alike Arg211.2.1) Arg211.2.2 hing211 hatg211 (g := (mkF m 211 #[rv r0, iv p1, iv p2, iv v7, iv (4 : Int32), iv j122_l5, iv j122_l6, iv (4 : Int32), iv v152_2] [(.int (p1 + (1 : Int32))), (.ref r0)])) rfl rfl (hb hby own_d1_211) _ ?_
                          exact kt
                        refine own_st (B := s₁.setTop (mkF m 214 #[rv r0, iv p1, iv p2, iv v7, iv (4 : Int32), iv j122_l5, iv j122_l6, iv (4 : Int32), iv v152_2] [(.int (-65 : Int32)), (.int (g ((p1 + (1 : Int32))).toNatClampNeg))])) (fun target kt => ?_) ?_
                        · show Steps p.tables e below (s₁.setTop (mkF m 212 #[rv r0, iv p1, iv p2, iv v7, iv (4 : Int32), iv j122_l5, iv j122_l6, iv (4 : Int32), iv v152_2] [(.int (g ((p1 + (1 : Int32))).toNatClampNeg))])) target
                          refine XS.bipush X0.here hx rfl (hb hby own_d1_212) ?_
                          exact kt
                        by_cases c214 : (g ((p1 + (1 : Int32))).toNatClampNeg) = (-65 : Int32)
                        · refine own_st (B := s₁.setTop (mkF m 221 #[rv r0, iv p1, iv p2, iv v7, iv (4 : Int32), iv j122_l5, iv j122_l6, iv (4 : Int32), iv v152_2] [(.int (p1 + (2 : Int32))), (.ref r0)])) (fun target kt => ?_) ?_
                          · show Steps p.tables e below (s₁.setTop (mkF m 214 #[rv r0, iv p1, iv p2, iv v7, iv (4 : Int32), iv j122_l5, iv j122_l6, iv (4 : Int32), iv v152_2] [(.int (-65 : Int32)), (.int (g ((p1 + (1 : Int32))).toNatClampNeg))])) target
                            refine XS.icmpNo X0.here hx rfl (hb hby own_d1_214) rfl (teq c214).2 ?_
                            refine XS.aloadN X0.here hx rfl (hb hby own_d1_217) rfl rfl ?_
                            refine XS.iloadN X0.here hx rfl (hb hby own_d1_218) rfl ?_
                            refine XS.iconst X0.here hx rfl (hb hby own_d1_219) ?_
                            refine XS.iadd X0.here hx rfl (hb hby own_d1_220) rfl ?_
                            exact kt
                          obtain ⟨clg221, Arg221, Szg221, Atg221⟩ := id R_r0
                          have hing221 : ¬ ((p1 + (2 : Int32)) < 0 ∨ clg221.slots.size ≤ ((p1 + (2 : Int32))).toNatClampNeg) := own_inb Szg221 hin.2.2.1
                          have hatg221 : clg221.slots[((p1 + (2 : Int32))).toNatClampNeg]? = some (.int (g ((p1 + (2 : Int32))).toNatClampNeg)) := own_RayB_nth Atg221 Szg221 hing221
                          refine own_st (B := s₁.setTop (mkF m 222 #[rv r0, iv p1, iv p2, iv v7, iv (4 : Int32), iv j122_l5, iv j122_l6, iv (4 : Int32), iv v152_2] [(.int (g ((p1 + (2 : Int32))).toNatClampNeg))])) (fun target kt => ?_) ?_
                          · refine X0.baloadBytes hx (j := (p1 + (2 : Int32))) (v := (.int (g ((p1 + (2 : Int32))).toNatClampNeg))) (by first | exact Arg221.1 | (rw [e0]; exact Arg221.1)) (State.isArrayOf_alike hZ.alike Arg221.2.1) Arg221.2.2 hing221 hatg221 (g := (mkF m 221 #[rv r0, iv p1, iv p2, iv v7, iv (4 : Int32), iv j122_l5, iv j122_l6, iv (4 : Int32), iv v152_2] [(.int (p1 + (2 : Int32))), (.ref r0)])) rfl rfl (hb hby own_d1_221) _ ?_
                            exact kt
                          refine own_st (B := s₁.setTop (mkF m 229 #[rv r0, iv p1, iv p2, iv v7, iv (4 : Int32), iv j122_l5, iv j122_l6, iv (4 : Int32), iv v152_2] [(.int (190 : Int32)), (.int ((g ((p1 + (2 : Int32))).toNatClampNeg) &&& (254 : Int32)))])) (fun target kt => ?_) ?_
                          · show Steps p.tables e below (s₁.setTop (mkF m 222 #[rv r0, iv p1, iv p2, iv v7, iv (4 : Int32), iv j122_l5, iv j122_l6, iv (4 : Int32), iv v152_2] [(.int (g ((p1 + (2 : Int32))).toNatClampNeg))])) target
                            refine XS.sipush X0.here hx rfl (hb hby own_d1_222) ?_
                            refine XS.iand X0.here hx rfl (hb hby own_d1_225) rfl ?_
                            refine XS.sipush X0.here hx rfl (hb hby own_d1_226) ?_
                            exact kt
                          by_cases c229 : ((g ((p1 + (2 : Int32))).toNatClampNeg) &&& (254 : Int32)) = (190 : Int32)
                          · refine own_st (B := s₁.setTop (mkF m 234 #[rv r0, iv p1, iv p2, iv v7, iv (4 : Int32), iv j122_l5, iv j122_l6, iv (4 : Int32), iv v152_2] [(.int (-2 : Int32))])) (fun target kt => ?_) ?_
                            · show Steps p.tables e below (s₁.setTop (mkF m 229 #[rv r0, iv p1, iv p2, iv v7, iv (4 : Int32), iv j122_l5, iv j122_l6, iv (4 : Int32), iv v152_2] [(.int (190 : Int32)), (.int ((g ((p1 + (2 : Int32))).toNatClampNeg) &&& (254 : Int32)))])) target
                              refine XS.icmpNo X0.here hx rfl (hb hby own_d1_229) rfl (teq c229).2 ?_
                              refine XS.bipush X0.here hx rfl (hb hby own_d1_232) ?_
                              exact kt
                            obtain ⟨fs, hr, hrun, hended, hW, hsame⟩ := X0.leave (v := some (.int (-2 : Int32))) (fun h => by rw [Bd.returns] at h; cases h)
                            have hend : Steps p.tables e below (s₁.setTop (mkF m 234 #[rv r0, iv p1, iv p2, iv v7, iv (4 : Int32), iv j122_l5, iv j122_l6, iv (4 : Int32), iv v152_2] [(.int (-2 : Int32))])) (s₁.setFrames fs) := by
                              exact retI X0 hx Bd.returns (hb hby own_d1_234) hr
                            refine own_fin hend ⟨_, hrun, hended, _, _, rfl, ?_, ⟨_, rfl⟩, hW, hsame.mono (by decide) (by decide)⟩
                            show own_Q1_D Z r0 p1 p2 g h0 n0 _ s₁.heap _
                            rw [e0]
                            subst hv7 hj122_l5 hj122_l6 hv152 hv152_1 hv152_2
                            exact ⟨(congrArg (fun z => some (Value.int z)) (Eq.trans (Eq.trans (Eq.trans (Eq.trans (Eq.trans (Eq.trans (Eq.trans (Eq.trans (Eq.trans (Eq.trans (Eq.trans (Eq.trans (if_pos c229).symm (if_pos c214).symm) (if_pos c204).symm) (if_neg c189_2).symm) (if_neg c170_2).symm) (if_pos c137_2).symm) (if_neg c189_1).symm) (if_neg c170_1).symm) (if_pos c137_1).symm) (if_neg c189).symm) (if_neg c170).symm) (if_pos c137).symm) (if_pos c84).symm)), N0, rfl⟩
                          · refine own_st (B := s₁.setTop (mkF m 237 #[rv r0, iv p1, iv p2, iv v7, iv (4 : Int32), iv j122_l5, iv j122_l6, iv (4 : Int32), iv v152_2] [(.int (4 : Int32))])) (fun target kt => ?_) ?_
                            · show Steps p.tables e below (s₁.setTop (mkF m 229 #[rv r0, iv p1, iv p2, iv v7, iv (4 : Int32), iv j122_l5, iv j122_l6, iv (4 : Int32), iv v152_2] [(.int (190 : Int32)), (.int ((g ((p1 + (2 : Int32))).toNatClampNeg) &&& (254 : Int32)))])) target
                              refine XS.icmpYes X0.here hx rfl (pc0 := 229) (pc' := 235) rfl (hb hby own_d1_229) rfl (feq c229).2 (by decide) (by decide) ?_
                              refine XS.iload X0.here hx rfl (hb hby own_d1_235) rfl ?_
                              exact kt
                            obtain ⟨fs, hr, hrun, hended, hW, hsame⟩ := X0.leave (v := some (.int (4 : Int32))) (fun h => by rw [Bd.returns] at h; cases h)
                            have hend : Steps p.tables e below (s₁.setTop (mkF m 237 #[rv r0, iv p1, iv p2, iv v7, iv (4 : Int32), iv j122_l5, iv j122_l6, iv (4 : Int32), iv v152_2] [(.int (4 : Int32))])) (s₁.setFrames fs) := by
                              exact retI X0 hx Bd.returns (hb hby own_d1_237) hr
                            refine own_fin hend ⟨_, hrun, hended, _, _, rfl, ?_, ⟨_, rfl⟩, hW, hsame.mono (by decide) (by decide)⟩
                            show own_Q1_D Z r0 p1 p2 g h0 n0 _ s₁.heap _
                            rw [e0]
                            subst hv7 hj122_l5 hj122_l6 hv152 hv152_1 hv152_2
                            exact ⟨(congrArg (fun z => some (Value.int z)) (Eq.trans (Eq.trans (Eq.trans (Eq.trans (Eq.trans (Eq.trans (Eq.trans (Eq.trans (Eq.trans (Eq.trans (Eq.trans (Eq.trans (if_neg c229).symm (if_pos c214).symm) (if_pos c204).symm) (if_neg c189_2).symm) (if_neg c170_2).symm) (if_pos c137_2).symm) (if_neg c189_1).symm) (if_neg c170_1).symm) (if_pos c137_1).symm) (if_neg c189).symm) (if_neg c170).symm) (if_pos c137).symm) (if_pos c84).symm)), N0, rfl⟩
                        · refine own_st (B := s₁.setTop (mkF m 237 #[rv r0, iv p1, iv p2, iv v7, iv (4 : Int32), iv j122_l5, iv j122_l6, iv (4 : Int32), iv v152_2] [(.int (4 : Int32))])) (fun target kt => ?_) ?_
                          · show Steps p.tables e below (s₁.setTop (mkF m 214 #[rv r0, iv p1, iv p2, iv v7, iv (4 : Int32), iv j122_l5, iv j122_l6, iv (4 : Int32), iv v152_2] [(.int (-65 : Int32)), (.int (g ((p1 + (1 : Int32))).toNatClampNeg))])) target
                            refine XS.icmpYes X0.here hx rfl (pc0 := 214) (pc' := 235) rfl (hb hby own_d1_214) rfl (feq c214).2 (by decide) (by decide) ?_
                            refine XS.iload X0.here hx rfl (hb hby own_d1_235) rfl ?_
                            exact kt
                          obtain ⟨fs, hr, hrun, hended, hW, hsame⟩ := X0.leave (v := some (.int (4 : Int32))) (fun h => by rw [Bd.returns] at h; cases h)
                          have hend : Steps p.tables e below (s₁.setTop (mkF m 237 #[rv r0, iv p1, iv p2, iv v7, iv (4 : Int32), iv j122_l5, iv j122_l6, iv (4 : Int32), iv v152_2] [(.int (4 : Int32))])) (s₁.setFrames fs) := by
                            exact retI X0 hx Bd.returns (hb hby own_d1_237) hr
                          refine own_fin hend ⟨_, hrun, hended, _, _, rfl, ?_, ⟨_, rfl⟩, hW, hsame.mono (by decide) (by decide)⟩
                          show own_Q1_D Z r0 p1 p2 g h0 n0 _ s₁.heap _
                          rw [e0]
                          subst hv7 hj122_l5 hj122_l6 hv152 hv152_1 hv152_2
                          exact ⟨(congrArg (fun z => some (Value.int z)) (Eq.trans (Eq.trans (Eq.trans (Eq.trans (Eq.trans (Eq.trans (Eq.trans (Eq.trans (Eq.trans (Eq.trans (Eq.trans (if_neg c214).symm (if_pos c204).symm) (if_neg c189_2).symm) (if_neg c170_2).symm) (if_pos c137_2).symm) (if_neg c189_1).symm) (if_neg c170_1).symm) (if_pos c137_1).symm) (if_neg c189).symm) (if_neg c170).symm) (if_pos c137).symm) (if_pos c84).symm)), N0, rfl⟩
                      · refine own_st (B := s₁.setTop (mkF m 237 #[rv r0, iv p1, iv p2, iv v7, iv (4 : Int32), iv j122_l5, iv j122_l6, iv (4 : Int32), iv v152_2] [(.int (4 : Int32))])) (fun target kt => ?_) ?_
                        · show Steps p.tables e below (s₁.setTop (mkF m 204 #[rv r0, iv p1, iv p2, iv v7, iv (4 : Int32), iv j122_l5, iv j122_l6, iv (4 : Int32), iv v152_2] [(.int (239 : Int32)), (.int v7)])) target
                          refine XS.icmpYes X0.here hx rfl (pc0 := 204) (pc' := 235) rfl (hb hby own_d1_204) rfl (feq c204).2 (by decide) (by decide) ?_
                          refine XS.iload X0.here hx rfl (hb hby own_d1_235) rfl ?_
                          exact kt
                        obtain ⟨fs, hr, hrun, hended, hW, hsame⟩ := X0.leave (v := some (.int (4 : Int32))) (fun h => by rw [Bd.returns] at h; cases h)
                        have hend : Steps p.tables e below (s₁.setTop (mkF m 237 #[rv r0, iv p1, iv p2, iv v7, iv (4 : Int32), iv j122_l5, iv j122_l6, iv (4 : Int32), iv v152_2] [(.int (4 : Int32))])) (s₁.setFrames fs) := by
                          exact retI X0 hx Bd.returns (hb hby own_d1_237) hr
                        refine own_fin hend ⟨_, hrun, hended, _, _, rfl, ?_, ⟨_, rfl⟩, hW, hsame.mono (by decide) (by decide)⟩
                        show own_Q1_D Z r0 p1 p2 g h0 n0 _ s₁.heap _
                        rw [e0]
                        subst hv7 hj122_l5 hj122_l6 hv152 hv152_1 hv152_2
                        exact ⟨(congrArg (fun z => some (Value.int z)) (Eq.trans (Eq.trans (Eq.trans (Eq.trans (Eq.trans (Eq.trans (Eq.trans (Eq.trans (Eq.trans (Eq.trans (if_neg c204).symm (if_neg c189_2).symm) (if_neg c170_2).symm) (if_pos c137_2).symm) (if_neg c189_1).symm) (if_neg c170_1).symm) (if_pos c137_1).symm) (if_neg c189).symm) (if_neg c170).symm) (if_pos c137).symm) (if_pos c84).symm)), N0, rfl⟩
                · refine own_st (B := s₁.setTop (mkF m 141 #[rv r0, iv p1, iv p2, iv v7, iv (4 : Int32), iv j122_l5, iv j122_l6, iv (3 : Int32), iv v152_1] [(.int (0 : Int32))])) (fun target kt => ?_) ?_
                  · show Steps p.tables e below (s₁.setTop (mkF m 137 #[rv r0, iv p1, iv p2, iv v7, iv (4 : Int32), iv j122_l5, iv j122_l6, iv (3 : Int32), iv v152_1] [(.int p2), (.int (p1 + (3 : Int32)))])) target
                    refine XS.icmpNo X0.here hx rfl (hb hby own_d1_137) rfl (flt c137_2).1 ?_
                    refine XS.iconst X0.here hx rfl (hb hby own_d1_140) ?_
                    exact kt
                  obtain ⟨fs, hr, hrun, hended, hW, hsame⟩ := X0.leave (v := some (.int (0 : Int32))) (fun h => by rw [Bd.returns] at h; cases h)
                  have hend : Steps p.tables e below (s₁.setTop (mkF m 141 #[rv r0, iv p1, iv p2, iv v7, iv (4 : Int32), iv j122_l5, iv j122_l6, iv (3 : Int32), iv v152_1] [(.int (0 : Int32))])) (s₁.setFrames fs) := by
                    exact retI X0 hx Bd.returns (hb hby own_d1_141) hr
                  refine own_fin hend ⟨_, hrun, hended, _, _, rfl, ?_, ⟨_, rfl⟩, hW, hsame.mono (by decide) (by decide)⟩
                  show own_Q1_D Z r0 p1 p2 g h0 n0 _ s₁.heap _
                  rw [e0]
                  subst hv7 hj122_l5 hj122_l6 hv152 hv152_1
                  exact ⟨(congrArg (fun z => some (Value.int z)) (Eq.trans (Eq.trans (Eq.trans (Eq.trans (Eq.trans (Eq.trans (Eq.trans (if_neg c137_2).symm (if_neg c189_1).symm) (if_neg c170_1).symm) (if_pos c137_1).symm) (if_neg c189).symm) (if_neg c170).symm) (if_pos c137).symm) (if_pos c84).symm)), N0, rfl⟩
          · refine own_st (B := s₁.setTop (mkF m 141 #[rv r0, iv p1, iv p2, iv v7, iv (4 : Int32), iv j122_l5, iv j122_l6, iv (2 : Int32), iv v152] [(.int (0 : Int32))])) (fun target kt => ?_) ?_
            · show Steps p.tables e below (s₁.setTop (mkF m 137 #[rv r0, iv p1, iv p2, iv v7, iv (4 : Int32), iv j122_l5, iv j122_l6, iv (2 : Int32), iv v152] [(.int p2), (.int (p1 + (2 : Int32)))])) target
              refine XS.icmpNo X0.here hx rfl (hb hby own_d1_137) rfl (flt c137_1).1 ?_
              refine XS.iconst X0.here hx rfl (hb hby own_d1_140) ?_
              exact kt
            obtain ⟨fs, hr, hrun, hended, hW, hsame⟩ := X0.leave (v := some (.int (0 : Int32))) (fun h => by rw [Bd.returns] at h; cases h)
            have hend : Steps p.tables e below (s₁.setTop (mkF m 141 #[rv r0, iv p1, iv p2, iv v7, iv (4 : Int32), iv j122_l5, iv j122_l6, iv (2 : Int32), iv v152] [(.int (0 : Int32))])) (s₁.setFrames fs) := by
              exact retI X0 hx Bd.returns (hb hby own_d1_141) hr
            refine own_fin hend ⟨_, hrun, hended, _, _, rfl, ?_, ⟨_, rfl⟩, hW, hsame.mono (by decide) (by decide)⟩
            show own_Q1_D Z r0 p1 p2 g h0 n0 _ s₁.heap _
            rw [e0]
            subst hv7 hj122_l5 hj122_l6 hv152
            exact ⟨(congrArg (fun z => some (Value.int z)) (Eq.trans (Eq.trans (Eq.trans (Eq.trans (if_neg c137_1).symm (if_neg c189).symm) (if_neg c170).symm) (if_pos c137).symm) (if_pos c84).symm)), N0, rfl⟩
    · refine own_st (B := s₁.setTop (mkF m 141 #[rv r0, iv p1, iv p2, iv v7, iv (4 : Int32), iv j122_l5, iv j122_l6, iv (1 : Int32), .unset] [(.int (0 : Int32))])) (fun target kt => ?_) ?_
      · show Steps p.tables e below (s₁.setTop (mkF m 137 #[rv r0, iv p1, iv p2, iv v7, iv (4 : Int32), iv j122_l5, iv j122_l6, iv (1 : Int32), .unset] [(.int p2), (.int (p1 + (1 : Int32)))])) target
        refine XS.icmpNo X0.here hx rfl (hb hby own_d1_137) rfl (flt c137).1 ?_
        refine XS.iconst X0.here hx rfl (hb hby own_d1_140) ?_
        exact kt
      obtain ⟨fs, hr, hrun, hended, hW, hsame⟩ := X0.leave (v := some (.int (0 : Int32))) (fun h => by rw [Bd.returns] at h; cases h)
      have hend : Steps p.tables e below (s₁.setTop (mkF m 141 #[rv r0, iv p1, iv p2, iv v7, iv (4 : Int32), iv j122_l5, iv j122_l6, iv (1 : Int32), .unset] [(.int (0 : Int32))])) (s₁.setFrames fs) := by
        exact retI X0 hx Bd.returns (hb hby own_d1_141) hr
      refine own_fin hend ⟨_, hrun, hended, _, _, rfl, ?_, ⟨_, rfl⟩, hW, hsame.mono (by decide) (by decide)⟩
      show own_Q1_D Z r0 p1 p2 g h0 n0 _ s₁.heap _
      rw [e0]
      subst hv7 hj122_l5 hj122_l6
      exact ⟨(congrArg (fun z => some (Value.int z)) (Eq.trans (if_neg c137).symm (if_pos c84).symm)), N0, rfl⟩
  · refine own_st (B := s₁.setTop (mkF m 121 #[rv r0, iv p1, iv p2, iv v7, .unset, iv (128 : Int32), iv (191 : Int32), .unset, .unset] [(.int (-1 : Int32))])) (fun target kt => ?_) ?_
    · show Steps p.tables e below (s₁.setTop (mkF m 84 #[rv r0, iv p1, iv p2, iv v7, .unset, iv (128 : Int32), iv (191 : Int32), .unset, .unset] [(.int (245 : Int32)), (.int v7)])) target
      refine XS.icmpYes X0.here hx rfl (pc0 := 84) (pc' := 120) rfl (hb hby own_d1_84) rfl (flt c84).2.1 (by decide) (by decide) ?_
      refine XS.iconst X0.here hx rfl (hb hby own_d1_120) ?_
      exact kt
    obtain ⟨fs, hr, hrun, hended, hW, hsame⟩ := X0.leave (v := some (.int (-1 : Int32))) (fun h => by rw [Bd.returns] at h; cases h)
    have hend : Steps p.tables e below (s₁.setTop (mkF m 121 #[rv r0, iv p1, iv p2, iv v7, .unset, iv (128 : Int32), iv (191 : Int32), .unset, .unset] [(.int (-1 : Int32))])) (s₁.setFrames fs) := by
      exact retI X0 hx Bd.returns (hb hby own_d1_121) hr
    refine own_fin hend ⟨_, hrun, hended, _, _, rfl, ?_, ⟨_, rfl⟩, hW, hsame.mono (by decide) (by decide)⟩
    show own_Q1_D Z r0 p1 p2 g h0 n0 _ s₁.heap _
    rw [e0]
    subst hv7
    exact ⟨(congrArg (fun z => some (Value.int z)) (if_neg c84).symm), N0, rfl⟩
theorem own_cls (v : Int32) : v.toInt < 192 ∨ (192 ≤ v.toInt ∧ v.toInt < 224) ∨ (224 ≤ v.toInt ∧ v.toInt < 240) ∨ (240 ≤ v.toInt ∧ v.toInt < 248) ∨ 248 ≤ v.toInt := by omega
theorem own_lit : (192 : Int32).toInt = 192 ∧ (224 : Int32).toInt = 224 ∧ (240 : Int32).toInt = 240 ∧ (248 : Int32).toInt = 248 ∧ (194 : Int32).toInt = 194 := by decide
def own_eq (a b : Int32) : Prop := a = b
theorem own_byte (y : Int32) (h0 : 0 ≤ y.toInt) (h1 : y.toInt < 256) : ((nar .byte (y.toInt8.toInt32)) &&& (255 : Int32)) = y := by
  have h2 := c_i2b y
  have h3 := c_i2b (y.toInt8.toInt32)
  show ((y.toInt8.toInt32).toInt8.toInt32 &&& (255 : Int32)) = y
  have h4 : ((y.toInt8.toInt32).toInt8.toInt32 &&& (255 : Int32)).toInt = ((y.toInt8.toInt32).toInt8.toInt32).toInt % 256 := c_mask _ 255 8 (by decide) (by decide)
  apply Int32.toInt_inj.mp
  rw [h4]
  omega
theorem own_m255 (x : Int32) : (x &&& (255 : Int32)).toInt = x.toInt % 256 := c_mask x 255 8 (by decide) (by decide)
theorem own_b255 (x : Int32) : ((nar .byte (x.toInt8.toInt32)) &&& (255 : Int32)) = (x &&& (255 : Int32)) := by
  have h2 := c_i2b x
  have h3 := c_i2b (x.toInt8.toInt32)
  show ((x.toInt8.toInt32).toInt8.toInt32 &&& (255 : Int32)) = (x &&& (255 : Int32))
  apply Int32.toInt_inj.mp
  rw [own_m255, own_m255]
  omega
theorem own_m65 (x : Int32) : (nar .byte (x.toInt8.toInt32) = (-65 : Int32)) ↔ (x &&& (255 : Int32)) = (191 : Int32) := by
  have h2 := c_i2b x
  have h3 := c_i2b (x.toInt8.toInt32)
  show ((x.toInt8.toInt32).toInt8.toInt32 = (-65 : Int32)) ↔ _
  rw [← Int32.toInt_inj, ← Int32.toInt_inj, own_m255, show (-65 : Int32).toInt = -65 by decide, show (191 : Int32).toInt = 191 by decide]
  omega
theorem own_enum {P : Int32 → Prop} (lo n : Nat) (hl : lo + n ≤ 1000) (h : ∀ k : Fin n, P (Int32.ofNat (lo + k.val))) (x : Int32) (h0 : (lo : Int) ≤ x.toInt) (h1 : x.toInt < lo + n) : P x := by
  have e : x = Int32.ofNat (lo + (x.toInt - lo).toNat) := by
    apply Int32.toInt_inj.mp
    have h2 : (Int32.ofNat (lo + (x.toInt - lo).toNat)).toInt = ((lo + (x.toInt - lo).toNat : Nat) : Int) := Int32.toInt_ofNat_small (by omega)
    rw [h2]
    omega
  have := h ⟨(x.toInt - lo).toNat, by omega⟩
  rw [e]
  exact this
theorem own_m254 (x : Int32) : ((nar .byte (x.toInt8.toInt32)) &&& (254 : Int32)) = (190 : Int32) ↔ ((x &&& (255 : Int32)) = (190 : Int32) ∨ (x &&& (255 : Int32)) = (191 : Int32)) := by
  have e : ((nar .byte (x.toInt8.toInt32)) &&& (254 : Int32)) = ((x &&& (255 : Int32)) &&& (254 : Int32)) := by
    rw [← own_b255 x, Int32.and_assoc, show ((255 : Int32) &&& (254 : Int32)) = 254 by decide]
  rw [e]
  have h := own_m255 x
  exact own_enum (P := fun z => (z &&& (254 : Int32)) = (190 : Int32) ↔ (z = (190 : Int32) ∨ z = (191 : Int32))) 0 256 (by decide) (by decide +kernel) (x &&& 255) (by omega) (by omega)
theorem own_c192 (z : Int32) (h0 : 0 ≤ z.toInt) (h1 : z.toInt < 256) : ((z &&& (192 : Int32)) = (128 : Int32)) ↔ (128 ≤ z.toInt ∧ z.toInt < 192) :=
  own_enum (P := fun z => ((z &&& (192 : Int32)) = (128 : Int32)) ↔ (128 ≤ z.toInt ∧ z.toInt < 192)) 0 256 (by decide) (by decide +kernel) z h0 (by omega)
theorem own_or (a b : Int32) (k : Nat) (hk : k ≤ 31) (P : Int) (hP : P = (2 ^ k : Nat)) (ha : a.toInt % P = 0) (h0 : 0 ≤ a.toInt) (hb0 : 0 ≤ b.toInt) (hb1 : b.toInt < P) (h1 : a.toInt + b.toInt < 2147483648) : (a ||| b).toInt = a.toInt + b.toInt := by
  have h := c_or a b k hk P hP ha hb0 hb1
  have r := rng32 (a ||| b)
  omega
theorem own_lead (x : Int32) : 128 ≤ ((128 : Int32) ||| (x &&& (127 : Int32))).toInt ∧ ((128 : Int32) ||| (x &&& (127 : Int32))).toInt < 256 := by
  have h : (x &&& (127 : Int32)).toInt = x.toInt % 128 := c_mask x 127 7 (by decide) (by decide)
  have e : (128 : Int32).toInt = 128 := by decide
  have := own_or 128 (x &&& 127) 7 (by decide) 128 (by decide) (by rw [e]; decide) (by rw [e]; decide) (by omega) (by omega) (by rw [e]; omega)
  omega
theorem own_s6 (x : Int32) (h0 : 0 ≤ x.toInt) (h1 : x.toInt < 4096) : (x <<< ((6 : Int32) &&& 31)).toInt = x.toInt * 64 := by
  have h : ((x <<< ((6 : Int32) &&& 31)).toInt - x.toInt * 64) % 4294967296 = 0 := c_ishl x 6 6 (by decide)
  have r := rng32 (x <<< ((6 : Int32) &&& 31))
  omega
theorem own_s12 (x : Int32) (h0 : 0 ≤ x.toInt) (h1 : x.toInt < 4096) : (x <<< ((12 : Int32) &&& 31)).toInt = x.toInt * 4096 := by
  have h : ((x <<< ((12 : Int32) &&& 31)).toInt - x.toInt * 4096) % 4294967296 = 0 := c_ishl x 12 12 (by decide)
  have r := rng32 (x <<< ((12 : Int32) &&& 31))
  omega
theorem own_s18 (x : Int32) (h0 : 0 ≤ x.toInt) (h1 : x.toInt < 4096) : (x <<< ((18 : Int32) &&& 31)).toInt = x.toInt * 262144 := by
  have h : ((x <<< ((18 : Int32) &&& 31)).toInt - x.toInt * 262144) % 4294967296 = 0 := c_ishl x 18 18 (by decide)
  have r := rng32 (x <<< ((18 : Int32) &&& 31))
  omega
theorem own_p2 (b a : Int32) (hb0 : 0 ≤ b.toInt) (hb1 : b.toInt < 32) (ha0 : 0 ≤ a.toInt) (ha1 : a.toInt < 64) : ((b <<< ((6 : Int32) &&& 31)) ||| a).toInt = b.toInt * 64 + a.toInt := by
  have h1 := own_s6 b hb0 (by omega)
  have h2 := own_or (b <<< ((6 : Int32) &&& 31)) a 6 (by decide) 64 (by decide) (by rw [h1]; omega) (by omega) ha0 ha1 (by omega)
  omega
theorem own_p3 (b a d : Int32) (hb0 : 0 ≤ b.toInt) (hb1 : b.toInt < 16) (ha0 : 0 ≤ a.toInt) (ha1 : a.toInt < 64) (hd0 : 0 ≤ d.toInt) (hd1 : d.toInt < 64) : (((b <<< ((12 : Int32) &&& 31)) ||| (a <<< ((6 : Int32) &&& 31))) ||| d).toInt = b.toInt * 4096 + a.toInt * 64 + d.toInt := by
  have h1 := own_s12 b hb0 (by omega)
  have h2 := own_s6 a ha0 (by omega)
  have h3 := own_or (b <<< ((12 : Int32) &&& 31)) (a <<< ((6 : Int32) &&& 31)) 12 (by decide) 4096 (by decide) (by rw [h1]; omega) (by omega) (by omega) (by omega) (by omega)
  have h4 := own_or ((b <<< ((12 : Int32) &&& 31)) ||| (a <<< ((6 : Int32) &&& 31))) d 6 (by decide) 64 (by decide) (by rw [h3]; omega) (by omega) hd0 hd1 (by omega)
  omega
theorem own_p4 (b a d f : Int32) (hb0 : 0 ≤ b.toInt) (hb1 : b.toInt < 8) (ha0 : 0 ≤ a.toInt) (ha1 : a.toInt < 64) (hd0 : 0 ≤ d.toInt) (hd1 : d.toInt < 64) (hf0 : 0 ≤ f.toInt) (hf1 : f.toInt < 64) : ((((b <<< ((18 : Int32) &&& 31)) ||| (a <<< ((12 : Int32) &&& 31))) ||| (d <<< ((6 : Int32) &&& 31))) ||| f).toInt = b.toInt * 262144 + a.toInt * 4096 + d.toInt * 64 + f.toInt := by
  have h1 := own_s18 b hb0 (by omega)
  have h2 := own_s12 a ha0 (by omega)
  have h3 := own_s6 d hd0 (by omega)
  have h4 := own_or (b <<< ((18 : Int32) &&& 31)) (a <<< ((12 : Int32) &&& 31)) 18 (by decide) 262144 (by decide) (by rw [h1]; omega) (by omega) (by omega) (by omega) (by omega)
  have h5 := own_or ((b <<< ((18 : Int32) &&& 31)) ||| (a <<< ((12 : Int32) &&& 31))) (d <<< ((6 : Int32) &&& 31)) 12 (by decide) 4096 (by decide) (by rw [h4]; omega) (by omega) (by omega) (by omega) (by omega)
  have h6 := own_or (((b <<< ((18 : Int32) &&& 31)) ||| (a <<< ((12 : Int32) &&& 31))) ||| (d <<< ((6 : Int32) &&& 31))) f 6 (by decide) 64 (by decide) (by rw [h5]; omega) (by omega) hf0 hf1 (by omega)
  omega
theorem own_m63 (x : Int32) : (x &&& (63 : Int32)).toInt = x.toInt % 64 := c_mask x 63 6 (by decide) (by decide)
theorem own_m31 (x : Int32) : (x &&& (31 : Int32)).toInt = x.toInt % 32 := c_mask x 31 5 (by decide) (by decide)
theorem own_m15 (x : Int32) : (x &&& (15 : Int32)).toInt = x.toInt % 16 := c_mask x 15 4 (by decide) (by decide)
theorem own_m7 (x : Int32) : (x &&& (7 : Int32)).toInt = x.toInt % 8 := c_mask x 7 3 (by decide) (by decide)
theorem own_kv (a n k : Int32) (h : k = (if a < n then a else n)) : (k.toInt < n.toInt → a.toInt = k.toInt) ∧ (k.toInt = n.toInt → n.toInt ≤ a.toInt) := by
  by_cases hc : a < n
  · rw [if_pos hc] at h
    rw [Int32.lt_iff_toInt_lt] at hc
    rw [h]
    omega
  · rw [if_neg hc] at h
    rw [Int32.lt_iff_toInt_lt] at hc
    rw [h]
    omega
theorem own_lim (at' av k : Int32) (h : at' = (0 : Int32) ∨ at' = (1 : Int32) ∨ at' = (2 : Int32) ∨ at' = (3 : Int32)) (hv : 1 ≤ av.toInt ∧ av.toInt ≤ 4) (lim : Int32) (hl : lim = at' + av) (hk : 0 ≤ k.toInt) (hk3 : k.toInt ≤ 3) : ((at' + k) < lim) ↔ k.toInt < av.toInt := by
  have h1 := c_iadd at' av
  have h2 := c_iadd at' k
  have r1 := rng32 (at' + av)
  have r2 := rng32 (at' + k)
  have h3 : 0 ≤ at'.toInt ∧ at'.toInt ≤ 3 := by rcases h with rfl | rfl | rfl | rfl <;> decide
  rw [Int32.lt_iff_toInt_lt, hl]
  omega
theorem own_iteT (P : Prop) [Decidable P] (a b : Int32) : (if P then a else b).toInt = if P then a.toInt else b.toInt := by split <;> rfl
theorem own_lim1 (at' av : Int32) (h : at' = (0 : Int32) ∨ at' = (1 : Int32) ∨ at' = (2 : Int32) ∨ at' = (3 : Int32)) (hv : 1 ≤ av.toInt ∧ av.toInt ≤ 4) (lim : Int32) (hl : lim = at' + av) : ((at' + (1 : Int32)) < lim) ↔ (1 : Int32) < av := by
  rw [own_lim at' av 1 h hv lim hl (by decide) (by decide), Int32.lt_iff_toInt_lt]
theorem own_lim2 (at' av : Int32) (h : at' = (0 : Int32) ∨ at' = (1 : Int32) ∨ at' = (2 : Int32) ∨ at' = (3 : Int32)) (hv : 1 ≤ av.toInt ∧ av.toInt ≤ 4) (lim : Int32) (hl : lim = at' + av) : ((at' + (2 : Int32)) < lim) ↔ (2 : Int32) < av := by
  rw [own_lim at' av 2 h hv lim hl (by decide) (by decide), Int32.lt_iff_toInt_lt]
theorem own_lim3 (at' av : Int32) (h : at' = (0 : Int32) ∨ at' = (1 : Int32) ∨ at' = (2 : Int32) ∨ at' = (3 : Int32)) (hv : 1 ≤ av.toInt ∧ av.toInt ≤ 4) (lim : Int32) (hl : lim = at' + av) : ((at' + (3 : Int32)) < lim) ↔ (3 : Int32) < av := by
  rw [own_lim at' av 3 h hv lim hl (by decide) (by decide), Int32.lt_iff_toInt_lt]
theorem own_k2 (a k : Int32) (h : k = (if a < (2 : Int32) then a else (2 : Int32))) (ha : 1 ≤ a.toInt ∧ a.toInt ≤ 4) : k = (1 : Int32) ∨ k = (2 : Int32) := by
  have e2 : (2 : Int32).toInt = 2 := by decide
  have f1 : (1 : Int32).toInt = 1 := by decide
  have f2 : (2 : Int32).toInt = 2 := by decide
  by_cases hc : a < (2 : Int32)
  · rw [if_pos hc] at h
    rw [Int32.lt_iff_toInt_lt, e2] at hc
    simp only [h, ← Int32.toInt_inj, f1, f2]
    omega
  · rw [if_neg hc] at h
    subst h
    decide
theorem own_k3 (a k : Int32) (h : k = (if a < (3 : Int32) then a else (3 : Int32))) (ha : 1 ≤ a.toInt ∧ a.toInt ≤ 4) : k = (1 : Int32) ∨ k = (2 : Int32) ∨ k = (3 : Int32) := by
  have e3 : (3 : Int32).toInt = 3 := by decide
  have f1 : (1 : Int32).toInt = 1 := by decide
  have f2 : (2 : Int32).toInt = 2 := by decide
  have f3 : (3 : Int32).toInt = 3 := by decide
  by_cases hc : a < (3 : Int32)
  · rw [if_pos hc] at h
    rw [Int32.lt_iff_toInt_lt, e3] at hc
    simp only [h, ← Int32.toInt_inj, f1, f2, f3]
    omega
  · rw [if_neg hc] at h
    subst h
    decide
theorem own_k4 (a k : Int32) (h : k = (if a < (4 : Int32) then a else (4 : Int32))) (ha : 1 ≤ a.toInt ∧ a.toInt ≤ 4) : k = (1 : Int32) ∨ k = (2 : Int32) ∨ k = (3 : Int32) ∨ k = (4 : Int32) := by
  have e4 : (4 : Int32).toInt = 4 := by decide
  have f1 : (1 : Int32).toInt = 1 := by decide
  have f2 : (2 : Int32).toInt = 2 := by decide
  have f3 : (3 : Int32).toInt = 3 := by decide
  have f4 : (4 : Int32).toInt = 4 := by decide
  by_cases hc : a < (4 : Int32)
  · rw [if_pos hc] at h
    rw [Int32.lt_iff_toInt_lt, e4] at hc
    simp only [h, ← Int32.toInt_inj, f1, f2, f3, f4]
    omega
  · rw [if_neg hc] at h
    subst h
    decide
theorem own_av (p : Int32) : 1 ≤ ((((p.toUInt32 >>> ((2 : Int32) &&& 31).toUInt32).toInt32) &&& (3 : Int32)) + (1 : Int32)).toInt ∧ ((((p.toUInt32 >>> ((2 : Int32) &&& 31).toUInt32).toInt32) &&& (3 : Int32)) + (1 : Int32)).toInt ≤ 4 := by
  generalize ((p.toUInt32 >>> ((2 : Int32) &&& 31).toUInt32).toInt32) = x
  have h := c_mask x 3 2 (by decide) (by decide)
  have k := c_iadd (x &&& 3) 1
  have e1 : (1 : Int32).toInt = 1 := by decide
  have r := rng32 ((x &&& 3) + 1)
  rw [h, e1] at k
  omega
theorem own_pd0 : parseMethodDescriptor "([BII)I" = some ⟨[(.array .byte), .int, .int], some .int⟩ := by decide +kernel
theorem own_pd1 : parseMethodDescriptor "(II)I" = some ⟨[.int, .int], some .int⟩ := by decide +kernel
theorem own_pd2 : parseMethodDescriptor "(IIIII)I" = some ⟨[.int, .int, .int, .int, .int], some .int⟩ := by decide +kernel
set_option maxHeartbeats 4000000 in
theorem own_F1_1 (L c1 c2 c3 av mn mx : Int32) (hL : 192 ≤ L.toInt ∧ L.toInt < 224) (h1 : 0 ≤ c1.toInt ∧ c1.toInt < 256) (h2 : 0 ≤ c2.toInt ∧ c2.toInt < 256) (h3 : 0 ≤ c3.toInt ∧ c3.toInt < 256) (hav : 1 ≤ av.toInt ∧ av.toInt ≤ 4) (hk : av.toInt = 1) (hmn : mn.toInt = (L.toInt % 32) * 64 + (0) * 1) (hmx : mx.toInt = (L.toInt % 32) * 64 + (63) * 1) : own_eq (if L < (194 : Int32) then (-1 : Int32) else (if (1 : Int32) < av then (if c1 < (128 : Int32) then (-1 : Int32) else (if (191 : Int32) < c1 then (-1 : Int32) else (if L = (239 : Int32) then (if c1 = (191 : Int32) then (if (c2 = (190 : Int32) ∨ c2 = (191 : Int32)) then (-2 : Int32) else (2 : Int32)) else (2 : Int32)) else (2 : Int32)))) else (0 : Int32))) (if ¬ (mx < (128 : Int32)) ∧ (¬ ((2047 : Int32) < mn)) then (0 : Int32) else (-1 : Int32)) := by
  have em2 : (-2 : Int32).toInt = -2 := by decide
  have em1 : (-1 : Int32).toInt = -1 := by decide
  have e0 : (0 : Int32).toInt = 0 := by decide
  have e1 : (1 : Int32).toInt = 1 := by decide
  have e2 : (2 : Int32).toInt = 2 := by decide
  have e128 : (128 : Int32).toInt = 128 := by decide
  have e190 : (190 : Int32).toInt = 190 := by decide
  have e191 : (191 : Int32).toInt = 191 := by decide
  have e194 : (194 : Int32).toInt = 194 := by decide
  have e239 : (239 : Int32).toInt = 239 := by decide
  have e2047 : (2047 : Int32).toInt = 2047 := by decide
  have q0 : ((1 : Int32) < av) = False := by
    apply eq_false
    simp only [Int32.lt_iff_toInt_lt, ← Int32.toInt_inj, e1]
    omega
  have q1 : (L = (239 : Int32)) = False := by
    apply eq_false
    simp only [Int32.lt_iff_toInt_lt, ← Int32.toInt_inj, e239]
    omega
  simp only [q0, q1, if_true, if_false]
  unfold own_eq
  apply Int32.toInt_inj.mp
  simp only [own_iteT, Int32.lt_iff_toInt_lt, ← Int32.toInt_inj, em2, em1, e0, e1, e2, e128, e190, e191, e194, e239, e2047, if_true, if_false, not_false_eq_true, not_true_eq_false]
  repeat' split
  all_goals first | rfl | omega
set_option maxHeartbeats 4000000 in
theorem own_F1_2 (L c1 c2 c3 av mn mx : Int32) (hL : 192 ≤ L.toInt ∧ L.toInt < 224) (h1 : 0 ≤ c1.toInt ∧ c1.toInt < 256) (h2 : 0 ≤ c2.toInt ∧ c2.toInt < 256) (h3 : 0 ≤ c3.toInt ∧ c3.toInt < 256) (hav : 1 ≤ av.toInt ∧ av.toInt ≤ 4) (hk : 2 ≤ av.toInt) (hmn : mn.toInt = (L.toInt % 32) * 64 + (c1.toInt % 64) * 1) (hmx : mx.toInt = (L.toInt % 32) * 64 + (c1.toInt % 64) * 1) : own_eq (if L < (194 : Int32) then (-1 : Int32) else (if (1 : Int32) < av then (if c1 < (128 : Int32) then (-1 : Int32) else (if (191 : Int32) < c1 then (-1 : Int32) else (if L = (239 : Int32) then (if c1 = (191 : Int32) then (if (c2 = (190 : Int32) ∨ c2 = (191 : Int32)) then (-2 : Int32) else (2 : Int32)) else (2 : Int32)) else (2 : Int32)))) else (0 : Int32))) (if (128 ≤ c1.toInt ∧ c1.toInt < 192) then (if ¬ (mx < (128 : Int32)) ∧ (¬ ((2047 : Int32) < mn)) then (2 : Int32) else (-1 : Int32)) else (-1 : Int32)) := by
  have em2 : (-2 : Int32).toInt = -2 := by decide
  have em1 : (-1 : Int32).toInt = -1 := by decide
  have e0 : (0 : Int32).toInt = 0 := by decide
  have e1 : (1 : Int32).toInt = 1 := by decide
  have e2 : (2 : Int32).toInt = 2 := by decide
  have e128 : (128 : Int32).toInt = 128 := by decide
  have e190 : (190 : Int32).toInt = 190 := by decide
  have e191 : (191 : Int32).toInt = 191 := by decide
  have e194 : (194 : Int32).toInt = 194 := by decide
  have e239 : (239 : Int32).toInt = 239 := by decide
  have e2047 : (2047 : Int32).toInt = 2047 := by decide
  have q0 : ((1 : Int32) < av) = True := by
    apply eq_true
    simp only [Int32.lt_iff_toInt_lt, ← Int32.toInt_inj, e1]
    omega
  have q1 : (L = (239 : Int32)) = False := by
    apply eq_false
    simp only [Int32.lt_iff_toInt_lt, ← Int32.toInt_inj, e239]
    omega
  simp only [q0, q1, if_true, if_false]
  unfold own_eq
  apply Int32.toInt_inj.mp
  simp only [own_iteT, Int32.lt_iff_toInt_lt, ← Int32.toInt_inj, em2, em1, e0, e1, e2, e128, e190, e191, e194, e239, e2047, if_true, if_false, not_false_eq_true, not_true_eq_false]
  repeat' split
  all_goals first | rfl | omega
set_option maxHeartbeats 4000000 in
theorem own_F2_1 (L c1 c2 c3 av mn mx : Int32) (hL : 224 ≤ L.toInt ∧ L.toInt < 240) (h1 : 0 ≤ c1.toInt ∧ c1.toInt < 256) (h2 : 0 ≤ c2.toInt ∧ c2.toInt < 256) (h3 : 0 ≤ c3.toInt ∧ c3.toInt < 256) (hav : 1 ≤ av.toInt ∧ av.toInt ≤ 4) (hk : av.toInt = 1) (hmn : mn.toInt = (L.toInt % 16) * 4096 + (0) * 64 + (0) * 1) (hmx : mx.toInt = (L.toInt % 16) * 4096 + (63) * 64 + (63) * 1) : own_eq (if (1 : Int32) < av then (if c1 < (if L = (224 : Int32) then (160 : Int32) else (128 : Int32)) then (-1 : Int32) else (if (if L = (224 : Int32) then (191 : Int32) else (if L = (237 : Int32) then (159 : Int32) else (191 : Int32))) < c1 then (-1 : Int32) else (if (2 : Int32) < av then (if c2 < (128 : Int32) then (-1 : Int32) else (if (191 : Int32) < c2 then (-1 : Int32) else (if L = (239 : Int32) then (if c1 = (191 : Int32) then (if (c2 = (190 : Int32) ∨ c2 = (191 : Int32)) then (-2 : Int32) else (3 : Int32)) else (3 : Int32)) else (3 : Int32)))) else (0 : Int32)))) else (0 : Int32)) (if ¬ (mx < (2048 : Int32)) ∧ ((¬ ((65535 : Int32) < mn) ∧ (((mn < (55296 : Int32)) ∨ ((57343 : Int32) < mx))))) then (0 : Int32) else (-1 : Int32)) := by
  have em2 : (-2 : Int32).toInt = -2 := by decide
  have em1 : (-1 : Int32).toInt = -1 := by decide
  have e0 : (0 : Int32).toInt = 0 := by decide
  have e1 : (1 : Int32).toInt = 1 := by decide
  have e2 : (2 : Int32).toInt = 2 := by decide
  have e3 : (3 : Int32).toInt = 3 := by decide
  have e128 : (128 : Int32).toInt = 128 := by decide
  have e159 : (159 : Int32).toInt = 159 := by decide
  have e160 : (160 : Int32).toInt = 160 := by decide
  have e190 : (190 : Int32).toInt = 190 := by decide
  have e191 : (191 : Int32).toInt = 191 := by decide
  have e224 : (224 : Int32).toInt = 224 := by decide
  have e237 : (237 : Int32).toInt = 237 := by decide
  have e239 : (239 : Int32).toInt = 239 := by decide
  have e2048 : (2048 : Int32).toInt = 2048 := by decide
  have e55296 : (55296 : Int32).toInt = 55296 := by decide
  have e57343 : (57343 : Int32).toInt = 57343 := by decide
  have e65535 : (65535 : Int32).toInt = 65535 := by decide
  have q0 : ((1 : Int32) < av) = False := by
    apply eq_false
    simp only [Int32.lt_iff_toInt_lt, ← Int32.toInt_inj, e1]
    omega
  have q1 : ((2 : Int32) < av) = False := by
    apply eq_false
    simp only [Int32.lt_iff_toInt_lt, ← Int32.toInt_inj, e2]
    omega
  simp only [q0, q1, if_true, if_false]
  unfold own_eq
  apply Int32.toInt_inj.mp
  simp only [own_iteT, Int32.lt_iff_toInt_lt, ← Int32.toInt_inj, em2, em1, e0, e1, e2, e3, e128, e159, e160, e190, e191, e224, e237, e239, e2048, e55296, e57343, e65535, if_true, if_false, not_false_eq_true, not_true_eq_false]
  repeat' split
  all_goals first | rfl | omega
set_option maxHeartbeats 4000000 in
theorem own_F2_2 (L c1 c2 c3 av mn mx : Int32) (hL : 224 ≤ L.toInt ∧ L.toInt < 240) (h1 : 0 ≤ c1.toInt ∧ c1.toInt < 256) (h2 : 0 ≤ c2.toInt ∧ c2.toInt < 256) (h3 : 0 ≤ c3.toInt ∧ c3.toInt < 256) (hav : 1 ≤ av.toInt ∧ av.toInt ≤ 4) (hk : av.toInt = 2) (hmn : mn.toInt = (L.toInt % 16) * 4096 + (c1.toInt % 64) * 64 + (0) * 1) (hmx : mx.toInt = (L.toInt % 16) * 4096 + (c1.toInt % 64) * 64 + (63) * 1) : own_eq (if (1 : Int32) < av then (if c1 < (if L = (224 : Int32) then (160 : Int32) else (128 : Int32)) then (-1 : Int32) else (if (if L = (224 : Int32) then (191 : Int32) else (if L = (237 : Int32) then (159 : Int32) else (191 : Int32))) < c1 then (-1 : Int32) else (if (2 : Int32) < av then (if c2 < (128 : Int32) then (-1 : Int32) else (if (191 : Int32) < c2 then (-1 : Int32) else (if L = (239 : Int32) then (if c1 = (191 : Int32) then (if (c2 = (190 : Int32) ∨ c2 = (191 : Int32)) then (-2 : Int32) else (3 : Int32)) else (3 : Int32)) else (3 : Int32)))) else (0 : Int32)))) else (0 : Int32)) (if (128 ≤ c1.toInt ∧ c1.toInt < 192) then (if ¬ (mx < (2048 : Int32)) ∧ ((¬ ((65535 : Int32) < mn) ∧ (((mn < (55296 : Int32)) ∨ ((57343 : Int32) < mx))))) then (0 : Int32) else (-1 : Int32)) else (-1 : Int32)) := by
  have em2 : (-2 : Int32).toInt = -2 := by decide
  have em1 : (-1 : Int32).toInt = -1 := by decide
  have e0 : (0 : Int32).toInt = 0 := by decide
  have e1 : (1 : Int32).toInt = 1 := by decide
  have e2 : (2 : Int32).toInt = 2 := by decide
  have e3 : (3 : Int32).toInt = 3 := by decide
  have e128 : (128 : Int32).toInt = 128 := by decide
  have e159 : (159 : Int32).toInt = 159 := by decide
  have e160 : (160 : Int32).toInt = 160 := by decide
  have e190 : (190 : Int32).toInt = 190 := by decide
  have e191 : (191 : Int32).toInt = 191 := by decide
  have e224 : (224 : Int32).toInt = 224 := by decide
  have e237 : (237 : Int32).toInt = 237 := by decide
  have e239 : (239 : Int32).toInt = 239 := by decide
  have e2048 : (2048 : Int32).toInt = 2048 := by decide
  have e55296 : (55296 : Int32).toInt = 55296 := by decide
  have e57343 : (57343 : Int32).toInt = 57343 := by decide
  have e65535 : (65535 : Int32).toInt = 65535 := by decide
  have q0 : ((1 : Int32) < av) = True := by
    apply eq_true
    simp only [Int32.lt_iff_toInt_lt, ← Int32.toInt_inj, e1]
    omega
  have q1 : ((2 : Int32) < av) = False := by
    apply eq_false
    simp only [Int32.lt_iff_toInt_lt, ← Int32.toInt_inj, e2]
    omega
  simp only [q0, q1, if_true, if_false]
  unfold own_eq
  apply Int32.toInt_inj.mp
  simp only [own_iteT, Int32.lt_iff_toInt_lt, ← Int32.toInt_inj, em2, em1, e0, e1, e2, e3, e128, e159, e160, e190, e191, e224, e237, e239, e2048, e55296, e57343, e65535, if_true, if_false, not_false_eq_true, not_true_eq_false]
  repeat' split
  all_goals first | rfl | omega
set_option maxHeartbeats 4000000 in
theorem own_F2_3 (L c1 c2 c3 av mn mx : Int32) (hL : 224 ≤ L.toInt ∧ L.toInt < 240) (h1 : 0 ≤ c1.toInt ∧ c1.toInt < 256) (h2 : 0 ≤ c2.toInt ∧ c2.toInt < 256) (h3 : 0 ≤ c3.toInt ∧ c3.toInt < 256) (hav : 1 ≤ av.toInt ∧ av.toInt ≤ 4) (hk : 3 ≤ av.toInt) (hmn : mn.toInt = (L.toInt % 16) * 4096 + (c1.toInt % 64) * 64 + (c2.toInt % 64) * 1) (hmx : mx.toInt = (L.toInt % 16) * 4096 + (c1.toInt % 64) * 64 + (c2.toInt % 64) * 1) : own_eq (if (1 : Int32) < av then (if c1 < (if L = (224 : Int32) then (160 : Int32) else (128 : Int32)) then (-1 : Int32) else (if (if L = (224 : Int32) then (191 : Int32) else (if L = (237 : Int32) then (159 : Int32) else (191 : Int32))) < c1 then (-1 : Int32) else (if (2 : Int32) < av then (if c2 < (128 : Int32) then (-1 : Int32) else (if (191 : Int32) < c2 then (-1 : Int32) else (if L = (239 : Int32) then (if c1 = (191 : Int32) then (if (c2 = (190 : Int32) ∨ c2 = (191 : Int32)) then (-2 : Int32) else (3 : Int32)) else (3 : Int32)) else (3 : Int32)))) else (0 : Int32)))) else (0 : Int32)) (if ((128 ≤ c1.toInt ∧ c1.toInt < 192)) ∧ ((128 ≤ c2.toInt ∧ c2.toInt < 192)) then (if ¬ (mx < (2048 : Int32)) ∧ ((¬ ((65535 : Int32) < mn) ∧ (((mn < (55296 : Int32)) ∨ ((57343 : Int32) < mx))))) then (if mn = (65534 : Int32) then (-2 : Int32) else (if mn = (65535 : Int32) then (-2 : Int32) else (3 : Int32))) else (-1 : Int32)) else (-1 : Int32)) := by
  have em2 : (-2 : Int32).toInt = -2 := by decide
  have em1 : (-1 : Int32).toInt = -1 := by decide
  have e0 : (0 : Int32).toInt = 0 := by decide
  have e1 : (1 : Int32).toInt = 1 := by decide
  have e2 : (2 : Int32).toInt = 2 := by decide
  have e3 : (3 : Int32).toInt = 3 := by decide
  have e128 : (128 : Int32).toInt = 128 := by decide
  have e159 : (159 : Int32).toInt = 159 := by decide
  have e160 : (160 : Int32).toInt = 160 := by decide
  have e190 : (190 : Int32).toInt = 190 := by decide
  have e191 : (191 : Int32).toInt = 191 := by decide
  have e224 : (224 : Int32).toInt = 224 := by decide
  have e237 : (237 : Int32).toInt = 237 := by decide
  have e239 : (239 : Int32).toInt = 239 := by decide
  have e2048 : (2048 : Int32).toInt = 2048 := by decide
  have e55296 : (55296 : Int32).toInt = 55296 := by decide
  have e57343 : (57343 : Int32).toInt = 57343 := by decide
  have e65534 : (65534 : Int32).toInt = 65534 := by decide
  have e65535 : (65535 : Int32).toInt = 65535 := by decide
  have q0 : ((1 : Int32) < av) = True := by
    apply eq_true
    simp only [Int32.lt_iff_toInt_lt, ← Int32.toInt_inj, e1]
    omega
  have q1 : ((2 : Int32) < av) = True := by
    apply eq_true
    simp only [Int32.lt_iff_toInt_lt, ← Int32.toInt_inj, e2]
    omega
  simp only [q0, q1, if_true, if_false]
  unfold own_eq
  apply Int32.toInt_inj.mp
  simp only [own_iteT, Int32.lt_iff_toInt_lt, ← Int32.toInt_inj, em2, em1, e0, e1, e2, e3, e128, e159, e160, e190, e191, e224, e237, e239, e2048, e55296, e57343, e65534, e65535, if_true, if_false, not_false_eq_true, not_true_eq_false]
  repeat' split
  all_goals first | rfl | omega
set_option maxHeartbeats 4000000 in
theorem own_F3_1 (L c1 c2 c3 av mn mx : Int32) (hL : 240 ≤ L.toInt ∧ L.toInt < 248) (h1 : 0 ≤ c1.toInt ∧ c1.toInt < 256) (h2 : 0 ≤ c2.toInt ∧ c2.toInt < 256) (h3 : 0 ≤ c3.toInt ∧ c3.toInt < 256) (hav : 1 ≤ av.toInt ∧ av.toInt ≤ 4) (hk : av.toInt = 1) (hmn : mn.toInt = (L.toInt % 8) * 262144 + (0) * 4096 + (0) * 64 + (0) * 1) (hmx : mx.toInt = (L.toInt % 8) * 262144 + (63) * 4096 + (63) * 64 + (63) * 1) : own_eq (if L < (245 : Int32) then (if (1 : Int32) < av then (if c1 < (if L = (240 : Int32) then (144 : Int32) else (128 : Int32)) then (-1 : Int32) else (if (if L = (240 : Int32) then (191 : Int32) else (if L = (244 : Int32) then (143 : Int32) else (191 : Int32))) < c1 then (-1 : Int32) else (if (2 : Int32) < av then (if c2 < (128 : Int32) then (-1 : Int32) else (if (191 : Int32) < c2 then (-1 : Int32) else (if (3 : Int32) < av then (if c3 < (128 : Int32) then (-1 : Int32) else (if (191 : Int32) < c3 then (-1 : Int32) else (if L = (239 : Int32) then (if c1 = (191 : Int32) then (if (c2 = (190 : Int32) ∨ c2 = (191 : Int32)) then (-2 : Int32) else (4 : Int32)) else (4 : Int32)) else (4 : Int32)))) else (0 : Int32)))) else (0 : Int32)))) else (0 : Int32)) else (-1 : Int32)) (if ¬ (mx < (65536 : Int32)) ∧ (¬ ((1114111 : Int32) < mn)) then (0 : Int32) else (-1 : Int32)) := by
  have em2 : (-2 : Int32).toInt = -2 := by decide
  have em1 : (-1 : Int32).toInt = -1 := by decide
  have e0 : (0 : Int32).toInt = 0 := by decide
  have e1 : (1 : Int32).toInt = 1 := by decide
  have e2 : (2 : Int32).toInt = 2 := by decide
  have e3 : (3 : Int32).toInt = 3 := by decide
  have e4 : (4 : Int32).toInt = 4 := by decide
  have e128 : (128 : Int32).toInt = 128 := by decide
  have e143 : (143 : Int32).toInt = 143 := by decide
  have e144 : (144 : Int32).toInt = 144 := by decide
  have e190 : (190 : Int32).toInt = 190 := by decide
  have e191 : (191 : Int32).toInt = 191 := by decide
  have e239 : (239 : Int32).toInt = 239 := by decide
  have e240 : (240 : Int32).toInt = 240 := by decide
  have e244 : (244 : Int32).toInt = 244 := by decide
  have e245 : (245 : Int32).toInt = 245 := by decide
  have e65536 : (65536 : Int32).toInt = 65536 := by decide
  have e1114111 : (1114111 : Int32).toInt = 1114111 := by decide
  have q0 : ((1 : Int32) < av) = False := by
    apply eq_false
    simp only [Int32.lt_iff_toInt_lt, ← Int32.toInt_inj, e1]
    omega
  have q1 : ((2 : Int32) < av) = False := by
    apply eq_false
    simp only [Int32.lt_iff_toInt_lt, ← Int32.toInt_inj, e2]
    omega
  have q2 : ((3 : Int32) < av) = False := by
    apply eq_false
    simp only [Int32.lt_iff_toInt_lt, ← Int32.toInt_inj, e3]
    omega
  have q3 : (L = (239 : Int32)) = False := by
    apply eq_false
    simp only [Int32.lt_iff_toInt_lt, ← Int32.toInt_inj, e239]
    omega
  simp only [q0, q1, q2, q3, if_true, if_false]
  unfold own_eq
  apply Int32.toInt_inj.mp
  simp only [own_iteT, Int32.lt_iff_toInt_lt, ← Int32.toInt_inj, em2, em1, e0, e1, e2, e3, e4, e128, e143, e144, e190, e191, e239, e240, e244, e245, e65536, e1114111, if_true, if_false, not_false_eq_true, not_true_eq_false]
  repeat' split
  all_goals first | rfl | omega
set_option maxHeartbeats 4000000 in
theorem own_F3_2 (L c1 c2 c3 av mn mx : Int32) (hL : 240 ≤ L.toInt ∧ L.toInt < 248) (h1 : 0 ≤ c1.toInt ∧ c1.toInt < 256) (h2 : 0 ≤ c2.toInt ∧ c2.toInt < 256) (h3 : 0 ≤ c3.toInt ∧ c3.toInt < 256) (hav : 1 ≤ av.toInt ∧ av.toInt ≤ 4) (hk : av.toInt = 2) (hmn : mn.toInt = (L.toInt % 8) * 262144 + (c1.toInt % 64) * 4096 + (0) * 64 + (0) * 1) (hmx : mx.toInt = (L.toInt % 8) * 262144 + (c1.toInt % 64) * 4096 + (63) * 64 + (63) * 1) : own_eq (if L < (245 : Int32) then (if (1 : Int32) < av then (if c1 < (if L = (240 : Int32) then (144 : Int32) else (128 : Int32)) then (-1 : Int32) else (if (if L = (240 : Int32) then (191 : Int32) else (if L = (244 : Int32) then (143 : Int32) else (191 : Int32))) < c1 then (-1 : Int32) else (if (2 : Int32) < av then (if c2 < (128 : Int32) then (-1 : Int32) else (if (191 : Int32) < c2 then (-1 : Int32) else (if (3 : Int32) < av then (if c3 < (128 : Int32) then (-1 : Int32) else (if (191 : Int32) < c3 then (-1 : Int32) else (if L = (239 : Int32) then (if c1 = (191 : Int32) then (if (c2 = (190 : Int32) ∨ c2 = (191 : Int32)) then (-2 : Int32) else (4 : Int32)) else (4 : Int32)) else (4 : Int32)))) else (0 : Int32)))) else (0 : Int32)))) else (0 : Int32)) else (-1 : Int32)) (if (128 ≤ c1.toInt ∧ c1.toInt < 192) then (if ¬ (mx < (65536 : Int32)) ∧ (¬ ((1114111 : Int32) < mn)) then (0 : Int32) else (-1 : Int32)) else (-1 : Int32)) := by
  have em2 : (-2 : Int32).toInt = -2 := by decide
  have em1 : (-1 : Int32).toInt = -1 := by decide
  have e0 : (0 : Int32).toInt = 0 := by decide
  have e1 : (1 : Int32).toInt = 1 := by decide
  have e2 : (2 : Int32).toInt = 2 := by decide
  have e3 : (3 : Int32).toInt = 3 := by decide
  have e4 : (4 : Int32).toInt = 4 := by decide
  have e128 : (128 : Int32).toInt = 128 := by decide
  have e143 : (143 : Int32).toInt = 143 := by decide
  have e144 : (144 : Int32).toInt = 144 := by decide
  have e190 : (190 : Int32).toInt = 190 := by decide
  have e191 : (191 : Int32).toInt = 191 := by decide
  have e239 : (239 : Int32).toInt = 239 := by decide
  have e240 : (240 : Int32).toInt = 240 := by decide
  have e244 : (244 : Int32).toInt = 244 := by decide
  have e245 : (245 : Int32).toInt = 245 := by decide
  have e65536 : (65536 : Int32).toInt = 65536 := by decide
  have e1114111 : (1114111 : Int32).toInt = 1114111 := by decide
  have q0 : ((1 : Int32) < av) = True := by
    apply eq_true
    simp only [Int32.lt_iff_toInt_lt, ← Int32.toInt_inj, e1]
    omega
  have q1 : ((2 : Int32) < av) = False := by
    apply eq_false
    simp only [Int32.lt_iff_toInt_lt, ← Int32.toInt_inj, e2]
    omega
  have q2 : ((3 : Int32) < av) = False := by
    apply eq_false
    simp only [Int32.lt_iff_toInt_lt, ← Int32.toInt_inj, e3]
    omega
  have q3 : (L = (239 : Int32)) = False := by
    apply eq_false
    simp only [Int32.lt_iff_toInt_lt, ← Int32.toInt_inj, e239]
    omega
  simp only [q0, q1, q2, q3, if_true, if_false]
  unfold own_eq
  apply Int32.toInt_inj.mp
  simp only [own_iteT, Int32.lt_iff_toInt_lt, ← Int32.toInt_inj, em2, em1, e0, e1, e2, e3, e4, e128, e143, e144, e190, e191, e239, e240, e244, e245, e65536, e1114111, if_true, if_false, not_false_eq_true, not_true_eq_false]
  repeat' split
  all_goals first | rfl | omega
set_option maxHeartbeats 4000000 in
theorem own_F3_3 (L c1 c2 c3 av mn mx : Int32) (hL : 240 ≤ L.toInt ∧ L.toInt < 248) (h1 : 0 ≤ c1.toInt ∧ c1.toInt < 256) (h2 : 0 ≤ c2.toInt ∧ c2.toInt < 256) (h3 : 0 ≤ c3.toInt ∧ c3.toInt < 256) (hav : 1 ≤ av.toInt ∧ av.toInt ≤ 4) (hk : av.toInt = 3) (hmn : mn.toInt = (L.toInt % 8) * 262144 + (c1.toInt % 64) * 4096 + (c2.toInt % 64) * 64 + (0) * 1) (hmx : mx.toInt = (L.toInt % 8) * 262144 + (c1.toInt % 64) * 4096 + (c2.toInt % 64) * 64 + (63) * 1) : own_eq (if L < (245 : Int32) then (if (1 : Int32) < av then (if c1 < (if L = (240 : Int32) then (144 : Int32) else (128 : Int32)) then (-1 : Int32) else (if (if L = (240 : Int32) then (191 : Int32) else (if L = (244 : Int32) then (143 : Int32) else (191 : Int32))) < c1 then (-1 : Int32) else (if (2 : Int32) < av then (if c2 < (128 : Int32) then (-1 : Int32) else (if (191 : Int32) < c2 then (-1 : Int32) else (if (3 : Int32) < av then (if c3 < (128 : Int32) then (-1 : Int32) else (if (191 : Int32) < c3 then (-1 : Int32) else (if L = (239 : Int32) then (if c1 = (191 : Int32) then (if (c2 = (190 : Int32) ∨ c2 = (191 : Int32)) then (-2 : Int32) else (4 : Int32)) else (4 : Int32)) else (4 : Int32)))) else (0 : Int32)))) else (0 : Int32)))) else (0 : Int32)) else (-1 : Int32)) (if ((128 ≤ c1.toInt ∧ c1.toInt < 192)) ∧ ((128 ≤ c2.toInt ∧ c2.toInt < 192)) then (if ¬ (mx < (65536 : Int32)) ∧ (¬ ((1114111 : Int32) < mn)) then (0 : Int32) else (-1 : Int32)) else (-1 : Int32)) := by
  have em2 : (-2 : Int32).toInt = -2 := by decide
  have em1 : (-1 : Int32).toInt = -1 := by decide
  have e0 : (0 : Int32).toInt = 0 := by decide
  have e1 : (1 : Int32).toInt = 1 := by decide
  have e2 : (2 : Int32).toInt = 2 := by decide
  have e3 : (3 : Int32).toInt = 3 := by decide
  have e4 : (4 : Int32).toInt = 4 := by decide
  have e128 : (128 : Int32).toInt = 128 := by decide
  have e143 : (143 : Int32).toInt = 143 := by decide
  have e144 : (144 : Int32).toInt = 144 := by decide
  have e190 : (190 : Int32).toInt = 190 := by decide
  have e191 : (191 : Int32).toInt = 191 := by decide
  have e239 : (239 : Int32).toInt = 239 := by decide
  have e240 : (240 : Int32).toInt = 240 := by decide
  have e244 : (244 : Int32).toInt = 244 := by decide
  have e245 : (245 : Int32).toInt = 245 := by decide
  have e65536 : (65536 : Int32).toInt = 65536 := by decide
  have e1114111 : (1114111 : Int32).toInt = 1114111 := by decide
  have q0 : ((1 : Int32) < av) = True := by
    apply eq_true
    simp only [Int32.lt_iff_toInt_lt, ← Int32.toInt_inj, e1]
    omega
  have q1 : ((2 : Int32) < av) = True := by
    apply eq_true
    simp only [Int32.lt_iff_toInt_lt, ← Int32.toInt_inj, e2]
    omega
  have q2 : ((3 : Int32) < av) = False := by
    apply eq_false
    simp only [Int32.lt_iff_toInt_lt, ← Int32.toInt_inj, e3]
    omega
  have q3 : (L = (239 : Int32)) = False := by
    apply eq_false
    simp only [Int32.lt_iff_toInt_lt, ← Int32.toInt_inj, e239]
    omega
  simp only [q0, q1, q2, q3, if_true, if_false]
  unfold own_eq
  apply Int32.toInt_inj.mp
  simp only [own_iteT, Int32.lt_iff_toInt_lt, ← Int32.toInt_inj, em2, em1, e0, e1, e2, e3, e4, e128, e143, e144, e190, e191, e239, e240, e244, e245, e65536, e1114111, if_true, if_false, not_false_eq_true, not_true_eq_false]
  repeat' split
  all_goals first | rfl | omega
set_option maxHeartbeats 4000000 in
theorem own_F3_4 (L c1 c2 c3 av mn mx : Int32) (hL : 240 ≤ L.toInt ∧ L.toInt < 248) (h1 : 0 ≤ c1.toInt ∧ c1.toInt < 256) (h2 : 0 ≤ c2.toInt ∧ c2.toInt < 256) (h3 : 0 ≤ c3.toInt ∧ c3.toInt < 256) (hav : 1 ≤ av.toInt ∧ av.toInt ≤ 4) (hk : 4 ≤ av.toInt) (hmn : mn.toInt = (L.toInt % 8) * 262144 + (c1.toInt % 64) * 4096 + (c2.toInt % 64) * 64 + (c3.toInt % 64) * 1) (hmx : mx.toInt = (L.toInt % 8) * 262144 + (c1.toInt % 64) * 4096 + (c2.toInt % 64) * 64 + (c3.toInt % 64) * 1) : own_eq (if L < (245 : Int32) then (if (1 : Int32) < av then (if c1 < (if L = (240 : Int32) then (144 : Int32) else (128 : Int32)) then (-1 : Int32) else (if (if L = (240 : Int32) then (191 : Int32) else (if L = (244 : Int32) then (143 : Int32) else (191 : Int32))) < c1 then (-1 : Int32) else (if (2 : Int32) < av then (if c2 < (128 : Int32) then (-1 : Int32) else (if (191 : Int32) < c2 then (-1 : Int32) else (if (3 : Int32) < av then (if c3 < (128 : Int32) then (-1 : Int32) else (if (191 : Int32) < c3 then (-1 : Int32) else (if L = (239 : Int32) then (if c1 = (191 : Int32) then (if (c2 = (190 : Int32) ∨ c2 = (191 : Int32)) then (-2 : Int32) else (4 : Int32)) else (4 : Int32)) else (4 : Int32)))) else (0 : Int32)))) else (0 : Int32)))) else (0 : Int32)) else (-1 : Int32)) (if ((128 ≤ c1.toInt ∧ c1.toInt < 192)) ∧ ((((128 ≤ c2.toInt ∧ c2.toInt < 192)) ∧ ((128 ≤ c3.toInt ∧ c3.toInt < 192)))) then (if ¬ (mx < (65536 : Int32)) ∧ (¬ ((1114111 : Int32) < mn)) then (4 : Int32) else (-1 : Int32)) else (-1 : Int32)) := by
  have em2 : (-2 : Int32).toInt = -2 := by decide
  have em1 : (-1 : Int32).toInt = -1 := by decide
  have e0 : (0 : Int32).toInt = 0 := by decide
  have e1 : (1 : Int32).toInt = 1 := by decide
  have e2 : (2 : Int32).toInt = 2 := by decide
  have e3 : (3 : Int32).toInt = 3 := by decide
  have e4 : (4 : Int32).toInt = 4 := by decide
  have e128 : (128 : Int32).toInt = 128 := by decide
  have e143 : (143 : Int32).toInt = 143 := by decide
  have e144 : (144 : Int32).toInt = 144 := by decide
  have e190 : (190 : Int32).toInt = 190 := by decide
  have e191 : (191 : Int32).toInt = 191 := by decide
  have e239 : (239 : Int32).toInt = 239 := by decide
  have e240 : (240 : Int32).toInt = 240 := by decide
  have e244 : (244 : Int32).toInt = 244 := by decide
  have e245 : (245 : Int32).toInt = 245 := by decide
  have e65536 : (65536 : Int32).toInt = 65536 := by decide
  have e1114111 : (1114111 : Int32).toInt = 1114111 := by decide
  have q0 : ((1 : Int32) < av) = True := by
    apply eq_true
    simp only [Int32.lt_iff_toInt_lt, ← Int32.toInt_inj, e1]
    omega
  have q1 : ((2 : Int32) < av) = True := by
    apply eq_true
    simp only [Int32.lt_iff_toInt_lt, ← Int32.toInt_inj, e2]
    omega
  have q2 : ((3 : Int32) < av) = True := by
    apply eq_true
    simp only [Int32.lt_iff_toInt_lt, ← Int32.toInt_inj, e3]
    omega
  have q3 : (L = (239 : Int32)) = False := by
    apply eq_false
    simp only [Int32.lt_iff_toInt_lt, ← Int32.toInt_inj, e239]
    omega
  simp only [q0, q1, q2, q3, if_true, if_false]
  unfold own_eq
  apply Int32.toInt_inj.mp
  simp only [own_iteT, Int32.lt_iff_toInt_lt, ← Int32.toInt_inj, em2, em1, e0, e1, e2, e3, e4, e128, e143, e144, e190, e191, e239, e240, e244, e245, e65536, e1114111, if_true, if_false, not_false_eq_true, not_true_eq_false]
  repeat' split
  all_goals first | rfl | omega
set_option maxHeartbeats 4000000 in
theorem own_F4_0 (L c1 c2 c3 av mn mx : Int32) (hL : 248 ≤ L.toInt ∧ L.toInt < 256) (h1 : 0 ≤ c1.toInt ∧ c1.toInt < 256) (h2 : 0 ≤ c2.toInt ∧ c2.toInt < 256) (h3 : 0 ≤ c3.toInt ∧ c3.toInt < 256) (hav : 1 ≤ av.toInt ∧ av.toInt ≤ 4) : own_eq (if L < (245 : Int32) then (if (1 : Int32) < av then (if c1 < (if L = (240 : Int32) then (144 : Int32) else (128 : Int32)) then (-1 : Int32) else (if (if L = (240 : Int32) then (191 : Int32) else (if L = (244 : Int32) then (143 : Int32) else (191 : Int32))) < c1 then (-1 : Int32) else (if (2 : Int32) < av then (if c2 < (128 : Int32) then (-1 : Int32) else (if (191 : Int32) < c2 then (-1 : Int32) else (if (3 : Int32) < av then (if c3 < (128 : Int32) then (-1 : Int32) else (if (191 : Int32) < c3 then (-1 : Int32) else (if L = (239 : Int32) then (if c1 = (191 : Int32) then (if (c2 = (190 : Int32) ∨ c2 = (191 : Int32)) then (-2 : Int32) else (4 : Int32)) else (4 : Int32)) else (4 : Int32)))) else (0 : Int32)))) else (0 : Int32)))) else (0 : Int32)) else (-1 : Int32)) (-1 : Int32) := by
  have em2 : (-2 : Int32).toInt = -2 := by decide
  have em1 : (-1 : Int32).toInt = -1 := by decide
  have e0 : (0 : Int32).toInt = 0 := by decide
  have e1 : (1 : Int32).toInt = 1 := by decide
  have e2 : (2 : Int32).toInt = 2 := by decide
  have e3 : (3 : Int32).toInt = 3 := by decide
  have e4 : (4 : Int32).toInt = 4 := by decide
  have e5 : (5 : Int32).toInt = 5 := by decide
  have e128 : (128 : Int32).toInt = 128 := by decide
  have e143 : (143 : Int32).toInt = 143 := by decide
  have e144 : (144 : Int32).toInt = 144 := by decide
  have e190 : (190 : Int32).toInt = 190 := by decide
  have e191 : (191 : Int32).toInt = 191 := by decide
  have e239 : (239 : Int32).toInt = 239 := by decide
  have e240 : (240 : Int32).toInt = 240 := by decide
  have e244 : (244 : Int32).toInt = 244 := by decide
  have e245 : (245 : Int32).toInt = 245 := by decide
  have q0 : (L < (245 : Int32)) = False := by
    apply eq_false
    simp only [Int32.lt_iff_toInt_lt, ← Int32.toInt_inj, e245]
    omega
  have q1 : (L = (240 : Int32)) = False := by
    apply eq_false
    simp only [Int32.lt_iff_toInt_lt, ← Int32.toInt_inj, e240]
    omega
  have q2 : (L = (244 : Int32)) = False := by
    apply eq_false
    simp only [Int32.lt_iff_toInt_lt, ← Int32.toInt_inj, e244]
    omega
  have q3 : (L = (239 : Int32)) = False := by
    apply eq_false
    simp only [Int32.lt_iff_toInt_lt, ← Int32.toInt_inj, e239]
    omega
  simp only [q0, q1, q2, q3, if_true, if_false]
  unfold own_eq
  apply Int32.toInt_inj.mp
  simp only [own_iteT, Int32.lt_iff_toInt_lt, ← Int32.toInt_inj, em2, em1, e0, e1, e2, e3, e4, e5, e128, e143, e144, e190, e191, e239, e240, e244, e245, if_true, if_false, not_false_eq_true, not_true_eq_false]
  repeat' split
  all_goals first | rfl | omega
theorem own_ef0 (m : MethodId) (p0 : Int32) (p1 : Int32) (p2 : Int32) (p3 : Int32) (p4 : Int32) (p5 : Int32) : entryFrame m #[(.int p0), (.int p1), (.int p2), (.int p3), (.int p4), (.int p5)] maxLocals = mkF m 0 #[iv p0, iv p1, iv p2, iv p3, iv p4, iv p5, .unset, .unset, .unset, .unset, .unset, .unset, .unset, .unset, .unset, .unset, .unset, .unset, .unset, .unset, .unset, .unset, .unset, .unset, .unset, .unset, .unset, .unset] [] := by first | (simp [entryFrame, mkF, argsToLocals, Value.category, maxLocals]; done) | rfl
def own_Q0 (Z : State) (p0 : Int32) (p1 : Int32) (p2 : Int32) (p3 : Int32) (p4 : Int32) (p5 : Int32) (h0 : Heap) (n0 : Nat) (v : Option Value) (h : Heap) (L : List Loc) : Prop := (v = some (.int (1 : Int32))) ∧ (Fr n0 L)
set_option maxRecDepth 65536 in
set_option maxHeartbeats 40000000 in
theorem own_rm0 (l : Launch) (Z : State) (a0 : Array Value) (hw : ∀ d ∈ tables_1, d.before a0 Z = true) (ws : List Jvm.Cond) (p0 : Int32) (p1 : Int32) (p2 : Int32) (p3 : Int32) (p4 : Int32) (p5 : Int32) (h0 : Heap) (n0 : Nat) (Z0 : n0 ≤ h0.size) :
    MetFree l x (head1 (Jvm.Cond.code x code maxLocals ret :: ws) room_1) (fun a U => a = #[(.int p0), (.int p1), (.int p2), (.int p3), (.int p4), (.int p5)] ∧ Z.Warmed39 U.vm ∧ U.heap = h0) (fun _ _ _ _ _ => True) (fun _ U o U' => ∃ v L, o = .returned v ∧ own_Q0 Z p0 p1 p2 p3 p4 p5 h0 n0 v U'.heap L ∧ FrameEnd U o U' L room_1.cells room_1.slots) := by
  refine MetFree.of_bodySF (plainFor_of_name own_pn0) hisR ?_
  intro p e s m args below meth c s₁ Bd hml0 hP hK
  obtain ⟨rfl, hZ, hh⟩ := hP
  have hx := Bd.exec
  have hby := Bd.bytes
  have hml : c.maxLocals = 28 := hml0
  have hown : s.vm.findClass "com/example/psyche/psyche/XmlCharsSequenceLengthPinLaw" = some m.cls := findClass_of_methodNamed Bd.named
  have hnm := (name_of_methodNamed Bd.named Bd.method).1
  have X0 : Stand p l e room_1 s m #[(.int p0), (.int p1), (.int p2), (.int p3), (.int p4), (.int p5)] below meth c s₁ [] 0 0 := Stand.of_body Bd
  have e0 : s₁.heap = h0 := by rw [← hh, Bd.state]; rfl
  have N0 := Fr.nil n0
  have pre0 : ∀ t, Steps p.tables e below (s₁.setTop (mkF m 0 #[iv p0, iv p1, iv p2, iv p3, iv p4, iv p5, .unset, .unset, .unset, .unset, .unset, .unset, .unset, .unset, .unset, .unset, .unset, .unset, .unset, .unset, .unset, .unset, .unset, .unset, .unset, .unset, .unset, .unset] [])) t → Steps p.tables e below (s₁.setTop (entryFrame m #[(.int p0), (.int p1), (.int p2), (.int p3), (.int p4), (.int p5)] maxLocals)) t := fun t k => castTop (own_ef0 m p0 p1 p2 p3 p4 p5) k
  refine own_run (own_st pre0 ?_)
  obtain ⟨v4, hv4⟩ : ∃ z : Int32, z = (p4 &&& (3 : Int32)) := ⟨_, rfl⟩
  obtain ⟨v14, hv14⟩ : ∃ z : Int32, z = ((((p4.toUInt32 >>> ((2 : Int32) &&& 31).toUInt32).toInt32) &&& (3 : Int32)) + (1 : Int32)) := ⟨_, rfl⟩
  obtain ⟨v21, hv21⟩ : ∃ z : Int32, z = (v4 + v14) := ⟨_, rfl⟩
  refine own_st (B := s₁.setTop (mkF m 23 #[iv p0, iv p1, iv p2, iv p3, iv p4, iv p5, iv v4, iv v14, iv v21, .unset, .unset, .unset, .unset, .unset, .unset, .unset, .unset, .unset, .unset, .unset, .unset, .unset, .unset, .unset, .unset, .unset, .unset, .unset] [])) (fun target kt => ?_) ?_
  · show Steps p.tables e below (s₁.setTop (mkF m 0 #[iv p0, iv p1, iv p2, iv p3, iv p4, iv p5, .unset, .unset, .unset, .unset, .unset, .unset, .unset, .unset, .unset, .unset, .unset, .unset, .unset, .unset, .unset, .unset, .unset, .unset, .unset, .unset, .unset, .unset] [])) target
    refine XS.iload X0.here hx rfl (hb hby at_0) rfl ?_
    refine XS.iconst X0.here hx rfl (hb hby at_2) ?_
    refine XS.iand X0.here hx rfl (hb hby at_3) rfl ?_
    refine XS.istore X0.here hx rfl (hb hby at_4) rfl (l' := #[iv p0, iv p1, iv p2, iv p3, iv p4, iv p5, iv v4, .unset, .unset, .unset, .unset, .unset, .unset, .unset, .unset, .unset, .unset, .unset, .unset, .unset, .unset, .unset, .unset, .unset, .unset, .unset, .unset, .unset]) (by subst hv4; rfl) ?_
    refine XS.iload X0.here hx rfl (hb hby at_6) rfl ?_
    refine XS.iconst X0.here hx rfl (hb hby at_8) ?_
    refine XS.iushr X0.here hx rfl (hb hby at_9) rfl ?_
    refine XS.iconst X0.here hx rfl (hb hby at_10) ?_
    show Steps p.tables e below (s₁.setTop (mkF m 11 #[iv p0, iv p1, iv p2, iv p3, iv p4, iv p5, iv v4, .unset, .unset, .unset, .unset, .unset, .unset, .unset, .unset, .unset, .unset, .unset, .unset, .unset, .unset, .unset, .unset, .unset, .unset, .unset, .unset, .unset] [(.int (3 : Int32)), (.int ((p4.toUInt32 >>> ((2 : Int32) &&& 31).toUInt32).toInt32))])) target
    refine XS.iand X0.here hx rfl (hb hby at_11) rfl ?_
    refine XS.iconst X0.here hx rfl (hb hby at_12) ?_
    refine XS.iadd X0.here hx rfl (hb hby at_13) rfl ?_
    refine XS.istore X0.here hx rfl (hb hby at_14) rfl (l' := #[iv p0, iv p1, iv p2, iv p3, iv p4, iv p5, iv v4, iv v14, .unset, .unset, .unset, .unset, .unset, .unset, .unset, .unset, .unset, .unset, .unset, .unset, .unset, .unset, .unset, .unset, .unset, .unset, .unset, .unset]) (by subst hv14; rfl) ?_
    refine XS.iload X0.here hx rfl (hb hby at_16) rfl ?_
    refine XS.iload X0.here hx rfl (hb hby at_18) rfl ?_
    refine XS.iadd X0.here hx rfl (hb hby at_20) rfl ?_
    refine XS.istore X0.here hx rfl (hb hby at_21) rfl (l' := #[iv p0, iv p1, iv p2, iv p3, iv p4, iv p5, iv v4, iv v14, iv v21, .unset, .unset, .unset, .unset, .unset, .unset, .unset, .unset, .unset, .unset, .unset, .unset, .unset, .unset, .unset, .unset, .unset, .unset, .unset]) (by subst hv21; rfl) ?_
    exact kt
  have hav : 1 ≤ v14.toInt ∧ v14.toInt ≤ 4 := by rw [hv14]; exact own_av p4
  obtain ⟨v26, hv26⟩ : ∃ z : Int32, z = (p5.toInt8.toInt32) := ⟨_, rfl⟩
  refine own_st (B := s₁.setTop (mkF m 30 #[iv p0, iv p1, iv p2, iv p3, iv p4, iv p5, iv v4, iv v14, iv v21, iv v26, .unset, .unset, .unset, .unset, .unset, .unset, .unset, .unset, .unset, .unset, .unset, .unset, .unset, .unset, .unset, .unset, .unset, .unset] [(.int (8 : Int32))])) (fun target kt => ?_) ?_
  · show Steps p.tables e below (s₁.setTop (mkF m 23 #[iv p0, iv p1, iv p2, iv p3, iv p4, iv p5, iv v4, iv v14, iv v21, .unset, .unset, .unset, .unset, .unset, .unset, .unset, .unset, .unset, .unset, .unset, .unset, .unset, .unset, .unset, .unset, .unset, .unset, .unset] [])) target
    refine XS.iload X0.here hx rfl (hb hby at_23) rfl ?_
    refine XS.i2b X0.here hx rfl (hb hby at_25) rfl ?_
    refine XS.istore X0.here hx rfl (hb hby at_26) rfl (l' := #[iv p0, iv p1, iv p2, iv p3, iv p4, iv p5, iv v4, iv v14, iv v21, iv v26, .unset, .unset, .unset, .unset, .unset, .unset, .unset, .unset, .unset, .unset, .unset, .unset, .unset, .unset, .unset, .unset, .unset, .unset]) (by subst hv26; rfl) ?_
    refine XS.bipush X0.here hx rfl (hb hby at_28) ?_
    exact kt
  obtain ⟨Tg30, hg30, kg30, Xg30, eg30, Eg30, Ag30, stg30⟩ := newP X0 hx hZ (hw _ (List.mem_of_getElem? (i := 0) rfl)) e0 (g := (mkF m 30 #[iv p0, iv p1, iv p2, iv p3, iv p4, iv p5, iv v4, iv v14, iv v21, iv v26, .unset, .unset, .unset, .unset, .unset, .unset, .unset, .unset, .unset, .unset, .unset, .unset, .unset, .unset, .unset, .unset, .unset, .unset] [(.int (8 : Int32))])) rfl (hb hby at_30) rfl (by decide) (cap := 8) (by decide) (by decide) (by decide) (by decide)
  obtain ⟨b30, gg30⟩ : ∃ z, z = h0.size := ⟨_, rfl⟩
  rw [← gg30] at Ag30 stg30
  refine own_st stg30 ?_
  have g_b30 : n0 ≤ b30 := Nat.le_trans Z0 (Nat.le_of_eq gg30.symm)
  have Zz : n0 ≤ hg30.size := Nat.le_trans Z0 Eg30.1
  have F : own_RayB Z hg30 b30 8 (fun _ => (0 : Int32)) := own_RayB_new Ag30 (by decide) (by decide)
  refine own_st (B := Tg30.setTop (mkF m 39 #[iv p0, iv p1, iv p2, iv p3, iv p4, iv p5, iv v4, iv v14, iv v21, iv v26, rv b30, .unset, .unset, .unset, .unset, .unset, .unset, .unset, .unset, .unset, .unset, .unset, .unset, .unset, .unset, .unset, .unset, .unset] [(.int v26), (.int (0 : Int32)), (.ref b30)])) (fun target kt => ?_) ?_
  · show Steps p.tables e below (Tg30.setTop (mkF m 32 #[iv p0, iv p1, iv p2, iv p3, iv p4, iv p5, iv v4, iv v14, iv v21, iv v26, .unset, .unset, .unset, .unset, .unset, .unset, .unset, .unset, .unset, .unset, .unset, .unset, .unset, .unset, .unset, .unset, .unset, .unset] [(.ref b30)])) target
    refine XS.astore Xg30.here hx rfl (hb hby at_32) rfl rfl (l' := #[iv p0, iv p1, iv p2, iv p3, iv p4, iv p5, iv v4, iv v14, iv v21, iv v26, rv b30, .unset, .unset, .unset, .unset, .unset, .unset, .unset, .unset, .unset, .unset, .unset, .unset, .unset, .unset, .unset, .unset, .unset]) rfl ?_
    refine XS.aload Xg30.here hx rfl (hb hby at_34) rfl rfl ?_
    refine XS.iconst Xg30.here hx rfl (hb hby at_36) ?_
    refine XS.iload Xg30.here hx rfl (hb hby at_37) rfl ?_
    exact kt
  obtain ⟨clg39, Arg39, Szg39, -⟩ := id F
  have hing39 : ¬ ((0 : Int32) < 0 ∨ clg39.slots.size ≤ ((0 : Int32)).toNatClampNeg) := own_inb Szg39 (by decide)
  obtain ⟨Tg39, hg39, Xg39, eg39, Wg39, stg39⟩ := stB Xg30 hx hZ eg30 Arg39 (j := (0 : Int32)) hing39 (g := (mkF m 39 #[iv p0, iv p1, iv p2, iv p3, iv p4, iv p5, iv v4, iv v14, iv v21, iv v26, rv b30, .unset, .unset, .unset, .unset, .unset, .unset, .unset, .unset, .unset, .unset, .unset, .unset, .unset, .unset, .unset, .unset, .unset] [(.int v26), (.int (0 : Int32)), (.ref b30)])) rfl rfl (hb hby at_39)
  refine own_st stg39 ?_
  have Ng39 := Fr.snoc Xg39 N0 g_b30
  obtain ⟨a39, ha39⟩ : ∃ gz : Nat → Int32, gz = fun i => if i = 0 then (nar .byte v26) else (fun _ => (0 : Int32)) i := ⟨_, rfl⟩
  have Zz_1 : n0 ≤ hg39.size := Nat.le_trans Zz (Keep.of_wr Wg39).1
  have F_2 : own_RayB Z hg39 b30 8 a39 := by rw [ha39]; exact own_RayB_set F Wg39 (by decide) (fits_nar_byte _)
  refine own_st (B := Tg39.setTop (mkF m 45 #[iv p0, iv p1, iv p2, iv p3, iv p4, iv p5, iv v4, iv v14, iv v21, iv v26, rv b30, .unset, .unset, .unset, .unset, .unset, .unset, .unset, .unset, .unset, .unset, .unset, .unset, .unset, .unset, .unset, .unset, .unset] [(.int v26), (.int (1 : Int32)), (.ref b30)])) (fun target kt => ?_) ?_
  · show Steps p.tables e below (Tg39.setTop (mkF m 40 #[iv p0, iv p1, iv p2, iv p3, iv p4, iv p5, iv v4, iv v14, iv v21, iv v26, rv b30, .unset, .unset, .unset, .unset, .unset, .unset, .unset, .unset, .unset, .unset, .unset, .unset, .unset, .unset, .unset, .unset, .unset] [])) target
    refine XS.aload Xg39.here hx rfl (hb hby at_40) rfl rfl ?_
    refine XS.iconst Xg39.here hx rfl (hb hby at_42) ?_
    refine XS.iload Xg39.here hx rfl (hb hby at_43) rfl ?_
    exact kt
  obtain ⟨clg45, Arg45, Szg45, -⟩ := id F_2
  have hing45 : ¬ ((1 : Int32) < 0 ∨ clg45.slots.size ≤ ((1 : Int32)).toNatClampNeg) := own_inb Szg45 (by decide)
  obtain ⟨Tg45, hg45, Xg45, eg45, Wg45, stg45⟩ := stB Xg39 hx hZ eg39 Arg45 (j := (1 : Int32)) hing45 (g := (mkF m 45 #[iv p0, iv p1, iv p2, iv p3, iv p4, iv p5, iv v4, iv v14, iv v21, iv v26, rv b30, .unset, .unset, .unset, .unset, .unset, .unset, .unset, .unset, .unset, .unset, .unset, .unset, .unset, .unset, .unset, .unset, .unset] [(.int v26), (.int (1 : Int32)), (.ref b30)])) rfl rfl (hb hby at_45)
  refine own_st stg45 ?_
  have Ng45 := Fr.snoc Xg45 Ng39 g_b30
  obtain ⟨a45, ha45⟩ : ∃ gz : Nat → Int32, gz = fun i => if i = 1 then (nar .byte v26) else a39 i := ⟨_, rfl⟩
  have Zz_2 : n0 ≤ hg45.size := Nat.le_trans Zz_1 (Keep.of_wr Wg45).1
  have F_4 : own_RayB Z hg45 b30 8 a45 := by rw [ha45]; exact own_RayB_set F_2 Wg45 (by decide) (fits_nar_byte _)
  refine own_st (B := Tg45.setTop (mkF m 51 #[iv p0, iv p1, iv p2, iv p3, iv p4, iv p5, iv v4, iv v14, iv v21, iv v26, rv b30, .unset, .unset, .unset, .unset, .unset, .unset, .unset, .unset, .unset, .unset, .unset, .unset, .unset, .unset, .unset, .unset, .unset] [(.int v26), (.int (2 : Int32)), (.ref b30)])) (fun target kt => ?_) ?_
  · show Steps p.tables e below (Tg45.setTop (mkF m 46 #[iv p0, iv p1, iv p2, iv p3, iv p4, iv p5, iv v4, iv v14, iv v21, iv v26, rv b30, .unset, .unset, .unset, .unset, .unset, .unset, .unset, .unset, .unset, .unset, .unset, .unset, .unset, .unset, .unset, .unset, .unset] [])) target
    refine XS.aload Xg45.here hx rfl (hb hby at_46) rfl rfl ?_
    refine XS.iconst Xg45.here hx rfl (hb hby at_48) ?_
    refine XS.iload Xg45.here hx rfl (hb hby at_49) rfl ?_
    exact kt
  obtain ⟨clg51, Arg51, Szg51, -⟩ := id F_4
  have hing51 : ¬ ((2 : Int32) < 0 ∨ clg51.slots.size ≤ ((2 : Int32)).toNatClampNeg) := own_inb Szg51 (by decide)
  obtain ⟨Tg51, hg51, Xg51, eg51, Wg51, stg51⟩ := stB Xg45 hx hZ eg45 Arg51 (j := (2 : Int32)) hing51 (g := (mkF m 51 #[iv p0, iv p1, iv p2, iv p3, iv p4, iv p5, iv v4, iv v14, iv v21, iv v26, rv b30, .unset, .unset, .unset, .unset, .unset, .unset, .unset, .unset, .unset, .unset, .unset, .unset, .unset, .unset, .unset, .unset, .unset] [(.int v26), (.int (2 : Int32)), (.ref b30)])) rfl rfl (hb hby at_51)
  refine own_st stg51 ?_
  have Ng51 := Fr.snoc Xg51 Ng45 g_b30
  obtain ⟨a51, ha51⟩ : ∃ gz : Nat → Int32, gz = fun i => if i = 2 then (nar .byte v26) else a45 i := ⟨_, rfl⟩
  have Zz_3 : n0 ≤ hg51.size := Nat.le_trans Zz_2 (Keep.of_wr Wg51).1
  have F_6 : own_RayB Z hg51 b30 8 a51 := by rw [ha51]; exact own_RayB_set F_4 Wg51 (by decide) (fits_nar_byte _)
  refine own_st (B := Tg51.setTop (mkF m 57 #[iv p0, iv p1, iv p2, iv p3, iv p4, iv p5, iv v4, iv v14, iv v21, iv v26, rv b30, .unset, .unset, .unset, .unset, .unset, .unset, .unset, .unset, .unset, .unset, .unset, .unset, .unset, .unset, .unset, .unset, .unset] [(.int v26), (.int (3 : Int32)), (.ref b30)])) (fun target kt => ?_) ?_
  · show Steps p.tables e below (Tg51.setTop (mkF m 52 #[iv p0, iv p1, iv p2, iv p3, iv p4, iv p5, iv v4, iv v14, iv v21, iv v26, rv b30, .unset, .unset, .unset, .unset, .unset, .unset, .unset, .unset, .unset, .unset, .unset, .unset, .unset, .unset, .unset, .unset, .unset] [])) target
    refine XS.aload Xg51.here hx rfl (hb hby at_52) rfl rfl ?_
    refine XS.iconst Xg51.here hx rfl (hb hby at_54) ?_
    refine XS.iload Xg51.here hx rfl (hb hby at_55) rfl ?_
    exact kt
  obtain ⟨clg57, Arg57, Szg57, -⟩ := id F_6
  have hing57 : ¬ ((3 : Int32) < 0 ∨ clg57.slots.size ≤ ((3 : Int32)).toNatClampNeg) := own_inb Szg57 (by decide)
  obtain ⟨Tg57, hg57, Xg57, eg57, Wg57, stg57⟩ := stB Xg51 hx hZ eg51 Arg57 (j := (3 : Int32)) hing57 (g := (mkF m 57 #[iv p0, iv p1, iv p2, iv p3, iv p4, iv p5, iv v4, iv v14, iv v21, iv v26, rv b30, .unset, .unset, .unset, .unset, .unset, .unset, .unset, .unset, .unset, .unset, .unset, .unset, .unset, .unset, .unset, .unset, .unset] [(.int v26), (.int (3 : Int32)), (.ref b30)])) rfl rfl (hb hby at_57)
  refine own_st stg57 ?_
  have Ng57 := Fr.snoc Xg57 Ng51 g_b30
  obtain ⟨a57, ha57⟩ : ∃ gz : Nat → Int32, gz = fun i => if i = 3 then (nar .byte v26) else a51 i := ⟨_, rfl⟩
  have Zz_4 : n0 ≤ hg57.size := Nat.le_trans Zz_3 (Keep.of_wr Wg57).1
  have F_8 : own_RayB Z hg57 b30 8 a57 := by rw [ha57]; exact own_RayB_set F_6 Wg57 (by decide) (fits_nar_byte _)
  refine own_st (B := Tg57.setTop (mkF m 63 #[iv p0, iv p1, iv p2, iv p3, iv p4, iv p5, iv v4, iv v14, iv v21, iv v26, rv b30, .unset, .unset, .unset, .unset, .unset, .unset, .unset, .unset, .unset, .unset, .unset, .unset, .unset, .unset, .unset, .unset, .unset] [(.int v26), (.int (4 : Int32)), (.ref b30)])) (fun target kt => ?_) ?_
  · show Steps p.tables e below (Tg57.setTop (mkF m 58 #[iv p0, iv p1, iv p2, iv p3, iv p4, iv p5, iv v4, iv v14, iv v21, iv v26, rv b30, .unset, .unset, .unset, .unset, .unset, .unset, .unset, .unset, .unset, .unset, .unset, .unset, .unset, .unset, .unset, .unset, .unset] [])) target
    refine XS.aload Xg57.here hx rfl (hb hby at_58) rfl rfl ?_
    refine XS.iconst Xg57.here hx rfl (hb hby at_60) ?_
    refine XS.iload Xg57.here hx rfl (hb hby at_61) rfl ?_
    exact kt
  obtain ⟨clg63, Arg63, Szg63, -⟩ := id F_8
  have hing63 : ¬ ((4 : Int32) < 0 ∨ clg63.slots.size ≤ ((4 : Int32)).toNatClampNeg) := own_inb Szg63 (by decide)
  obtain ⟨Tg63, hg63, Xg63, eg63, Wg63, stg63⟩ := stB Xg57 hx hZ eg57 Arg63 (j := (4 : Int32)) hing63 (g := (mkF m 63 #[iv p0, iv p1, iv p2, iv p3, iv p4, iv p5, iv v4, iv v14, iv v21, iv v26, rv b30, .unset, .unset, .unset, .unset, .unset, .unset, .unset, .unset, .unset, .unset, .unset, .unset, .unset, .unset, .unset, .unset, .unset] [(.int v26), (.int (4 : Int32)), (.ref b30)])) rfl rfl (hb hby at_63)
  refine own_st stg63 ?_
  have Ng63 := Fr.snoc Xg63 Ng57 g_b30
  obtain ⟨a63, ha63⟩ : ∃ gz : Nat → Int32, gz = fun i => if i = 4 then (nar .byte v26) else a57 i := ⟨_, rfl⟩
  have Zz_5 : n0 ≤ hg63.size := Nat.le_trans Zz_4 (Keep.of_wr Wg63).1
  have F_10 : own_RayB Z hg63 b30 8 a63 := by rw [ha63]; exact own_RayB_set F_8 Wg63 (by decide) (fits_nar_byte _)
  refine own_st (B := Tg63.setTop (mkF m 69 #[iv p0, iv p1, iv p2, iv p3, iv p4, iv p5, iv v4, iv v14, iv v21, iv v26, rv b30, .unset, .unset, .unset, .unset, .unset, .unset, .unset, .unset, .unset, .unset, .unset, .unset, .unset, .unset, .unset, .unset, .unset] [(.int v26), (.int (5 : Int32)), (.ref b30)])) (fun target kt => ?_) ?_
  · show Steps p.tables e below (Tg63.setTop (mkF m 64 #[iv p0, iv p1, iv p2, iv p3, iv p4, iv p5, iv v4, iv v14, iv v21, iv v26, rv b30, .unset, .unset, .unset, .unset, .unset, .unset, .unset, .unset, .unset, .unset, .unset, .unset, .unset, .unset, .unset, .unset, .unset] [])) target
    refine XS.aload Xg63.here hx rfl (hb hby at_64) rfl rfl ?_
    refine XS.iconst Xg63.here hx rfl (hb hby at_66) ?_
    refine XS.iload Xg63.here hx rfl (hb hby at_67) rfl ?_
    exact kt
  obtain ⟨clg69, Arg69, Szg69, -⟩ := id F_10
  have hing69 : ¬ ((5 : Int32) < 0 ∨ clg69.slots.size ≤ ((5 : Int32)).toNatClampNeg) := own_inb Szg69 (by decide)
  obtain ⟨Tg69, hg69, Xg69, eg69, Wg69, stg69⟩ := stB Xg63 hx hZ eg63 Arg69 (j := (5 : Int32)) hing69 (g := (mkF m 69 #[iv p0, iv p1, iv p2, iv p3, iv p4, iv p5, iv v4, iv v14, iv v21, iv v26, rv b30, .unset, .unset, .unset, .unset, .unset, .unset, .unset, .unset, .unset, .unset, .unset, .unset, .unset, .unset, .unset, .unset, .unset] [(.int v26), (.int (5 : Int32)), (.ref b30)])) rfl rfl (hb hby at_69)
  refine own_st stg69 ?_
  have Ng69 := Fr.snoc Xg69 Ng63 g_b30
  obtain ⟨a69, ha69⟩ : ∃ gz : Nat → Int32, gz = fun i => if i = 5 then (nar .byte v26) else a63 i := ⟨_, rfl⟩
  have Zz_6 : n0 ≤ hg69.size := Nat.le_trans Zz_5 (Keep.of_wr Wg69).1
  have F_12 : own_RayB Z hg69 b30 8 a69 := by rw [ha69]; exact own_RayB_set F_10 Wg69 (by decide) (fits_nar_byte _)
  refine own_st (B := Tg69.setTop (mkF m 76 #[iv p0, iv p1, iv p2, iv p3, iv p4, iv p5, iv v4, iv v14, iv v21, iv v26, rv b30, .unset, .unset, .unset, .unset, .unset, .unset, .unset, .unset, .unset, .unset, .unset, .unset, .unset, .unset, .unset, .unset, .unset] [(.int v26), (.int (6 : Int32)), (.ref b30)])) (fun target kt => ?_) ?_
  · show Steps p.tables e below (Tg69.setTop (mkF m 70 #[iv p0, iv p1, iv p2, iv p3, iv p4, iv p5, iv v4, iv v14, iv v21, iv v26, rv b30, .unset, .unset, .unset, .unset, .unset, .unset, .unset, .unset, .unset, .unset, .unset, .unset, .unset, .unset, .unset, .unset, .unset] [])) target
    refine XS.aload Xg69.here hx rfl (hb hby at_70) rfl rfl ?_
    refine XS.bipush Xg69.here hx rfl (hb hby at_72) ?_
    refine XS.iload Xg69.here hx rfl (hb hby at_74) rfl ?_
    exact kt
  obtain ⟨clg76, Arg76, Szg76, -⟩ := id F_12
  have hing76 : ¬ ((6 : Int32) < 0 ∨ clg76.slots.size ≤ ((6 : Int32)).toNatClampNeg) := own_inb Szg76 (by decide)
  obtain ⟨Tg76, hg76, Xg76, eg76, Wg76, stg76⟩ := stB Xg69 hx hZ eg69 Arg76 (j := (6 : Int32)) hing76 (g := (mkF m 76 #[iv p0, iv p1, iv p2, iv p3, iv p4, iv p5, iv v4, iv v14, iv v21, iv v26, rv b30, .unset, .unset, .unset, .unset, .unset, .unset, .unset, .unset, .unset, .unset, .unset, .unset, .unset, .unset, .unset, .unset, .unset] [(.int v26), (.int (6 : Int32)), (.ref b30)])) rfl rfl (hb hby at_76)
  refine own_st stg76 ?_
  have Ng76 := Fr.snoc Xg76 Ng69 g_b30
  obtain ⟨a76, ha76⟩ : ∃ gz : Nat → Int32, gz = fun i => if i = 6 then (nar .byte v26) else a69 i := ⟨_, rfl⟩
  have Zz_7 : n0 ≤ hg76.size := Nat.le_trans Zz_6 (Keep.of_wr Wg76).1
  have F_14 : own_RayB Z hg76 b30 8 a76 := by rw [ha76]; exact own_RayB_set F_12 Wg76 (by decide) (fits_nar_byte _)
  refine own_st (B := Tg76.setTop (mkF m 83 #[iv p0, iv p1, iv p2, iv p3, iv p4, iv p5, iv v4, iv v14, iv v21, iv v26, rv b30, .unset, .unset, .unset, .unset, .unset, .unset, .unset, .unset, .unset, .unset, .unset, .unset, .unset, .unset, .unset, .unset, .unset] [(.int v26), (.int (7 : Int32)), (.ref b30)])) (fun target kt => ?_) ?_
  · show Steps p.tables e below (Tg76.setTop (mkF m 77 #[iv p0, iv p1, iv p2, iv p3, iv p4, iv p5, iv v4, iv v14, iv v21, iv v26, rv b30, .unset, .unset, .unset, .unset, .unset, .unset, .unset, .unset, .unset, .unset, .unset, .unset, .unset, .unset, .unset, .unset, .unset] [])) target
    refine XS.aload Xg76.here hx rfl (hb hby at_77) rfl rfl ?_
    refine XS.bipush Xg76.here hx rfl (hb hby at_79) ?_
    refine XS.iload Xg76.here hx rfl (hb hby at_81) rfl ?_
    exact kt
  obtain ⟨clg83, Arg83, Szg83, -⟩ := id F_14
  have hing83 : ¬ ((7 : Int32) < 0 ∨ clg83.slots.size ≤ ((7 : Int32)).toNatClampNeg) := own_inb Szg83 (by decide)
  obtain ⟨Tg83, hg83, Xg83, eg83, Wg83, stg83⟩ := stB Xg76 hx hZ eg76 Arg83 (j := (7 : Int32)) hing83 (g := (mkF m 83 #[iv p0, iv p1, iv p2, iv p3, iv p4, iv p5, iv v4, iv v14, iv v21, iv v26, rv b30, .unset, .unset, .unset, .unset, .unset, .unset, .unset, .unset, .unset, .unset, .unset, .unset, .unset, .unset, .unset, .unset, .unset] [(.int v26), (.int (7 : Int32)), (.ref b30)])) rfl rfl (hb hby at_83)
  refine own_st stg83 ?_
  have Ng83 := Fr.snoc Xg83 Ng76 g_b30
  obtain ⟨a83, ha83⟩ : ∃ gz : Nat → Int32, gz = fun i => if i = 7 then (nar .byte v26) else a76 i := ⟨_, rfl⟩
  have Zz_8 : n0 ≤ hg83.size := Nat.le_trans Zz_7 (Keep.of_wr Wg83).1
  have F_16 : own_RayB Z hg83 b30 8 a83 := by rw [ha83]; exact own_RayB_set F_14 Wg83 (by decide) (fits_nar_byte _)
  obtain ⟨v92, hv92⟩ : ∃ z : Int32, z = ((128 : Int32) ||| (p0 &&& (127 : Int32))) := ⟨_, rfl⟩
  refine own_st (B := Tg83.setTop (mkF m 94 #[iv p0, iv p1, iv p2, iv p3, iv p4, iv p5, iv v4, iv v14, iv v21, iv v26, rv b30, iv v92, .unset, .unset, .unset, .unset, .unset, .unset, .unset, .unset, .unset, .unset, .unset, .unset, .unset, .unset, .unset, .unset] [])) (fun target kt => ?_) ?_
  · show Steps p.tables e below (Tg83.setTop (mkF m 84 #[iv p0, iv p1, iv p2, iv p3, iv p4, iv p5, iv v4, iv v14, iv v21, iv v26, rv b30, .unset, .unset, .unset, .unset, .unset, .unset, .unset, .unset, .unset, .unset, .unset, .unset, .unset, .unset, .unset, .unset, .unset] [])) target
    refine XS.sipush Xg83.here hx rfl (hb hby at_84) ?_
    refine XS.iloadN Xg83.here hx rfl (hb hby at_87) rfl ?_
    refine XS.bipush Xg83.here hx rfl (hb hby at_88) ?_
    refine XS.iand Xg83.here hx rfl (hb hby at_90) rfl ?_
    refine XS.ior Xg83.here hx rfl (hb hby at_91) rfl ?_
    refine XS.istore Xg83.here hx rfl (hb hby at_92) rfl (l' := #[iv p0, iv p1, iv p2, iv p3, iv p4, iv p5, iv v4, iv v14, iv v21, iv v26, rv b30, iv v92, .unset, .unset, .unset, .unset, .unset, .unset, .unset, .unset, .unset, .unset, .unset, .unset, .unset, .unset, .unset, .unset]) (by subst hv92; rfl) ?_
    exact kt
  have hin := own_in v4 (own_at p4 v4 hv4)
  refine own_st (B := Tg83.setTop (mkF m 101 #[iv p0, iv p1, iv p2, iv p3, iv p4, iv p5, iv v4, iv v14, iv v21, iv v26, rv b30, iv v92, .unset, .unset, .unset, .unset, .unset, .unset, .unset, .unset, .unset, .unset, .unset, .unset, .unset, .unset, .unset, .unset] [(.int (v92.toInt8.toInt32)), (.int v4), (.ref b30)])) (fun target kt => ?_) ?_
  · show Steps p.tables e below (Tg83.setTop (mkF m 94 #[iv p0, iv p1, iv p2, iv p3, iv p4, iv p5, iv v4, iv v14, iv v21, iv v26, rv b30, iv v92, .unset, .unset, .unset, .unset, .unset, .unset, .unset, .unset, .unset, .unset, .unset, .unset, .unset, .unset, .unset, .unset] [])) target
    refine XS.aload Xg83.here hx rfl (hb hby at_94) rfl rfl ?_
    refine XS.iload Xg83.here hx rfl (hb hby at_96) rfl ?_
    refine XS.iload Xg83.here hx rfl (hb hby at_98) rfl ?_
    refine XS.i2b Xg83.here hx rfl (hb hby at_100) rfl ?_
    exact kt
  obtain ⟨clg101, Arg101, Szg101, -⟩ := id F_16
  have hing101 : ¬ (v4 < 0 ∨ clg101.slots.size ≤ (v4).toNatClampNeg) := own_inb Szg101 hin.1
  obtain ⟨Tg101, hg101, Xg101, eg101, Wg101, stg101⟩ := stB Xg83 hx hZ eg83 Arg101 (j := v4) hing101 (g := (mkF m 101 #[iv p0, iv p1, iv p2, iv p3, iv p4, iv p5, iv v4, iv v14, iv v21, iv v26, rv b30, iv v92, .unset, .unset, .unset, .unset, .unset, .unset, .unset, .unset, .unset, .unset, .unset, .unset, .unset, .unset, .unset, .unset] [(.int (v92.toInt8.toInt32)), (.int v4), (.ref b30)])) rfl rfl (hb hby at_101)
  refine own_st stg101 ?_
  have Ng101 := Fr.snoc Xg101 Ng83 g_b30
  obtain ⟨a101, ha101⟩ : ∃ gz : Nat → Int32, gz = fun i => if i = (v4).toNatClampNeg then (nar .byte (v92.toInt8.toInt32)) else a83 i := ⟨_, rfl⟩
  have Zz_9 : n0 ≤ hg101.size := Nat.le_trans Zz_8 (Keep.of_wr Wg101).1
  have F_18 : own_RayB Z hg101 b30 8 a101 := by rw [ha101]; exact own_RayB_set F_16 Wg101 rfl (fits_nar_byte _)
  refine own_st (B := Tg101.setTop (mkF m 110 #[iv p0, iv p1, iv p2, iv p3, iv p4, iv p5, iv v4, iv v14, iv v21, iv v26, rv b30, iv v92, .unset, .unset, .unset, .unset, .unset, .unset, .unset, .unset, .unset, .unset, .unset, .unset, .unset, .unset, .unset, .unset] [(.int (p1.toInt8.toInt32)), (.int (v4 + (1 : Int32))), (.ref b30)])) (fun target kt => ?_) ?_
  · show Steps p.tables e below (Tg101.setTop (mkF m 102 #[iv p0, iv p1, iv p2, iv p3, iv p4, iv p5, iv v4, iv v14, iv v21, iv v26, rv b30, iv v92, .unset, .unset, .unset, .unset, .unset, .unset, .unset, .unset, .unset, .unset, .unset, .unset, .unset, .unset, .unset, .unset] [])) target
    refine XS.aload Xg101.here hx rfl (hb hby at_102) rfl rfl ?_
    refine XS.iload Xg101.here hx rfl (hb hby at_104) rfl ?_
    refine XS.iconst Xg101.here hx rfl (hb hby at_106) ?_
    refine XS.iadd Xg101.here hx rfl (hb hby at_107) rfl ?_
    refine XS.iloadN Xg101.here hx rfl (hb hby at_108) rfl ?_
    refine XS.i2b Xg101.here hx rfl (hb hby at_109) rfl ?_
    exact kt
  obtain ⟨clg110, Arg110, Szg110, -⟩ := id F_18
  have hing110 : ¬ ((v4 + (1 : Int32)) < 0 ∨ clg110.slots.size ≤ ((v4 + (1 : Int32))).toNatClampNeg) := own_inb Szg110 hin.2.1
  obtain ⟨Tg110, hg110, Xg110, eg110, Wg110, stg110⟩ := stB Xg101 hx hZ eg101 Arg110 (j := (v4 + (1 : Int32))) hing110 (g := (mkF m 110 #[iv p0, iv p1, iv p2, iv p3, iv p4, iv p5, iv v4, iv v14, iv v21, iv v26, rv b30, iv v92, .unset, .unset, .unset, .unset, .unset, .unset, .unset, .unset, .unset, .unset, .unset, .unset, .unset, .unset, .unset, .unset] [(.int (p1.toInt8.toInt32)), (.int (v4 + (1 : Int32))), (.ref b30)])) rfl rfl (hb hby at_110)
  refine own_st stg110 ?_
  have Ng110 := Fr.snoc Xg110 Ng101 g_b30
  obtain ⟨a110, ha110⟩ : ∃ gz : Nat → Int32, gz = fun i => if i = ((v4 + (1 : Int32))).toNatClampNeg then (nar .byte (p1.toInt8.toInt32)) else a101 i := ⟨_, rfl⟩
  have Zz_10 : n0 ≤ hg110.size := Nat.le_trans Zz_9 (Keep.of_wr Wg110).1
  have F_20 : own_RayB Z hg110 b30 8 a110 := by rw [ha110]; exact own_RayB_set F_18 Wg110 rfl (fits_nar_byte _)
  refine own_st (B := Tg110.setTop (mkF m 119 #[iv p0, iv p1, iv p2, iv p3, iv p4, iv p5, iv v4, iv v14, iv v21, iv v26, rv b30, iv v92, .unset, .unset, .unset, .unset, .unset, .unset, .unset, .unset, .unset, .unset, .unset, .unset, .unset, .unset, .unset, .unset] [(.int (p2.toInt8.toInt32)), (.int (v4 + (2 : Int32))), (.ref b30)])) (fun target kt => ?_) ?_
  · show Steps p.tables e below (Tg110.setTop (mkF m 111 #[iv p0, iv p1, iv p2, iv p3, iv p4, iv p5, iv v4, iv v14, iv v21, iv v26, rv b30, iv v92, .unset, .unset, .unset, .unset, .unset, .unset, .unset, .unset, .unset, .unset, .unset, .unset, .unset, .unset, .unset, .unset] [])) target
    refine XS.aload Xg110.here hx rfl (hb hby at_111) rfl rfl ?_
    refine XS.iload Xg110.here hx rfl (hb hby at_113) rfl ?_
    refine XS.iconst Xg110.here hx rfl (hb hby at_115) ?_
    refine XS.iadd Xg110.here hx rfl (hb hby at_116) rfl ?_
    refine XS.iloadN Xg110.here hx rfl (hb hby at_117) rfl ?_
    refine XS.i2b Xg110.here hx rfl (hb hby at_118) rfl ?_
    exact kt
  obtain ⟨clg119, Arg119, Szg119, -⟩ := id F_20
  have hing119 : ¬ ((v4 + (2 : Int32)) < 0 ∨ clg119.slots.size ≤ ((v4 + (2 : Int32))).toNatClampNeg) := own_inb Szg119 hin.2.2.1
  obtain ⟨Tg119, hg119, Xg119, eg119, Wg119, stg119⟩ := stB Xg110 hx hZ eg110 Arg119 (j := (v4 + (2 : Int32))) hing119 (g := (mkF m 119 #[iv p0, iv p1, iv p2, iv p3, iv p4, iv p5, iv v4, iv v14, iv v21, iv v26, rv b30, iv v92, .unset, .unset, .unset, .unset, .unset, .unset, .unset, .unset, .unset, .unset, .unset, .unset, .unset, .unset, .unset, .unset] [(.int (p2.toInt8.toInt32)), (.int (v4 + (2 : Int32))), (.ref b30)])) rfl rfl (hb hby at_119)
  refine own_st stg119 ?_
  have Ng119 := Fr.snoc Xg119 Ng110 g_b30
  obtain ⟨a119, ha119⟩ : ∃ gz : Nat → Int32, gz = fun i => if i = ((v4 + (2 : Int32))).toNatClampNeg then (nar .byte (p2.toInt8.toInt32)) else a110 i := ⟨_, rfl⟩
  have Zz_11 : n0 ≤ hg119.size := Nat.le_trans Zz_10 (Keep.of_wr Wg119).1
  have F_22 : own_RayB Z hg119 b30 8 a119 := by rw [ha119]; exact own_RayB_set F_20 Wg119 rfl (fits_nar_byte _)
  refine own_st (B := Tg119.setTop (mkF m 128 #[iv p0, iv p1, iv p2, iv p3, iv p4, iv p5, iv v4, iv v14, iv v21, iv v26, rv b30, iv v92, .unset, .unset, .unset, .unset, .unset, .unset, .unset, .unset, .unset, .unset, .unset, .unset, .unset, .unset, .unset, .unset] [(.int (p3.toInt8.toInt32)), (.int (v4 + (3 : Int32))), (.ref b30)])) (fun target kt => ?_) ?_
  · show Steps p.tables e below (Tg119.setTop (mkF m 120 #[iv p0, iv p1, iv p2, iv p3, iv p4, iv p5, iv v4, iv v14, iv v21, iv v26, rv b30, iv v92, .unset, .unset, .unset, .unset, .unset, .unset, .unset, .unset, .unset, .unset, .unset, .unset, .unset, .unset, .unset, .unset] [])) target
    refine XS.aload Xg119.here hx rfl (hb hby at_120) rfl rfl ?_
    refine XS.iload Xg119.here hx rfl (hb hby at_122) rfl ?_
    refine XS.iconst Xg119.here hx rfl (hb hby at_124) ?_
    refine XS.iadd Xg119.here hx rfl (hb hby at_125) rfl ?_
    refine XS.iloadN Xg119.here hx rfl (hb hby at_126) rfl ?_
    refine XS.i2b Xg119.here hx rfl (hb hby at_127) rfl ?_
    exact kt
  obtain ⟨clg128, Arg128, Szg128, -⟩ := id F_22
  have hing128 : ¬ ((v4 + (3 : Int32)) < 0 ∨ clg128.slots.size ≤ ((v4 + (3 : Int32))).toNatClampNeg) := own_inb Szg128 hin.2.2.2
  obtain ⟨Tg128, hg128, Xg128, eg128, Wg128, stg128⟩ := stB Xg119 hx hZ eg119 Arg128 (j := (v4 + (3 : Int32))) hing128 (g := (mkF m 128 #[iv p0, iv p1, iv p2, iv p3, iv p4, iv p5, iv v4, iv v14, iv v21, iv v26, rv b30, iv v92, .unset, .unset, .unset, .unset, .unset, .unset, .unset, .unset, .unset, .unset, .unset, .unset, .unset, .unset, .unset, .unset] [(.int (p3.toInt8.toInt32)), (.int (v4 + (3 : Int32))), (.ref b30)])) rfl rfl (hb hby at_128)
  refine own_st stg128 ?_
  have Ng128 := Fr.snoc Xg128 Ng119 g_b30
  obtain ⟨a128, ha128⟩ : ∃ gz : Nat → Int32, gz = fun i => if i = ((v4 + (3 : Int32))).toNatClampNeg then (nar .byte (p3.toInt8.toInt32)) else a119 i := ⟨_, rfl⟩
  have Zz_12 : n0 ≤ hg128.size := Nat.le_trans Zz_11 (Keep.of_wr Wg128).1
  have F_24 : own_RayB Z hg128 b30 8 a128 := by rw [ha128]; exact own_RayB_set F_22 Wg128 rfl (fits_nar_byte _)
  obtain ⟨v134, hv134⟩ : ∃ z : Int32, z = (p1 &&& (255 : Int32)) := ⟨_, rfl⟩
  obtain ⟨v141, hv141⟩ : ∃ z : Int32, z = (p2 &&& (255 : Int32)) := ⟨_, rfl⟩
  obtain ⟨v148, hv148⟩ : ∃ z : Int32, z = (p3 &&& (255 : Int32)) := ⟨_, rfl⟩
  refine own_st (B := Tg128.setTop (mkF m 150 #[iv p0, iv p1, iv p2, iv p3, iv p4, iv p5, iv v4, iv v14, iv v21, iv v26, rv b30, iv v92, iv v134, iv v141, iv v148, .unset, .unset, .unset, .unset, .unset, .unset, .unset, .unset, .unset, .unset, .unset, .unset, .unset] [])) (fun target kt => ?_) ?_
  · show Steps p.tables e below (Tg128.setTop (mkF m 129 #[iv p0, iv p1, iv p2, iv p3, iv p4, iv p5, iv v4, iv v14, iv v21, iv v26, rv b30, iv v92, .unset, .unset, .unset, .unset, .unset, .unset, .unset, .unset, .unset, .unset, .unset, .unset, .unset, .unset, .unset, .unset] [])) target
    refine XS.iloadN Xg128.here hx rfl (hb hby at_129) rfl ?_
    refine XS.sipush Xg128.here hx rfl (hb hby at_130) ?_
    refine XS.iand Xg128.here hx rfl (hb hby at_133) rfl ?_
    refine XS.istore Xg128.here hx rfl (hb hby at_134) rfl (l' := #[iv p0, iv p1, iv p2, iv p3, iv p4, iv p5, iv v4, iv v14, iv v21, iv v26, rv b30, iv v92, iv v134, .unset, .unset, .unset, .unset, .unset, .unset, .unset, .unset, .unset, .unset, .unset, .unset, .unset, .unset, .unset]) (by subst hv134; rfl) ?_
    refine XS.iloadN Xg128.here hx rfl (hb hby at_136) rfl ?_
    refine XS.sipush Xg128.here hx rfl (hb hby at_137) ?_
    refine XS.iand Xg128.here hx rfl (hb hby at_140) rfl ?_
    refine XS.istore Xg128.here hx rfl (hb hby at_141) rfl (l' := #[iv p0, iv p1, iv p2, iv p3, iv p4, iv p5, iv v4, iv v14, iv v21, iv v26, rv b30, iv v92, iv v134, iv v141, .unset, .unset, .unset, .unset, .unset, .unset, .unset, .unset, .unset, .unset, .unset, .unset, .unset, .unset]) (by subst hv141; rfl) ?_
    show Steps p.tables e below (Tg128.setTop (mkF m 143 #[iv p0, iv p1, iv p2, iv p3, iv p4, iv p5, iv v4, iv v14, iv v21, iv v26, rv b30, iv v92, iv v134, iv v141, .unset, .unset, .unset, .unset, .unset, .unset, .unset, .unset, .unset, .unset, .unset, .unset, .unset, .unset] [])) target
    refine XS.iloadN Xg128.here hx rfl (hb hby at_143) rfl ?_
    refine XS.sipush Xg128.here hx rfl (hb hby at_144) ?_
    refine XS.iand Xg128.here hx rfl (hb hby at_147) rfl ?_
    refine XS.istore Xg128.here hx rfl (hb hby at_148) rfl (l' := #[iv p0, iv p1, iv p2, iv p3, iv p4, iv p5, iv v4, iv v14, iv v21, iv v26, rv b30, iv v92, iv v134, iv v141, iv v148, .unset, .unset, .unset, .unset, .unset, .unset, .unset, .unset, .unset, .unset, .unset, .unset, .unset]) (by subst hv148; rfl) ?_
    exact kt
  have hat := own_at p4 v4 hv4
  have hB0 : a128 (v4).toNatClampNeg = nar .byte (v92.toInt8.toInt32) := by
    rw [ha128, ha119, ha110, ha101]
    rcases hat with h | h | h | h <;> (rw [h]; simp +decide)
  have hB1 : a128 (v4 + (1 : Int32)).toNatClampNeg = nar .byte (p1.toInt8.toInt32) := by
    rw [ha128, ha119, ha110, ha101]
    rcases hat with h | h | h | h <;> (rw [h]; simp +decide)
  have hB2 : a128 (v4 + (2 : Int32)).toNatClampNeg = nar .byte (p2.toInt8.toInt32) := by
    rw [ha128, ha119, ha110, ha101]
    rcases hat with h | h | h | h <;> (rw [h]; simp +decide)
  have hB3 : a128 (v4 + (3 : Int32)).toNatClampNeg = nar .byte (p3.toInt8.toInt32) := by
    rw [ha128, ha119, ha110, ha101]
    rcases hat with h | h | h | h <;> (rw [h]; simp +decide)
  have hl := own_lead p0
  rw [← hv92] at hl
  have hLD : ((a128 (v4).toNatClampNeg) &&& (255 : Int32)) = v92 := by rw [hB0]; exact own_byte v92 (by omega) (by omega)
  have hA1 : ((a128 (v4 + (1 : Int32)).toNatClampNeg) &&& (255 : Int32)) = v134 := by rw [hB1, hv134]; exact own_b255 p1
  have hA2 : ((a128 (v4 + (2 : Int32)).toNatClampNeg) &&& (255 : Int32)) = v141 := by rw [hB2, hv141]; exact own_b255 p2
  have hA3 : ((a128 (v4 + (3 : Int32)).toNatClampNeg) &&& (255 : Int32)) = v148 := by rw [hB3, hv148]; exact own_b255 p3
  have hM1 : (a128 (v4 + (1 : Int32)).toNatClampNeg = (-65 : Int32)) ↔ v134 = (191 : Int32) := by rw [hB1, hv134]; exact own_m65 p1
  have hM2 : ((a128 (v4 + (2 : Int32)).toNatClampNeg) &&& (254 : Int32)) = (190 : Int32) ↔ (v141 = (190 : Int32) ∨ v141 = (191 : Int32)) := by rw [hB2, hv141]; exact own_m254 p2
  refine own_st (B := Tg128.setTop (mkF m 152 #[iv p0, iv p1, iv p2, iv p3, iv p4, iv p5, iv v4, iv v14, iv v21, iv v26, rv b30, iv v92, iv v134, iv v141, iv v148, .unset, .unset, .unset, .unset, .unset, .unset, .unset, .unset, .unset, .unset, .unset, .unset, .unset] [(.int v92)])) (fun target kt => ?_) ?_
  · show Steps p.tables e below (Tg128.setTop (mkF m 150 #[iv p0, iv p1, iv p2, iv p3, iv p4, iv p5, iv v4, iv v14, iv v21, iv v26, rv b30, iv v92, iv v134, iv v141, iv v148, .unset, .unset, .unset, .unset, .unset, .unset, .unset, .unset, .unset, .unset, .unset, .unset, .unset] [])) target
    refine XS.iload Xg128.here hx rfl (hb hby at_150) rfl ?_
    exact kt
  rcases own_cls v92 with hs152 | hs152 | hs152 | hs152 | hs152
  · skip
    refine own_st (B := Tg128.setTop (mkF m 155 #[iv p0, iv p1, iv p2, iv p3, iv p4, iv p5, iv v4, iv v14, iv v21, iv v26, rv b30, iv v92, iv v134, iv v141, iv v148, .unset, .unset, .unset, .unset, .unset, .unset, .unset, .unset, .unset, .unset, .unset, .unset, .unset] [(.int (192 : Int32)), (.int v92)])) (fun target kt => ?_) ?_
    · show Steps p.tables e below (Tg128.setTop (mkF m 152 #[iv p0, iv p1, iv p2, iv p3, iv p4, iv p5, iv v4, iv v14, iv v21, iv v26, rv b30, iv v92, iv v134, iv v141, iv v148, .unset, .unset, .unset, .unset, .unset, .unset, .unset, .unset, .unset, .unset, .unset, .unset, .unset] [(.int v92)])) target
      refine XS.sipush Xg128.here hx rfl (hb hby at_152) ?_
      exact kt
    have c155 : v92 < (192 : Int32) := by
      rw [Int32.lt_iff_toInt_lt, show (192 : Int32).toInt = 192 by decide]
      omega
    refine own_st (B := Tg128.setTop (mkF m 184 #[iv p0, iv p1, iv p2, iv p3, iv p4, iv p5, iv v4, iv v14, iv v21, iv v26, rv b30, iv v92, iv v134, iv v141, iv v148, .unset, .unset, .unset, .unset, .unset, .unset, .unset, .unset, .unset, .unset, .unset, .unset, .unset] [(.int (224 : Int32)), (.int v92)])) (fun target kt => ?_) ?_
    · show Steps p.tables e below (Tg128.setTop (mkF m 155 #[iv p0, iv p1, iv p2, iv p3, iv p4, iv p5, iv v4, iv v14, iv v21, iv v26, rv b30, iv v92, iv v134, iv v141, iv v148, .unset, .unset, .unset, .unset, .unset, .unset, .unset, .unset, .unset, .unset, .unset, .unset, .unset] [(.int (192 : Int32)), (.int v92)])) target
      refine XS.icmpYes Xg128.here hx rfl (pc0 := 155) (pc' := 179) rfl (hb hby at_155) rfl (tlt c155).1 (by decide) (by decide) ?_
      refine XS.iload Xg128.here hx rfl (hb hby at_179) rfl ?_
      refine XS.sipush Xg128.here hx rfl (hb hby at_181) ?_
      exact kt
    have c184 : v92 < (224 : Int32) := by
      rw [Int32.lt_iff_toInt_lt, show (224 : Int32).toInt = 224 by decide]
      omega
    refine own_st (B := Tg128.setTop (mkF m 213 #[iv p0, iv p1, iv p2, iv p3, iv p4, iv p5, iv v4, iv v14, iv v21, iv v26, rv b30, iv v92, iv v134, iv v141, iv v148, .unset, .unset, .unset, .unset, .unset, .unset, .unset, .unset, .unset, .unset, .unset, .unset, .unset] [(.int (240 : Int32)), (.int v92)])) (fun target kt => ?_) ?_
    · show Steps p.tables e below (Tg128.setTop (mkF m 184 #[iv p0, iv p1, iv p2, iv p3, iv p4, iv p5, iv v4, iv v14, iv v21, iv v26, rv b30, iv v92, iv v134, iv v141, iv v148, .unset, .unset, .unset, .unset, .unset, .unset, .unset, .unset, .unset, .unset, .unset, .unset, .unset] [(.int (224 : Int32)), (.int v92)])) target
      refine XS.icmpYes Xg128.here hx rfl (pc0 := 184) (pc' := 208) rfl (hb hby at_184) rfl (tlt c184).1 (by decide) (by decide) ?_
      refine XS.iload Xg128.here hx rfl (hb hby at_208) rfl ?_
      refine XS.sipush Xg128.here hx rfl (hb hby at_210) ?_
      exact kt
    have c213 : v92 < (240 : Int32) := by
      rw [Int32.lt_iff_toInt_lt, show (240 : Int32).toInt = 240 by decide]
      omega
    refine own_st (B := Tg128.setTop (mkF m 590 #[iv p0, iv p1, iv p2, iv p3, iv p4, iv p5, iv v4, iv v14, iv v21, iv v26, rv b30, iv v92, iv v134, iv v141, iv v148, iv (0 : Int32), iv (0 : Int32), iv (-1 : Int32), .unset, .unset, .unset, .unset, .unset, .unset, .unset, .unset, .unset, .unset] [(.int v21), (.int v4), (.ref b30)])) (fun target kt => ?_) ?_
    · show Steps p.tables e below (Tg128.setTop (mkF m 213 #[iv p0, iv p1, iv p2, iv p3, iv p4, iv p5, iv v4, iv v14, iv v21, iv v26, rv b30, iv v92, iv v134, iv v141, iv v148, .unset, .unset, .unset, .unset, .unset, .unset, .unset, .unset, .unset, .unset, .unset, .unset, .unset] [(.int (240 : Int32)), (.int v92)])) target
      refine XS.icmpYes Xg128.here hx rfl (pc0 := 213) (pc' := 237) rfl (hb hby at_213) rfl (tlt c213).1 (by decide) (by decide) ?_
      refine XS.iconst Xg128.here hx rfl (hb hby at_237) ?_
      refine XS.istore Xg128.here hx rfl (hb hby at_238) rfl (l' := #[iv p0, iv p1, iv p2, iv p3, iv p4, iv p5, iv v4, iv v14, iv v21, iv v26, rv b30, iv v92, iv v134, iv v141, iv v148, iv (0 : Int32), .unset, .unset, .unset, .unset, .unset, .unset, .unset, .unset, .unset, .unset, .unset, .unset]) rfl ?_
      refine XS.iconst Xg128.here hx rfl (hb hby at_240) ?_
      refine XS.istore Xg128.here hx rfl (hb hby at_241) rfl (l' := #[iv p0, iv p1, iv p2, iv p3, iv p4, iv p5, iv v4, iv v14, iv v21, iv v26, rv b30, iv v92, iv v134, iv v141, iv v148, iv (0 : Int32), iv (0 : Int32), .unset, .unset, .unset, .unset, .unset, .unset, .unset, .unset, .unset, .unset, .unset]) rfl ?_
      refine XS.iload Xg128.here hx rfl (hb hby at_243) rfl ?_
      refine XS.ifNo Xg128.here hx rfl (hb hby at_245) rfl ((if0 _ _).trans (teq (by decide : (0 : Int32) = (0 : Int32))).2) ?_
      refine XS.iconst Xg128.here hx rfl (hb hby at_248) ?_
      show Steps p.tables e below (Tg128.setTop (mkF m 249 #[iv p0, iv p1, iv p2, iv p3, iv p4, iv p5, iv v4, iv v14, iv v21, iv v26, rv b30, iv v92, iv v134, iv v141, iv v148, iv (0 : Int32), iv (0 : Int32), .unset, .unset, .unset, .unset, .unset, .unset, .unset, .unset, .unset, .unset, .unset] [(.int (-1 : Int32))])) target
      refine XS.istore Xg128.here hx rfl (hb hby at_249) rfl (l' := #[iv p0, iv p1, iv p2, iv p3, iv p4, iv p5, iv v4, iv v14, iv v21, iv v26, rv b30, iv v92, iv v134, iv v141, iv v148, iv (0 : Int32), iv (0 : Int32), iv (-1 : Int32), .unset, .unset, .unset, .unset, .unset, .unset, .unset, .unset, .unset, .unset]) rfl ?_
      refine XS.goto Xg128.here hx rfl (pc0 := 251) (pc' := 584) rfl (hb hby at_251) (by decide) (by decide) ?_
      refine XS.aload Xg128.here hx rfl (hb hby at_584) rfl rfl ?_
      refine XS.iload Xg128.here hx rfl (hb hby at_586) rfl ?_
      refine XS.iload Xg128.here hx rfl (hb hby at_588) rfl ?_
      exact kt
    obtain ⟨_, _, ⟨Tg590, Lg590, kg590, ng590⟩, -, Xg590, ⟨Lcg590, hQg590, lg590, yg590, zg590⟩, stg590⟩ := Jvm.LawKit.callS Xg128 hx (y := (⟨"com/example/psyche/psyche/XmlChars", "sequenceLength", "([BII)I"⟩ : MethodName)) hown (mvT hZ (hw _ (List.mem_of_getElem? (i := 1) rfl))) (mvT hZ (hw _ (List.mem_of_getElem? (i := 2) rfl))) (mvT hZ (hw _ (List.mem_of_getElem? (i := 3) rfl))) (mvT hZ (hw _ (List.mem_of_getElem? (i := 4) rfl))) (by decide) (backOf (W := 0) (own_rm1_A l Z a0 hw [] b30 v4 v21 a128 hg128 n0 Zz_12 F_24 (show v4 = (0 : Int32) ∨ v4 = (1 : Int32) ∨ v4 = (2 : Int32) ∨ v4 = (3 : Int32) from hat) (show ((a128 (v4).toNatClampNeg) &&& (255 : Int32)) < (194 : Int32) from (by rw [hLD, Int32.lt_iff_toInt_lt, show (194 : Int32).toInt = 194 by decide]; omega))) hZ (hw _ (List.mem_of_getElem? (i := 4) rfl)) (hw _ (List.mem_of_getElem? (i := 3) rfl)) (by decide) (by decide)) (g := (mkF m 590 #[iv p0, iv p1, iv p2, iv p3, iv p4, iv p5, iv v4, iv v14, iv v21, iv v26, rv b30, iv v92, iv v134, iv v141, iv v148, iv (0 : Int32), iv (0 : Int32), iv (-1 : Int32), .unset, .unset, .unset, .unset, .unset, .unset, .unset, .unset, .unset, .unset] [(.int v21), (.int v4), (.ref b30)])) rfl (by rw [hml]; rfl) (argsL := [(.ref b30), (.int v4), (.int v21)]) (rest := []) (lenOf own_pd0 rfl) rfl (by show 2 * 0 + _ ≤ _; exact Nat.le_of_eq rfl) (hb hby at_590) (fun _ _ => ⟨rfl, eg128, (by decide : 1 + 0 ≤ _), (by decide : 8 + 0 ≤ _)⟩)
    dsimp only [Pt.U, Pt.locs, Pt.cells, Pt.slots] at Xg590 lg590 yg590 zg590 stg590 hQg590
    subst lg590 yg590 zg590
    obtain ⟨rfl, Ng590q, eg590⟩ := hQg590
    have Ng590 := Fr.app Ng128 Ng590q
    refine own_st (stg590) ?_
    refine own_st (B := Tg590.setTop (mkF m 595 #[iv p0, iv p1, iv p2, iv p3, iv p4, iv p5, iv v4, iv v14, iv v21, iv v26, rv b30, iv v92, iv v134, iv v141, iv v148, iv (0 : Int32), iv (0 : Int32), iv (-1 : Int32), .unset, .unset, .unset, .unset, .unset, .unset, .unset, .unset, .unset, .unset] [(.int (-1 : Int32)), (.int (-1 : Int32))])) (fun target kt => ?_) ?_
    · show Steps p.tables e below (Tg590.setTop (mkF m 593 #[iv p0, iv p1, iv p2, iv p3, iv p4, iv p5, iv v4, iv v14, iv v21, iv v26, rv b30, iv v92, iv v134, iv v141, iv v148, iv (0 : Int32), iv (0 : Int32), iv (-1 : Int32), .unset, .unset, .unset, .unset, .unset, .unset, .unset, .unset, .unset, .unset] [(.int (-1 : Int32))])) target
      refine XS.iload Xg590.here hx rfl (hb hby at_593) rfl ?_
      exact kt
    have c595 : (-1 : Int32) = (-1 : Int32) := by
      rfl
    refine own_st (B := Tg590.setTop (mkF m 603 #[iv p0, iv p1, iv p2, iv p3, iv p4, iv p5, iv v4, iv v14, iv v21, iv v26, rv b30, iv v92, iv v134, iv v141, iv v148, iv (0 : Int32), iv (0 : Int32), iv (-1 : Int32), .unset, .unset, .unset, .unset, .unset, .unset, .unset, .unset, .unset, .unset] [(.int (1 : Int32))])) (fun target kt => ?_) ?_
    · show Steps p.tables e below (Tg590.setTop (mkF m 595 #[iv p0, iv p1, iv p2, iv p3, iv p4, iv p5, iv v4, iv v14, iv v21, iv v26, rv b30, iv v92, iv v134, iv v141, iv v148, iv (0 : Int32), iv (0 : Int32), iv (-1 : Int32), .unset, .unset, .unset, .unset, .unset, .unset, .unset, .unset, .unset, .unset] [(.int (-1 : Int32)), (.int (-1 : Int32))])) target
      refine XS.icmpNo Xg590.here hx rfl (hb hby at_595) rfl (teq c595).2 ?_
      refine XS.iconst Xg590.here hx rfl (hb hby at_598) ?_
      refine XS.goto Xg590.here hx rfl (pc0 := 599) (pc' := 603) rfl (hb hby at_599) (by decide) (by decide) ?_
      exact kt
    obtain ⟨fs, hr, hrun, hended, hW, hsame⟩ := Xg590.leave (v := some (.int (1 : Int32))) (fun h => by rw [Bd.returns] at h; cases h)
    have hend : Steps p.tables e below (Tg590.setTop (mkF m 603 #[iv p0, iv p1, iv p2, iv p3, iv p4, iv p5, iv v4, iv v14, iv v21, iv v26, rv b30, iv v92, iv v134, iv v141, iv v148, iv (0 : Int32), iv (0 : Int32), iv (-1 : Int32), .unset, .unset, .unset, .unset, .unset, .unset, .unset, .unset, .unset, .unset] [(.int (1 : Int32))])) (Tg590.setFrames fs) := by
      exact retN Xg590 hx (t := .boolean) Bd.returns (by simp) (hb hby at_603) hr
    refine own_fin hend ⟨_, hrun, hended, _, _, rfl, ?_, ⟨_, rfl⟩, hW, hsame.mono (by decide) (by decide)⟩
    show own_Q0 Z p0 p1 p2 p3 p4 p5 h0 n0 _ Tg590.heap _
    rw [eg590]
    exact ⟨rfl, Ng590⟩
  · skip
    refine own_st (B := Tg128.setTop (mkF m 155 #[iv p0, iv p1, iv p2, iv p3, iv p4, iv p5, iv v4, iv v14, iv v21, iv v26, rv b30, iv v92, iv v134, iv v141, iv v148, .unset, .unset, .unset, .unset, .unset, .unset, .unset, .unset, .unset, .unset, .unset, .unset, .unset] [(.int (192 : Int32)), (.int v92)])) (fun target kt => ?_) ?_
    · show Steps p.tables e below (Tg128.setTop (mkF m 152 #[iv p0, iv p1, iv p2, iv p3, iv p4, iv p5, iv v4, iv v14, iv v21, iv v26, rv b30, iv v92, iv v134, iv v141, iv v148, .unset, .unset, .unset, .unset, .unset, .unset, .unset, .unset, .unset, .unset, .unset, .unset, .unset] [(.int v92)])) target
      refine XS.sipush Xg128.here hx rfl (hb hby at_152) ?_
      exact kt
    have c155 : ¬ (v92 < (192 : Int32)) := by
      rw [Int32.lt_iff_toInt_lt, show (192 : Int32).toInt = 192 by decide]
      omega
    refine own_st (B := Tg128.setTop (mkF m 163 #[iv p0, iv p1, iv p2, iv p3, iv p4, iv p5, iv v4, iv v14, iv v21, iv v26, rv b30, iv v92, iv v134, iv v141, iv v148, .unset, .unset, .unset, .unset, .unset, .unset, .unset, .unset, .unset, .unset, .unset, .unset, .unset] [(.int (224 : Int32)), (.int v92)])) (fun target kt => ?_) ?_
    · show Steps p.tables e below (Tg128.setTop (mkF m 155 #[iv p0, iv p1, iv p2, iv p3, iv p4, iv p5, iv v4, iv v14, iv v21, iv v26, rv b30, iv v92, iv v134, iv v141, iv v148, .unset, .unset, .unset, .unset, .unset, .unset, .unset, .unset, .unset, .unset, .unset, .unset, .unset] [(.int (192 : Int32)), (.int v92)])) target
      refine XS.icmpNo Xg128.here hx rfl (hb hby at_155) rfl (flt c155).1 ?_
      refine XS.iload Xg128.here hx rfl (hb hby at_158) rfl ?_
      refine XS.sipush Xg128.here hx rfl (hb hby at_160) ?_
      exact kt
    have c163 : v92 < (224 : Int32) := by
      rw [Int32.lt_iff_toInt_lt, show (224 : Int32).toInt = 224 by decide]
      omega
    obtain ⟨v174, hv174⟩ : ∃ z : Int32, z = (v92 &&& (31 : Int32)) := ⟨_, rfl⟩
    refine own_st (B := Tg128.setTop (mkF m 258 #[iv p0, iv p1, iv p2, iv p3, iv p4, iv p5, iv v4, iv v14, iv v21, iv v26, rv b30, iv v92, iv v134, iv v141, iv v148, iv (2 : Int32), iv v174, .unset, .unset, .unset, .unset, .unset, .unset, .unset, .unset, .unset, .unset, .unset] [(.int v14), (.int (2 : Int32))])) (fun target kt => ?_) ?_
    · show Steps p.tables e below (Tg128.setTop (mkF m 163 #[iv p0, iv p1, iv p2, iv p3, iv p4, iv p5, iv v4, iv v14, iv v21, iv v26, rv b30, iv v92, iv v134, iv v141, iv v148, .unset, .unset, .unset, .unset, .unset, .unset, .unset, .unset, .unset, .unset, .unset, .unset, .unset] [(.int (224 : Int32)), (.int v92)])) target
      refine XS.icmpNo Xg128.here hx rfl (hb hby at_163) rfl (tlt c163).2.1 ?_
      refine XS.iconst Xg128.here hx rfl (hb hby at_166) ?_
      refine XS.istore Xg128.here hx rfl (hb hby at_167) rfl (l' := #[iv p0, iv p1, iv p2, iv p3, iv p4, iv p5, iv v4, iv v14, iv v21, iv v26, rv b30, iv v92, iv v134, iv v141, iv v148, iv (2 : Int32), .unset, .unset, .unset, .unset, .unset, .unset, .unset, .unset, .unset, .unset, .unset, .unset]) rfl ?_
      refine XS.iload Xg128.here hx rfl (hb hby at_169) rfl ?_
      refine XS.bipush Xg128.here hx rfl (hb hby at_171) ?_
      refine XS.iand Xg128.here hx rfl (hb hby at_173) rfl ?_
      refine XS.istore Xg128.here hx rfl (hb hby at_174) rfl (l' := #[iv p0, iv p1, iv p2, iv p3, iv p4, iv p5, iv v4, iv v14, iv v21, iv v26, rv b30, iv v92, iv v134, iv v141, iv v148, iv (2 : Int32), iv v174, .unset, .unset, .unset, .unset, .unset, .unset, .unset, .unset, .unset, .unset, .unset]) (by subst hv174; rfl) ?_
      refine XS.goto Xg128.here hx rfl (pc0 := 176) (pc' := 243) rfl (hb hby at_176) (by decide) (by decide) ?_
      show Steps p.tables e below (Tg128.setTop (mkF m 243 #[iv p0, iv p1, iv p2, iv p3, iv p4, iv p5, iv v4, iv v14, iv v21, iv v26, rv b30, iv v92, iv v134, iv v141, iv v148, iv (2 : Int32), iv v174, .unset, .unset, .unset, .unset, .unset, .unset, .unset, .unset, .unset, .unset, .unset] [])) target
      refine XS.iload Xg128.here hx rfl (hb hby at_243) rfl ?_
      refine XS.ifYes Xg128.here hx rfl (pc0 := 245) (pc' := 254) rfl (hb hby at_245) rfl ((if0 _ _).trans (feq (by decide : ¬ ((2 : Int32) = (0 : Int32)))).2) (by decide) (by decide) ?_
      refine XS.iload Xg128.here hx rfl (hb hby at_254) rfl ?_
      refine XS.iload Xg128.here hx rfl (hb hby at_256) rfl ?_
      exact kt
    obtain ⟨_, _, ⟨Tg258, Lg258, kg258, ng258⟩, -, Xg258, ⟨Lcg258, hQg258, lg258, yg258, zg258⟩, stg258⟩ := Jvm.LawKit.callS Xg128 hx (y := (⟨"java/lang/Math", "min", "(II)I"⟩ : MethodName)) hown (mvT hZ (hw _ (List.mem_of_getElem? (i := 5) rfl))) (mvT hZ (hw _ (List.mem_of_getElem? (i := 6) rfl))) (mvT hZ (hw _ (List.mem_of_getElem? (i := 7) rfl))) (mvT hZ (hw _ (List.mem_of_getElem? (i := 8) rfl))) (by decide) (backOf (W := 0) (own_rm2 l Z a0 hw [] (2 : Int32) v14 hg128 n0 Zz_12) hZ (hw _ (List.mem_of_getElem? (i := 8) rfl)) (hw _ (List.mem_of_getElem? (i := 7) rfl)) (by decide) (by decide)) (g := (mkF m 258 #[iv p0, iv p1, iv p2, iv p3, iv p4, iv p5, iv v4, iv v14, iv v21, iv v26, rv b30, iv v92, iv v134, iv v141, iv v148, iv (2 : Int32), iv v174, .unset, .unset, .unset, .unset, .unset, .unset, .unset, .unset, .unset, .unset, .unset] [(.int v14), (.int (2 : Int32))])) rfl (by rw [hml]; rfl) (argsL := [(.int (2 : Int32)), (.int v14)]) (rest := []) (lenOf own_pd1 rfl) rfl (by show 2 * 0 + _ ≤ _; exact Nat.le_of_eq rfl) (hb hby at_258) (fun _ _ => ⟨rfl, eg128, (by decide : 1 + 0 ≤ _), (by decide : 8 + 0 ≤ _)⟩)
    dsimp only [Pt.U, Pt.locs, Pt.cells, Pt.slots] at Xg258 lg258 yg258 zg258 stg258 hQg258
    subst lg258 yg258 zg258
    obtain ⟨rfl, Ng258q, eg258⟩ := hQg258
    have Ng258 := Fr.app Ng128 Ng258q
    refine own_st (stg258) ?_
    obtain ⟨v261, hv261⟩ : ∃ z : Int32, z = (if v14 < (2 : Int32) then v14 else (2 : Int32)) := ⟨_, rfl⟩
    refine own_st (B := Tg258.setTop (mkF m 263 #[iv p0, iv p1, iv p2, iv p3, iv p4, iv p5, iv v4, iv v14, iv v21, iv v26, rv b30, iv v92, iv v134, iv v141, iv v148, iv (2 : Int32), iv v174, .unset, iv v261, .unset, .unset, .unset, .unset, .unset, .unset, .unset, .unset, .unset] [])) (fun target kt => ?_) ?_
    · show Steps p.tables e below (Tg258.setTop (mkF m 261 #[iv p0, iv p1, iv p2, iv p3, iv p4, iv p5, iv v4, iv v14, iv v21, iv v26, rv b30, iv v92, iv v134, iv v141, iv v148, iv (2 : Int32), iv v174, .unset, .unset, .unset, .unset, .unset, .unset, .unset, .unset, .unset, .unset, .unset] [(.int (if v14 < (2 : Int32) then v14 else (2 : Int32)))])) target
      refine XS.istore Xg258.here hx rfl (hb hby at_261) rfl (l' := #[iv p0, iv p1, iv p2, iv p3, iv p4, iv p5, iv v4, iv v14, iv v21, iv v26, rv b30, iv v92, iv v134, iv v141, iv v148, iv (2 : Int32), iv v174, .unset, iv v261, .unset, .unset, .unset, .unset, .unset, .unset, .unset, .unset, .unset]) (by subst hv261; rfl) ?_
      exact kt
    rcases own_k2 v14 v261 hv261 hav with hs263 | hs263
    · subst hs263
      obtain ⟨v329, hv329⟩ : ∃ z : Int32, z = (v134 &&& (63 : Int32)) := ⟨_, rfl⟩
      obtain ⟨v336, hv336⟩ : ∃ z : Int32, z = (v141 &&& (63 : Int32)) := ⟨_, rfl⟩
      obtain ⟨v343, hv343⟩ : ∃ z : Int32, z = (v148 &&& (63 : Int32)) := ⟨_, rfl⟩
      refine own_st (B := Tg258.setTop (mkF m 385 #[iv p0, iv p1, iv p2, iv p3, iv p4, iv p5, iv v4, iv v14, iv v21, iv v26, rv b30, iv v92, iv v134, iv v141, iv v148, iv (2 : Int32), iv v174, .unset, iv (1 : Int32), iv (1 : Int32), iv v329, iv v336, iv v343, .unset, .unset, .unset, .unset, .unset] [(.int (0 : Int32)), (.int (0 : Int32)), (.int (0 : Int32)), (.int v174), (.int (2 : Int32))])) (fun target kt => ?_) ?_
      · show Steps p.tables e below (Tg258.setTop (mkF m 263 #[iv p0, iv p1, iv p2, iv p3, iv p4, iv p5, iv v4, iv v14, iv v21, iv v26, rv b30, iv v92, iv v134, iv v141, iv v148, iv (2 : Int32), iv v174, .unset, iv (1 : Int32), .unset, .unset, .unset, .unset, .unset, .unset, .unset, .unset, .unset] [])) target
        refine XS.iload Xg258.here hx rfl (hb hby at_263) rfl ?_
        refine XS.iconst Xg258.here hx rfl (hb hby at_265) ?_
        refine XS.icmpYes Xg258.here hx rfl (pc0 := 266) (pc' := 281) rfl (hb hby at_266) rfl (tlt (by decide : (1 : Int32) < (2 : Int32))).1 (by decide) (by decide) ?_
        refine XS.iload Xg258.here hx rfl (hb hby at_281) rfl ?_
        refine XS.iconst Xg258.here hx rfl (hb hby at_283) ?_
        refine XS.icmpYes Xg258.here hx rfl (pc0 := 284) (pc' := 299) rfl (hb hby at_284) rfl (tlt (by decide : (1 : Int32) < (3 : Int32))).1 (by decide) (by decide) ?_
        refine XS.iload Xg258.here hx rfl (hb hby at_299) rfl ?_
        refine XS.iconst Xg258.here hx rfl (hb hby at_301) ?_
        show Steps p.tables e below (Tg258.setTop (mkF m 302 #[iv p0, iv p1, iv p2, iv p3, iv p4, iv p5, iv v4, iv v14, iv v21, iv v26, rv b30, iv v92, iv v134, iv v141, iv v148, iv (2 : Int32), iv v174, .unset, iv (1 : Int32), .unset, .unset, .unset, .unset, .unset, .unset, .unset, .unset, .unset] [(.int (4 : Int32)), (.int (1 : Int32))])) target
        refine XS.icmpYes Xg258.here hx rfl (pc0 := 302) (pc' := 317) rfl (hb hby at_302) rfl (tlt (by decide : (1 : Int32) < (4 : Int32))).1 (by decide) (by decide) ?_
        refine XS.iconst Xg258.here hx rfl (hb hby at_317) ?_
        refine XS.goto Xg258.here hx rfl (pc0 := 318) (pc' := 322) rfl (hb hby at_318) (by decide) (by decide) ?_
        refine XS.istore Xg258.here hx rfl (hb hby at_322) rfl (l' := #[iv p0, iv p1, iv p2, iv p3, iv p4, iv p5, iv v4, iv v14, iv v21, iv v26, rv b30, iv v92, iv v134, iv v141, iv v148, iv (2 : Int32), iv v174, .unset, iv (1 : Int32), iv (1 : Int32), .unset, .unset, .unset, .unset, .unset, .unset, .unset, .unset]) rfl ?_
        refine XS.iload Xg258.here hx rfl (hb hby at_324) rfl ?_
        refine XS.bipush Xg258.here hx rfl (hb hby at_326) ?_
        refine XS.iand Xg258.here hx rfl (hb hby at_328) rfl ?_
        refine XS.istore Xg258.here hx rfl (hb hby at_329) rfl (l' := #[iv p0, iv p1, iv p2, iv p3, iv p4, iv p5, iv v4, iv v14, iv v21, iv v26, rv b30, iv v92, iv v134, iv v141, iv v148, iv (2 : Int32), iv v174, .unset, iv (1 : Int32), iv (1 : Int32), iv v329, .unset, .unset, .unset, .unset, .unset, .unset, .unset]) (by subst hv329; rfl) ?_
        show Steps p.tables e below (Tg258.setTop (mkF m 331 #[iv p0, iv p1, iv p2, iv p3, iv p4, iv p5, iv v4, iv v14, iv v21, iv v26, rv b30, iv v92, iv v134, iv v141, iv v148, iv (2 : Int32), iv v174, .unset, iv (1 : Int32), iv (1 : Int32), iv v329, .unset, .unset, .unset, .unset, .unset, .unset, .unset] [])) target
        refine XS.iload Xg258.here hx rfl (hb hby at_331) rfl ?_
        refine XS.bipush Xg258.here hx rfl (hb hby at_333) ?_
        refine XS.iand Xg258.here hx rfl (hb hby at_335) rfl ?_
        refine XS.istore Xg258.here hx rfl (hb hby at_336) rfl (l' := #[iv p0, iv p1, iv p2, iv p3, iv p4, iv p5, iv v4, iv v14, iv v21, iv v26, rv b30, iv v92, iv v134, iv v141, iv v148, iv (2 : Int32), iv v174, .unset, iv (1 : Int32), iv (1 : Int32), iv v329, iv v336, .unset, .unset, .unset, .unset, .unset, .unset]) (by subst hv336; rfl) ?_
        refine XS.iload Xg258.here hx rfl (hb hby at_338) rfl ?_
        refine XS.bipush Xg258.here hx rfl (hb hby at_340) ?_
        refine XS.iand Xg258.here hx rfl (hb hby at_342) rfl ?_
        refine XS.istore Xg258.here hx rfl (hb hby at_343) rfl (l' := #[iv p0, iv p1, iv p2, iv p3, iv p4, iv p5, iv v4, iv v14, iv v21, iv v26, rv b30, iv v92, iv v134, iv v141, iv v148, iv (2 : Int32), iv v174, .unset, iv (1 : Int32), iv (1 : Int32), iv v329, iv v336, iv v343, .unset, .unset, .unset, .unset, .unset]) (by subst hv343; rfl) ?_
        show Steps p.tables e below (Tg258.setTop (mkF m 345 #[iv p0, iv p1, iv p2, iv p3, iv p4, iv p5, iv v4, iv v14, iv v21, iv v26, rv b30, iv v92, iv v134, iv v141, iv v148, iv (2 : Int32), iv v174, .unset, iv (1 : Int32), iv (1 : Int32), iv v329, iv v336, iv v343, .unset, .unset, .unset, .unset, .unset] [])) target
        refine XS.iload Xg258.here hx rfl (hb hby at_345) rfl ?_
        refine XS.iload Xg258.here hx rfl (hb hby at_347) rfl ?_
        refine XS.iload Xg258.here hx rfl (hb hby at_349) rfl ?_
        refine XS.iconst Xg258.here hx rfl (hb hby at_351) ?_
        refine XS.icmpYes Xg258.here hx rfl (pc0 := 352) (pc' := 360) rfl (hb hby at_352) rfl (tlt (by decide : (1 : Int32) < (2 : Int32))).1 (by decide) (by decide) ?_
        refine XS.iconst Xg258.here hx rfl (hb hby at_360) ?_
        refine XS.iload Xg258.here hx rfl (hb hby at_361) rfl ?_
        refine XS.iconst Xg258.here hx rfl (hb hby at_363) ?_
        show Steps p.tables e below (Tg258.setTop (mkF m 364 #[iv p0, iv p1, iv p2, iv p3, iv p4, iv p5, iv v4, iv v14, iv v21, iv v26, rv b30, iv v92, iv v134, iv v141, iv v148, iv (2 : Int32), iv v174, .unset, iv (1 : Int32), iv (1 : Int32), iv v329, iv v336, iv v343, .unset, .unset, .unset, .unset, .unset] [(.int (3 : Int32)), (.int (1 : Int32)), (.int (0 : Int32)), (.int v174), (.int (2 : Int32))])) target
        refine XS.icmpYes Xg258.here hx rfl (pc0 := 364) (pc' := 372) rfl (hb hby at_364) rfl (tlt (by decide : (1 : Int32) < (3 : Int32))).1 (by decide) (by decide) ?_
        refine XS.iconst Xg258.here hx rfl (hb hby at_372) ?_
        refine XS.iload Xg258.here hx rfl (hb hby at_373) rfl ?_
        refine XS.iconst Xg258.here hx rfl (hb hby at_375) ?_
        refine XS.icmpYes Xg258.here hx rfl (pc0 := 376) (pc' := 384) rfl (hb hby at_376) rfl (tlt (by decide : (1 : Int32) < (4 : Int32))).1 (by decide) (by decide) ?_
        refine XS.iconst Xg258.here hx rfl (hb hby at_384) ?_
        exact kt
      obtain ⟨_, _, ⟨Tg385, Lg385, kg385, ng385⟩, -, Xg385, ⟨Lcg385, hQg385, lg385, yg385, zg385⟩, stg385⟩ := Jvm.LawKit.callS Xg258 hx (y := (⟨"com/example/psyche/psyche/XmlCharsSequenceLengthPinLaw", "compose", "(IIIII)I"⟩ : MethodName)) hown (mvT hZ (hw _ (List.mem_of_getElem? (i := 9) rfl))) (mvT hZ (hw _ (List.mem_of_getElem? (i := 10) rfl))) (mvT hZ (hw _ (List.mem_of_getElem? (i := 11) rfl))) (mvT hZ (hw _ (List.mem_of_getElem? (i := 12) rfl))) (by decide) (backOf (W := 0) (own_rm3 l Z a0 hw [] (2 : Int32) v174 (0 : Int32) (0 : Int32) (0 : Int32) hg128 n0 Zz_12) hZ (hw _ (List.mem_of_getElem? (i := 12) rfl)) (hw _ (List.mem_of_getElem? (i := 11) rfl)) (by decide) (by decide)) (g := (mkF m 385 #[iv p0, iv p1, iv p2, iv p3, iv p4, iv p5, iv v4, iv v14, iv v21, iv v26, rv b30, iv v92, iv v134, iv v141, iv v148, iv (2 : Int32), iv v174, .unset, iv (1 : Int32), iv (1 : Int32), iv v329, iv v336, iv v343, .unset, .unset, .unset, .unset, .unset] [(.int (0 : Int32)), (.int (0 : Int32)), (.int (0 : Int32)), (.int v174), (.int (2 : Int32))])) rfl (by rw [hml]; rfl) (argsL := [(.int (2 : Int32)), (.int v174), (.int (0 : Int32)), (.int (0 : Int32)), (.int (0 : Int32))]) (rest := []) (lenOf own_pd2 rfl) rfl (by show 2 * 0 + _ ≤ _; exact Nat.le_of_eq rfl) (hb hby at_385) (fun _ _ => ⟨rfl, eg258, (by decide : 1 + 0 ≤ _), (by decide : 8 + 0 ≤ _)⟩)
      dsimp only [Pt.U, Pt.locs, Pt.cells, Pt.slots] at Xg385 lg385 yg385 zg385 stg385 hQg385
      subst lg385 yg385 zg385
      obtain ⟨rfl, Ng385q, eg385⟩ := hQg385
      have Ng385 := Fr.app Ng258 Ng385q
      refine own_st (stg385) ?_
      obtain ⟨v388, hv388⟩ : ∃ z : Int32, z = (if (2 : Int32) = (2 : Int32) then ((v174 <<< ((6 : Int32) &&& 31)) ||| (0 : Int32)) else (if (2 : Int32) = (3 : Int32) then (((v174 <<< ((12 : Int32) &&& 31)) ||| ((0 : Int32) <<< ((6 : Int32) &&& 31))) ||| (0 : Int32)) else ((((v174 <<< ((18 : Int32) &&& 31)) ||| ((0 : Int32) <<< ((12 : Int32) &&& 31))) ||| ((0 : Int32) <<< ((6 : Int32) &&& 31))) ||| (0 : Int32)))) := ⟨_, rfl⟩
      refine own_st (B := Tg385.setTop (mkF m 433 #[iv p0, iv p1, iv p2, iv p3, iv p4, iv p5, iv v4, iv v14, iv v21, iv v26, rv b30, iv v92, iv v134, iv v141, iv v148, iv (2 : Int32), iv v174, .unset, iv (1 : Int32), iv (1 : Int32), iv v329, iv v336, iv v343, iv v388, .unset, .unset, .unset, .unset] [(.int (63 : Int32)), (.int (63 : Int32)), (.int (63 : Int32)), (.int v174), (.int (2 : Int32))])) (fun target kt => ?_) ?_
      · show Steps p.tables e below (Tg385.setTop (mkF m 388 #[iv p0, iv p1, iv p2, iv p3, iv p4, iv p5, iv v4, iv v14, iv v21, iv v26, rv b30, iv v92, iv v134, iv v141, iv v148, iv (2 : Int32), iv v174, .unset, iv (1 : Int32), iv (1 : Int32), iv v329, iv v336, iv v343, .unset, .unset, .unset, .unset, .unset] [(.int (if (2 : Int32) = (2 : Int32) then ((v174 <<< ((6 : Int32) &&& 31)) ||| (0 : Int32)) else (if (2 : Int32) = (3 : Int32) then (((v174 <<< ((12 : Int32) &&& 31)) ||| ((0 : Int32) <<< ((6 : Int32) &&& 31))) ||| (0 : Int32)) else ((((v174 <<< ((18 : Int32) &&& 31)) ||| ((0 : Int32) <<< ((12 : Int32) &&& 31))) ||| ((0 : Int32) <<< ((6 : Int32) &&& 31))) ||| (0 : Int32)))))])) target
        refine XS.istore Xg385.here hx rfl (hb hby at_388) rfl (l' := #[iv p0, iv p1, iv p2, iv p3, iv p4, iv p5, iv v4, iv v14, iv v21, iv v26, rv b30, iv v92, iv v134, iv v141, iv v148, iv (2 : Int32), iv v174, .unset, iv (1 : Int32), iv (1 : Int32), iv v329, iv v336, iv v343, iv v388, .unset, .unset, .unset, .unset]) (by subst hv388; rfl) ?_
        refine XS.iload Xg385.here hx rfl (hb hby at_390) rfl ?_
        refine XS.iload Xg385.here hx rfl (hb hby at_392) rfl ?_
        refine XS.iload Xg385.here hx rfl (hb hby at_394) rfl ?_
        refine XS.iconst Xg385.here hx rfl (hb hby at_396) ?_
        refine XS.icmpYes Xg385.here hx rfl (pc0 := 397) (pc' := 405) rfl (hb hby at_397) rfl (tlt (by decide : (1 : Int32) < (2 : Int32))).1 (by decide) (by decide) ?_
        refine XS.bipush Xg385.here hx rfl (hb hby at_405) ?_
        refine XS.iload Xg385.here hx rfl (hb hby at_407) rfl ?_
        show Steps p.tables e below (Tg385.setTop (mkF m 409 #[iv p0, iv p1, iv p2, iv p3, iv p4, iv p5, iv v4, iv v14, iv v21, iv v26, rv b30, iv v92, iv v134, iv v141, iv v148, iv (2 : Int32), iv v174, .unset, iv (1 : Int32), iv (1 : Int32), iv v329, iv v336, iv v343, iv v388, .unset, .unset, .unset, .unset] [(.int (1 : Int32)), (.int (63 : Int32)), (.int v174), (.int (2 : Int32))])) target
        refine XS.iconst Xg385.here hx rfl (hb hby at_409) ?_
        refine XS.icmpYes Xg385.here hx rfl (pc0 := 410) (pc' := 418) rfl (hb hby at_410) rfl (tlt (by decide : (1 : Int32) < (3 : Int32))).1 (by decide) (by decide) ?_
        refine XS.bipush Xg385.here hx rfl (hb hby at_418) ?_
        refine XS.iload Xg385.here hx rfl (hb hby at_420) rfl ?_
        refine XS.iconst Xg385.here hx rfl (hb hby at_422) ?_
        refine XS.icmpYes Xg385.here hx rfl (pc0 := 423) (pc' := 431) rfl (hb hby at_423) rfl (tlt (by decide : (1 : Int32) < (4 : Int32))).1 (by decide) (by decide) ?_
        refine XS.bipush Xg385.here hx rfl (hb hby at_431) ?_
        exact kt
      obtain ⟨_, _, ⟨Tg433, Lg433, kg433, ng433⟩, -, Xg433, ⟨Lcg433, hQg433, lg433, yg433, zg433⟩, stg433⟩ := Jvm.LawKit.callS Xg385 hx (y := (⟨"com/example/psyche/psyche/XmlCharsSequenceLengthPinLaw", "compose", "(IIIII)I"⟩ : MethodName)) hown (mvT hZ (hw _ (List.mem_of_getElem? (i := 9) rfl))) (mvT hZ (hw _ (List.mem_of_getElem? (i := 10) rfl))) (mvT hZ (hw _ (List.mem_of_getElem? (i := 11) rfl))) (mvT hZ (hw _ (List.mem_of_getElem? (i := 12) rfl))) (by decide) (backOf (W := 0) (own_rm3 l Z a0 hw [] (2 : Int32) v174 (63 : Int32) (63 : Int32) (63 : Int32) hg128 n0 Zz_12) hZ (hw _ (List.mem_of_getElem? (i := 12) rfl)) (hw _ (List.mem_of_getElem? (i := 11) rfl)) (by decide) (by decide)) (g := (mkF m 433 #[iv p0, iv p1, iv p2, iv p3, iv p4, iv p5, iv v4, iv v14, iv v21, iv v26, rv b30, iv v92, iv v134, iv v141, iv v148, iv (2 : Int32), iv v174, .unset, iv (1 : Int32), iv (1 : Int32), iv v329, iv v336, iv v343, iv v388, .unset, .unset, .unset, .unset] [(.int (63 : Int32)), (.int (63 : Int32)), (.int (63 : Int32)), (.int v174), (.int (2 : Int32))])) rfl (by rw [hml]; rfl) (argsL := [(.int (2 : Int32)), (.int v174), (.int (63 : Int32)), (.int (63 : Int32)), (.int (63 : Int32))]) (rest := []) (lenOf own_pd2 rfl) rfl (by show 2 * 0 + _ ≤ _; exact Nat.le_of_eq rfl) (hb hby at_433) (fun _ _ => ⟨rfl, eg385, (by decide : 1 + 0 ≤ _), (by decide : 8 + 0 ≤ _)⟩)
      dsimp only [Pt.U, Pt.locs, Pt.cells, Pt.slots] at Xg433 lg433 yg433 zg433 stg433 hQg433
      subst lg433 yg433 zg433
      obtain ⟨rfl, Ng433q, eg433⟩ := hQg433
      have Ng433 := Fr.app Ng385 Ng433q
      refine own_st (stg433) ?_
      obtain ⟨v436, hv436⟩ : ∃ z : Int32, z = (if (2 : Int32) = (2 : Int32) then ((v174 <<< ((6 : Int32) &&& 31)) ||| (63 : Int32)) else (if (2 : Int32) = (3 : Int32) then (((v174 <<< ((12 : Int32) &&& 31)) ||| ((63 : Int32) <<< ((6 : Int32) &&& 31))) ||| (63 : Int32)) else ((((v174 <<< ((18 : Int32) &&& 31)) ||| ((63 : Int32) <<< ((12 : Int32) &&& 31))) ||| ((63 : Int32) <<< ((6 : Int32) &&& 31))) ||| (63 : Int32)))) := ⟨_, rfl⟩
      refine own_st (B := Tg433.setTop (mkF m 487 #[iv p0, iv p1, iv p2, iv p3, iv p4, iv p5, iv v4, iv v14, iv v21, iv v26, rv b30, iv v92, iv v134, iv v141, iv v148, iv (2 : Int32), iv v174, .unset, iv (1 : Int32), iv (1 : Int32), iv v329, iv v336, iv v343, iv v388, iv v436, iv (128 : Int32), iv (2047 : Int32), .unset] [(.int (128 : Int32)), (.int v436)])) (fun target kt => ?_) ?_
      · show Steps p.tables e below (Tg433.setTop (mkF m 436 #[iv p0, iv p1, iv p2, iv p3, iv p4, iv p5, iv v4, iv v14, iv v21, iv v26, rv b30, iv v92, iv v134, iv v141, iv v148, iv (2 : Int32), iv v174, .unset, iv (1 : Int32), iv (1 : Int32), iv v329, iv v336, iv v343, iv v388, .unset, .unset, .unset, .unset] [(.int (if (2 : Int32) = (2 : Int32) then ((v174 <<< ((6 : Int32) &&& 31)) ||| (63 : Int32)) else (if (2 : Int32) = (3 : Int32) then (((v174 <<< ((12 : Int32) &&& 31)) ||| ((63 : Int32) <<< ((6 : Int32) &&& 31))) ||| (63 : Int32)) else ((((v174 <<< ((18 : Int32) &&& 31)) ||| ((63 : Int32) <<< ((12 : Int32) &&& 31))) ||| ((63 : Int32) <<< ((6 : Int32) &&& 31))) ||| (63 : Int32)))))])) target
        refine XS.istore Xg433.here hx rfl (hb hby at_436) rfl (l' := #[iv p0, iv p1, iv p2, iv p3, iv p4, iv p5, iv v4, iv v14, iv v21, iv v26, rv b30, iv v92, iv v134, iv v141, iv v148, iv (2 : Int32), iv v174, .unset, iv (1 : Int32), iv (1 : Int32), iv v329, iv v336, iv v343, iv v388, iv v436, .unset, .unset, .unset]) (by subst hv436; rfl) ?_
        refine XS.iload Xg433.here hx rfl (hb hby at_438) rfl ?_
        refine XS.iconst Xg433.here hx rfl (hb hby at_440) ?_
        refine XS.icmpNo Xg433.here hx rfl (hb hby at_441) rfl (teq (by decide : (2 : Int32) = (2 : Int32))).2 ?_
        refine XS.sipush Xg433.here hx rfl (hb hby at_444) ?_
        refine XS.istore Xg433.here hx rfl (hb hby at_447) rfl (l' := #[iv p0, iv p1, iv p2, iv p3, iv p4, iv p5, iv v4, iv v14, iv v21, iv v26, rv b30, iv v92, iv v134, iv v141, iv v148, iv (2 : Int32), iv v174, .unset, iv (1 : Int32), iv (1 : Int32), iv v329, iv v336, iv v343, iv v388, iv v436, iv (128 : Int32), .unset, .unset]) rfl ?_
        refine XS.sipush Xg433.here hx rfl (hb hby at_449) ?_
        refine XS.istore Xg433.here hx rfl (hb hby at_452) rfl (l' := #[iv p0, iv p1, iv p2, iv p3, iv p4, iv p5, iv v4, iv v14, iv v21, iv v26, rv b30, iv v92, iv v134, iv v141, iv v148, iv (2 : Int32), iv v174, .unset, iv (1 : Int32), iv (1 : Int32), iv v329, iv v336, iv v343, iv v388, iv v436, iv (128 : Int32), iv (2047 : Int32), .unset]) rfl ?_
        show Steps p.tables e below (Tg433.setTop (mkF m 454 #[iv p0, iv p1, iv p2, iv p3, iv p4, iv p5, iv v4, iv v14, iv v21, iv v26, rv b30, iv v92, iv v134, iv v141, iv v148, iv (2 : Int32), iv v174, .unset, iv (1 : Int32), iv (1 : Int32), iv v329, iv v336, iv v343, iv v388, iv v436, iv (128 : Int32), iv (2047 : Int32), .unset] [])) target
        refine XS.goto Xg433.here hx rfl (pc0 := 454) (pc' := 483) rfl (hb hby at_454) (by decide) (by decide) ?_
        refine XS.iload Xg433.here hx rfl (hb hby at_483) rfl ?_
        refine XS.iload Xg433.here hx rfl (hb hby at_485) rfl ?_
        exact kt
      obtain ⟨_, ⟨j522_s0, rfl, rfl⟩, st_M522⟩ : own_Lead p.tables e below (Tg433.setTop (mkF m 487 #[iv p0, iv p1, iv p2, iv p3, iv p4, iv p5, iv v4, iv v14, iv v21, iv v26, rv b30, iv v92, iv v134, iv v141, iv v148, iv (2 : Int32), iv v174, .unset, iv (1 : Int32), iv (1 : Int32), iv v329, iv v336, iv v343, iv v388, iv v436, iv (128 : Int32), iv (2047 : Int32), .unset] [(.int (128 : Int32)), (.int v436)])) (fun B => ∃ (j522_s0 : Int32), B = Tg433.setTop (mkF m 522 #[iv p0, iv p1, iv p2, iv p3, iv p4, iv p5, iv v4, iv v14, iv v21, iv v26, rv b30, iv v92, iv v134, iv v141, iv v148, iv (2 : Int32), iv v174, .unset, iv (1 : Int32), iv (1 : Int32), iv v329, iv v336, iv v343, iv v388, iv v436, iv (128 : Int32), iv (2047 : Int32), .unset] [(.int j522_s0)]) ∧ j522_s0 = own_b ((¬ (v436 < (128 : Int32)) ∧ (¬ ((2047 : Int32) < v388))))) := by
        by_cases c487 : v436 < (128 : Int32)
        · refine own_st (B := Tg433.setTop (mkF m 522 #[iv p0, iv p1, iv p2, iv p3, iv p4, iv p5, iv v4, iv v14, iv v21, iv v26, rv b30, iv v92, iv v134, iv v141, iv v148, iv (2 : Int32), iv v174, .unset, iv (1 : Int32), iv (1 : Int32), iv v329, iv v336, iv v343, iv v388, iv v436, iv (128 : Int32), iv (2047 : Int32), .unset] [(.int (0 : Int32))])) (fun target kt => ?_) ?_
          · show Steps p.tables e below (Tg433.setTop (mkF m 487 #[iv p0, iv p1, iv p2, iv p3, iv p4, iv p5, iv v4, iv v14, iv v21, iv v26, rv b30, iv v92, iv v134, iv v141, iv v148, iv (2 : Int32), iv v174, .unset, iv (1 : Int32), iv (1 : Int32), iv v329, iv v336, iv v343, iv v388, iv v436, iv (128 : Int32), iv (2047 : Int32), .unset] [(.int (128 : Int32)), (.int v436)])) target
            refine XS.icmpYes Xg433.here hx rfl (pc0 := 487) (pc' := 521) rfl (hb hby at_487) rfl (tlt c487).1 (by decide) (by decide) ?_
            refine XS.iconst Xg433.here hx rfl (hb hby at_521) ?_
            exact kt
          exact ⟨_, ⟨(0 : Int32), rfl, (own_b0 (fun w => w.1 c487)).symm⟩, fun _ k => k⟩
        · refine own_st (B := Tg433.setTop (mkF m 494 #[iv p0, iv p1, iv p2, iv p3, iv p4, iv p5, iv v4, iv v14, iv v21, iv v26, rv b30, iv v92, iv v134, iv v141, iv v148, iv (2 : Int32), iv v174, .unset, iv (1 : Int32), iv (1 : Int32), iv v329, iv v336, iv v343, iv v388, iv v436, iv (128 : Int32), iv (2047 : Int32), .unset] [(.int (2047 : Int32)), (.int v388)])) (fun target kt => ?_) ?_
          · show Steps p.tables e below (Tg433.setTop (mkF m 487 #[iv p0, iv p1, iv p2, iv p3, iv p4, iv p5, iv v4, iv v14, iv v21, iv v26, rv b30, iv v92, iv v134, iv v141, iv v148, iv (2 : Int32), iv v174, .unset, iv (1 : Int32), iv (1 : Int32), iv v329, iv v336, iv v343, iv v388, iv v436, iv (128 : Int32), iv (2047 : Int32), .unset] [(.int (128 : Int32)), (.int v436)])) target
            refine XS.icmpNo Xg433.here hx rfl (hb hby at_487) rfl (flt c487).1 ?_
            refine XS.iload Xg433.here hx rfl (hb hby at_490) rfl ?_
            refine XS.iload Xg433.here hx rfl (hb hby at_492) rfl ?_
            exact kt
          by_cases c494 : (2047 : Int32) < v388
          · refine own_st (B := Tg433.setTop (mkF m 522 #[iv p0, iv p1, iv p2, iv p3, iv p4, iv p5, iv v4, iv v14, iv v21, iv v26, rv b30, iv v92, iv v134, iv v141, iv v148, iv (2 : Int32), iv v174, .unset, iv (1 : Int32), iv (1 : Int32), iv v329, iv v336, iv v343, iv v388, iv v436, iv (128 : Int32), iv (2047 : Int32), .unset] [(.int (0 : Int32))])) (fun target kt => ?_) ?_
            · show Steps p.tables e below (Tg433.setTop (mkF m 494 #[iv p0, iv p1, iv p2, iv p3, iv p4, iv p5, iv v4, iv v14, iv v21, iv v26, rv b30, iv v92, iv v134, iv v141, iv v148, iv (2 : Int32), iv v174, .unset, iv (1 : Int32), iv (1 : Int32), iv v329, iv v336, iv v343, iv v388, iv v436, iv (128 : Int32), iv (2047 : Int32), .unset] [(.int (2047 : Int32)), (.int v388)])) target
              refine XS.icmpYes Xg433.here hx rfl (pc0 := 494) (pc' := 521) rfl (hb hby at_494) rfl (tlt c494).2.2.1 (by decide) (by decide) ?_
              refine XS.iconst Xg433.here hx rfl (hb hby at_521) ?_
              exact kt
            exact ⟨_, ⟨(0 : Int32), rfl, (own_b0 (fun w => (fun w => w c494) w.2)).symm⟩, fun _ k => k⟩
          · refine own_st (B := Tg433.setTop (mkF m 522 #[iv p0, iv p1, iv p2, iv p3, iv p4, iv p5, iv v4, iv v14, iv v21, iv v26, rv b30, iv v92, iv v134, iv v141, iv v148, iv (2 : Int32), iv v174, .unset, iv (1 : Int32), iv (1 : Int32), iv v329, iv v336, iv v343, iv v388, iv v436, iv (128 : Int32), iv (2047 : Int32), .unset] [(.int (1 : Int32))])) (fun target kt => ?_) ?_
            · show Steps p.tables e below (Tg433.setTop (mkF m 494 #[iv p0, iv p1, iv p2, iv p3, iv p4, iv p5, iv v4, iv v14, iv v21, iv v26, rv b30, iv v92, iv v134, iv v141, iv v148, iv (2 : Int32), iv v174, .unset, iv (1 : Int32), iv (1 : Int32), iv v329, iv v336, iv v343, iv v388, iv v436, iv (128 : Int32), iv (2047 : Int32), .unset] [(.int (2047 : Int32)), (.int v388)])) target
              refine XS.icmpNo Xg433.here hx rfl (hb hby at_494) rfl (flt c494).2.2.1 ?_
              refine XS.iload Xg433.here hx rfl (hb hby at_497) rfl ?_
              refine XS.iconst Xg433.here hx rfl (hb hby at_499) ?_
              refine XS.icmpYes Xg433.here hx rfl (pc0 := 500) (pc' := 517) rfl (hb hby at_500) rfl (feq (by decide : ¬ ((2 : Int32) = (3 : Int32)))).2 (by decide) (by decide) ?_
              refine XS.iconst Xg433.here hx rfl (hb hby at_517) ?_
              refine XS.goto Xg433.here hx rfl (pc0 := 518) (pc' := 522) rfl (hb hby at_518) (by decide) (by decide) ?_
              exact kt
            exact ⟨_, ⟨(1 : Int32), rfl, (own_b1 ⟨c487, c494⟩).symm⟩, fun _ k => k⟩
      refine own_st st_M522 ?_
      refine own_st (B := Tg433.setTop (mkF m 531 #[iv p0, iv p1, iv p2, iv p3, iv p4, iv p5, iv v4, iv v14, iv v21, iv v26, rv b30, iv v92, iv v134, iv v141, iv v148, iv (2 : Int32), iv v174, .unset, iv (1 : Int32), iv (1 : Int32), iv v329, iv v336, iv v343, iv v388, iv v436, iv (128 : Int32), iv (2047 : Int32), iv (own_b (¬ (v436 < (128 : Int32)) ∧ (¬ ((2047 : Int32) < v388))))] [(.int (own_b (¬ (v436 < (128 : Int32)) ∧ (¬ ((2047 : Int32) < v388)))))])) (fun target kt => ?_) ?_
      · show Steps p.tables e below (Tg433.setTop (mkF m 522 #[iv p0, iv p1, iv p2, iv p3, iv p4, iv p5, iv v4, iv v14, iv v21, iv v26, rv b30, iv v92, iv v134, iv v141, iv v148, iv (2 : Int32), iv v174, .unset, iv (1 : Int32), iv (1 : Int32), iv v329, iv v336, iv v343, iv v388, iv v436, iv (128 : Int32), iv (2047 : Int32), .unset] [(.int (own_b (¬ (v436 < (128 : Int32)) ∧ (¬ ((2047 : Int32) < v388)))))])) target
        refine XS.istore Xg433.here hx rfl (hb hby at_522) rfl (l' := #[iv p0, iv p1, iv p2, iv p3, iv p4, iv p5, iv v4, iv v14, iv v21, iv v26, rv b30, iv v92, iv v134, iv v141, iv v148, iv (2 : Int32), iv v174, .unset, iv (1 : Int32), iv (1 : Int32), iv v329, iv v336, iv v343, iv v388, iv v436, iv (128 : Int32), iv (2047 : Int32), iv (own_b (¬ (v436 < (128 : Int32)) ∧ (¬ ((2047 : Int32) < v388))))]) rfl ?_
        refine XS.iload Xg433.here hx rfl (hb hby at_524) rfl ?_
        refine XS.ifNo Xg433.here hx rfl (hb hby at_526) rfl ((if0 _ _).trans (feq (by decide : ¬ ((1 : Int32) = (0 : Int32)))).1) ?_
        refine XS.iload Xg433.here hx rfl (hb hby at_529) rfl ?_
        exact kt
      obtain ⟨_, ⟨j584_l17, rfl, hj584_l17⟩, st_M584⟩ : own_Lead p.tables e below (Tg433.setTop (mkF m 531 #[iv p0, iv p1, iv p2, iv p3, iv p4, iv p5, iv v4, iv v14, iv v21, iv v26, rv b30, iv v92, iv v134, iv v141, iv v148, iv (2 : Int32), iv v174, .unset, iv (1 : Int32), iv (1 : Int32), iv v329, iv v336, iv v343, iv v388, iv v436, iv (128 : Int32), iv (2047 : Int32), iv (own_b (¬ (v436 < (128 : Int32)) ∧ (¬ ((2047 : Int32) < v388))))] [(.int (own_b (¬ (v436 < (128 : Int32)) ∧ (¬ ((2047 : Int32) < v388)))))])) (fun B => ∃ (j584_l17 : Int32), B = Tg433.setTop (mkF m 584 #[iv p0, iv p1, iv p2, iv p3, iv p4, iv p5, iv v4, iv v14, iv v21, iv v26, rv b30, iv v92, iv v134, iv v141, iv v148, iv (2 : Int32), iv v174, iv j584_l17, iv (1 : Int32), iv (1 : Int32), iv v329, iv v336, iv v343, iv v388, iv v436, iv (128 : Int32), iv (2047 : Int32), iv (own_b (¬ (v436 < (128 : Int32)) ∧ (¬ ((2047 : Int32) < v388))))] []) ∧ j584_l17 = (if ¬ (v436 < (128 : Int32)) ∧ (¬ ((2047 : Int32) < v388)) then (0 : Int32) else (-1 : Int32))) := by
        by_cases c531 : ¬ (v436 < (128 : Int32)) ∧ (¬ ((2047 : Int32) < v388))
        · refine own_st (B := Tg433.setTop (mkF m 584 #[iv p0, iv p1, iv p2, iv p3, iv p4, iv p5, iv v4, iv v14, iv v21, iv v26, rv b30, iv v92, iv v134, iv v141, iv v148, iv (2 : Int32), iv v174, iv (0 : Int32), iv (1 : Int32), iv (1 : Int32), iv v329, iv v336, iv v343, iv v388, iv v436, iv (128 : Int32), iv (2047 : Int32), iv (own_b (¬ (v436 < (128 : Int32)) ∧ (¬ ((2047 : Int32) < v388))))] [])) (fun target kt => ?_) ?_
          · show Steps p.tables e below (Tg433.setTop (mkF m 531 #[iv p0, iv p1, iv p2, iv p3, iv p4, iv p5, iv v4, iv v14, iv v21, iv v26, rv b30, iv v92, iv v134, iv v141, iv v148, iv (2 : Int32), iv v174, .unset, iv (1 : Int32), iv (1 : Int32), iv v329, iv v336, iv v343, iv v388, iv v436, iv (128 : Int32), iv (2047 : Int32), iv (own_b (¬ (v436 < (128 : Int32)) ∧ (¬ ((2047 : Int32) < v388))))] [(.int (own_b (¬ (v436 < (128 : Int32)) ∧ (¬ ((2047 : Int32) < v388)))))])) target
            refine XS.ifYes Xg433.here hx rfl (pc0 := 531) (pc' := 540) rfl (hb hby at_531) rfl ((if0 _ _).trans (feq (own_bn0 rfl c531)).2) (by decide) (by decide) ?_
            refine XS.iload Xg433.here hx rfl (hb hby at_540) rfl ?_
            refine XS.iload Xg433.here hx rfl (hb hby at_542) rfl ?_
            refine XS.icmpNo Xg433.here hx rfl (hb hby at_544) rfl (tlt (by decide : (1 : Int32) < (2 : Int32))).2.1 ?_
            refine XS.iconst Xg433.here hx rfl (hb hby at_547) ?_
            refine XS.istore Xg433.here hx rfl (hb hby at_548) rfl (l' := #[iv p0, iv p1, iv p2, iv p3, iv p4, iv p5, iv v4, iv v14, iv v21, iv v26, rv b30, iv v92, iv v134, iv v141, iv v148, iv (2 : Int32), iv v174, iv (0 : Int32), iv (1 : Int32), iv (1 : Int32), iv v329, iv v336, iv v343, iv v388, iv v436, iv (128 : Int32), iv (2047 : Int32), iv (own_b (¬ (v436 < (128 : Int32)) ∧ (¬ ((2047 : Int32) < v388))))]) rfl ?_
            refine XS.goto Xg433.here hx rfl (pc0 := 550) (pc' := 584) rfl (hb hby at_550) (by decide) (by decide) ?_
            exact kt
          exact ⟨_, ⟨(0 : Int32), rfl, (if_pos c531).symm⟩, fun _ k => k⟩
        · refine own_st (B := Tg433.setTop (mkF m 584 #[iv p0, iv p1, iv p2, iv p3, iv p4, iv p5, iv v4, iv v14, iv v21, iv v26, rv b30, iv v92, iv v134, iv v141, iv v148, iv (2 : Int32), iv v174, iv (-1 : Int32), iv (1 : Int32), iv (1 : Int32), iv v329, iv v336, iv v343, iv v388, iv v436, iv (128 : Int32), iv (2047 : Int32), iv (own_b (¬ (v436 < (128 : Int32)) ∧ (¬ ((2047 : Int32) < v388))))] [])) (fun target kt => ?_) ?_
          · show Steps p.tables e below (Tg433.setTop (mkF m 531 #[iv p0, iv p1, iv p2, iv p3, iv p4, iv p5, iv v4, iv v14, iv v21, iv v26, rv b30, iv v92, iv v134, iv v141, iv v148, iv (2 : Int32), iv v174, .unset, iv (1 : Int32), iv (1 : Int32), iv v329, iv v336, iv v343, iv v388, iv v436, iv (128 : Int32), iv (2047 : Int32), iv (own_b (¬ (v436 < (128 : Int32)) ∧ (¬ ((2047 : Int32) < v388))))] [(.int (own_b (¬ (v436 < (128 : Int32)) ∧ (¬ ((2047 : Int32) < v388)))))])) target
            refine XS.ifNo Xg433.here hx rfl (hb hby at_531) rfl ((if0 _ _).trans (teq (own_b00 rfl c531)).2) ?_
            refine XS.iconst Xg433.here hx rfl (hb hby at_534) ?_
            refine XS.istore Xg433.here hx rfl (hb hby at_535) rfl (l' := #[iv p0, iv p1, iv p2, iv p3, iv p4, iv p5, iv v4, iv v14, iv v21, iv v26, rv b30, iv v92, iv v134, iv v141, iv v148, iv (2 : Int32), iv v174, iv (-1 : Int32), iv (1 : Int32), iv (1 : Int32), iv v329, iv v336, iv v343, iv v388, iv v436, iv (128 : Int32), iv (2047 : Int32), iv (own_b (¬ (v436 < (128 : Int32)) ∧ (¬ ((2047 : Int32) < v388))))]) rfl ?_
            refine XS.goto Xg433.here hx rfl (pc0 := 537) (pc' := 584) rfl (hb hby at_537) (by decide) (by decide) ?_
            exact kt
          exact ⟨_, ⟨(-1 : Int32), rfl, (if_neg c531).symm⟩, fun _ k => k⟩
      refine own_st st_M584 ?_
      refine own_st (B := Tg433.setTop (mkF m 590 #[iv p0, iv p1, iv p2, iv p3, iv p4, iv p5, iv v4, iv v14, iv v21, iv v26, rv b30, iv v92, iv v134, iv v141, iv v148, iv (2 : Int32), iv v174, iv j584_l17, iv (1 : Int32), iv (1 : Int32), iv v329, iv v336, iv v343, iv v388, iv v436, iv (128 : Int32), iv (2047 : Int32), iv (own_b (¬ (v436 < (128 : Int32)) ∧ (¬ ((2047 : Int32) < v388))))] [(.int v21), (.int v4), (.ref b30)])) (fun target kt => ?_) ?_
      · show Steps p.tables e below (Tg433.setTop (mkF m 584 #[iv p0, iv p1, iv p2, iv p3, iv p4, iv p5, iv v4, iv v14, iv v21, iv v26, rv b30, iv v92, iv v134, iv v141, iv v148, iv (2 : Int32), iv v174, iv j584_l17, iv (1 : Int32), iv (1 : Int32), iv v329, iv v336, iv v343, iv v388, iv v436, iv (128 : Int32), iv (2047 : Int32), iv (own_b (¬ (v436 < (128 : Int32)) ∧ (¬ ((2047 : Int32) < v388))))] [])) target
        refine XS.aload Xg433.here hx rfl (hb hby at_584) rfl rfl ?_
        refine XS.iload Xg433.here hx rfl (hb hby at_586) rfl ?_
        refine XS.iload Xg433.here hx rfl (hb hby at_588) rfl ?_
        exact kt
      obtain ⟨_, _, ⟨Tg590, Lg590, kg590, ng590⟩, -, Xg590, ⟨Lcg590, hQg590, lg590, yg590, zg590⟩, stg590⟩ := Jvm.LawKit.callS Xg433 hx (y := (⟨"com/example/psyche/psyche/XmlChars", "sequenceLength", "([BII)I"⟩ : MethodName)) hown (mvT hZ (hw _ (List.mem_of_getElem? (i := 1) rfl))) (mvT hZ (hw _ (List.mem_of_getElem? (i := 2) rfl))) (mvT hZ (hw _ (List.mem_of_getElem? (i := 3) rfl))) (mvT hZ (hw _ (List.mem_of_getElem? (i := 4) rfl))) (by decide) (backOf (W := 0) (own_rm1_B l Z a0 hw [] b30 v4 v21 a128 hg128 n0 Zz_12 F_24 (show v4 = (0 : Int32) ∨ v4 = (1 : Int32) ∨ v4 = (2 : Int32) ∨ v4 = (3 : Int32) from hat) (show ((a128 (v4).toNatClampNeg) &&& (255 : Int32)) < (224 : Int32) from (by rw [hLD, Int32.lt_iff_toInt_lt, show (224 : Int32).toInt = 224 by decide]; omega))) hZ (hw _ (List.mem_of_getElem? (i := 4) rfl)) (hw _ (List.mem_of_getElem? (i := 3) rfl)) (by decide) (by decide)) (g := (mkF m 590 #[iv p0, iv p1, iv p2, iv p3, iv p4, iv p5, iv v4, iv v14, iv v21, iv v26, rv b30, iv v92, iv v134, iv v141, iv v148, iv (2 : Int32), iv v174, iv j584_l17, iv (1 : Int32), iv (1 : Int32), iv v329, iv v336, iv v343, iv v388, iv v436, iv (128 : Int32), iv (2047 : Int32), iv (own_b (¬ (v436 < (128 : Int32)) ∧ (¬ ((2047 : Int32) < v388))))] [(.int v21), (.int v4), (.ref b30)])) rfl (by rw [hml]; rfl) (argsL := [(.ref b30), (.int v4), (.int v21)]) (rest := []) (lenOf own_pd0 rfl) rfl (by show 2 * 0 + _ ≤ _; exact Nat.le_of_eq rfl) (hb hby at_590) (fun _ _ => ⟨rfl, eg433, (by decide : 1 + 0 ≤ _), (by decide : 8 + 0 ≤ _)⟩)
      dsimp only [Pt.U, Pt.locs, Pt.cells, Pt.slots] at Xg590 lg590 yg590 zg590 stg590 hQg590
      subst lg590 yg590 zg590
      obtain ⟨rfl, Ng590q, eg590⟩ := hQg590
      have Ng590 := Fr.app Ng433 Ng590q
      refine own_st (stg590) ?_
      refine own_st (B := Tg590.setTop (mkF m 595 #[iv p0, iv p1, iv p2, iv p3, iv p4, iv p5, iv v4, iv v14, iv v21, iv v26, rv b30, iv v92, iv v134, iv v141, iv v148, iv (2 : Int32), iv v174, iv j584_l17, iv (1 : Int32), iv (1 : Int32), iv v329, iv v336, iv v343, iv v388, iv v436, iv (128 : Int32), iv (2047 : Int32), iv (own_b (¬ (v436 < (128 : Int32)) ∧ (¬ ((2047 : Int32) < v388))))] [(.int j584_l17), (.int (if ((a128 (v4).toNatClampNeg) &&& (255 : Int32)) < (194 : Int32) then (-1 : Int32) else (if (v4 + (1 : Int32)) < v21 then (if ((a128 (v4 + (1 : Int32)).toNatClampNeg) &&& (255 : Int32)) < (128 : Int32) then (-1 : Int32) else (if (191 : Int32) < ((a128 (v4 + (1 : Int32)).toNatClampNeg) &&& (255 : Int32)) then (-1 : Int32) else (if ((a128 (v4).toNatClampNeg) &&& (255 : Int32)) = (239 : Int32) then (if (a128 (v4 + (1 : Int32)).toNatClampNeg) = (-65 : Int32) then (if ((a128 (v4 + (2 : Int32)).toNatClampNeg) &&& (254 : Int32)) = (190 : Int32) then (-2 : Int32) else (2 : Int32)) else (2 : Int32)) else (2 : Int32)))) else (0 : Int32))))])) (fun target kt => ?_) ?_
      · show Steps p.tables e below (Tg590.setTop (mkF m 593 #[iv p0, iv p1, iv p2, iv p3, iv p4, iv p5, iv v4, iv v14, iv v21, iv v26, rv b30, iv v92, iv v134, iv v141, iv v148, iv (2 : Int32), iv v174, iv j584_l17, iv (1 : Int32), iv (1 : Int32), iv v329, iv v336, iv v343, iv v388, iv v436, iv (128 : Int32), iv (2047 : Int32), iv (own_b (¬ (v436 < (128 : Int32)) ∧ (¬ ((2047 : Int32) < v388))))] [(.int (if ((a128 (v4).toNatClampNeg) &&& (255 : Int32)) < (194 : Int32) then (-1 : Int32) else (if (v4 + (1 : Int32)) < v21 then (if ((a128 (v4 + (1 : Int32)).toNatClampNeg) &&& (255 : Int32)) < (128 : Int32) then (-1 : Int32) else (if (191 : Int32) < ((a128 (v4 + (1 : Int32)).toNatClampNeg) &&& (255 : Int32)) then (-1 : Int32) else (if ((a128 (v4).toNatClampNeg) &&& (255 : Int32)) = (239 : Int32) then (if (a128 (v4 + (1 : Int32)).toNatClampNeg) = (-65 : Int32) then (if ((a128 (v4 + (2 : Int32)).toNatClampNeg) &&& (254 : Int32)) = (190 : Int32) then (-2 : Int32) else (2 : Int32)) else (2 : Int32)) else (2 : Int32)))) else (0 : Int32))))])) target
        refine XS.iload Xg590.here hx rfl (hb hby at_593) rfl ?_
        exact kt
      have c595 : (if ((a128 (v4).toNatClampNeg) &&& (255 : Int32)) < (194 : Int32) then (-1 : Int32) else (if (v4 + (1 : Int32)) < v21 then (if ((a128 (v4 + (1 : Int32)).toNatClampNeg) &&& (255 : Int32)) < (128 : Int32) then (-1 : Int32) else (if (191 : Int32) < ((a128 (v4 + (1 : Int32)).toNatClampNeg) &&& (255 : Int32)) then (-1 : Int32) else (if ((a128 (v4).toNatClampNeg) &&& (255 : Int32)) = (239 : Int32) then (if (a128 (v4 + (1 : Int32)).toNatClampNeg) = (-65 : Int32) then (if ((a128 (v4 + (2 : Int32)).toNatClampNeg) &&& (254 : Int32)) = (190 : Int32) then (-2 : Int32) else (2 : Int32)) else (2 : Int32)) else (2 : Int32)))) else (0 : Int32))) = j584_l17 := by
        have hc1 : 0 ≤ v134.toInt ∧ v134.toInt < 256 := by rw [hv134, own_m255]; omega
        have hc2 : 0 ≤ v141.toInt ∧ v141.toInt < 256 := by rw [hv141, own_m255]; omega
        have hc3 : 0 ≤ v148.toInt ∧ v148.toInt < 256 := by rw [hv148, own_m255]; omega
        have hbits : v174.toInt = v92.toInt % 32 := by rw [hv174]; exact own_m31 v92
        have hq1 : v329.toInt = v134.toInt % 64 := by rw [hv329]; exact own_m63 v134
        have hq2 : v336.toInt = v141.toInt % 64 := by rw [hv336]; exact own_m63 v141
        have hq3 : v343.toInt = v148.toInt % 64 := by rw [hv343]; exact own_m63 v148
        have hz0 : (0 : Int32).toInt = 0 := by decide
        have hz63 : (63 : Int32).toInt = 63 := by decide
        have hmn : v388.toInt = (v92.toInt % 32) * 64 + (0) * 1 := by
          rw [hv388, if_pos rfl, own_p2 _ _ (by omega) (by omega) (by omega) (by omega)]
          omega
        have hmx : v436.toInt = (v92.toInt % 32) * 64 + (63) * 1 := by
          rw [hv436, if_pos rfl, own_p2 _ _ (by omega) (by omega) (by omega) (by omega)]
          omega
        have hkv := own_kv v14 (2 : Int32) (1 : Int32) hv261
        rw [show (2 : Int32).toInt = 2 by decide, show (1 : Int32).toInt = 1 by decide] at hkv
        rw [hj584_l17]
        simp only [hLD, hA1, hA2, hA3, hM1, hM2, own_c192 v134 hc1.1 hc1.2, own_c192 v141 hc2.1 hc2.2, own_c192 v148 hc3.1 hc3.2, own_lim1 v4 v14 hat hav v21 hv21, own_lim2 v4 v14 hat hav v21 hv21, own_lim3 v4 v14 hat hav v21 hv21]
        exact own_F1_1 v92 v134 v141 v148 v14 v388 v436 (by omega) hc1 hc2 hc3 hav (hkv.1 (by decide)) hmn hmx
      refine own_st (B := Tg590.setTop (mkF m 603 #[iv p0, iv p1, iv p2, iv p3, iv p4, iv p5, iv v4, iv v14, iv v21, iv v26, rv b30, iv v92, iv v134, iv v141, iv v148, iv (2 : Int32), iv v174, iv j584_l17, iv (1 : Int32), iv (1 : Int32), iv v329, iv v336, iv v343, iv v388, iv v436, iv (128 : Int32), iv (2047 : Int32), iv (own_b (¬ (v436 < (128 : Int32)) ∧ (¬ ((2047 : Int32) < v388))))] [(.int (1 : Int32))])) (fun target kt => ?_) ?_
      · show Steps p.tables e below (Tg590.setTop (mkF m 595 #[iv p0, iv p1, iv p2, iv p3, iv p4, iv p5, iv v4, iv v14, iv v21, iv v26, rv b30, iv v92, iv v134, iv v141, iv v148, iv (2 : Int32), iv v174, iv j584_l17, iv (1 : Int32), iv (1 : Int32), iv v329, iv v336, iv v343, iv v388, iv v436, iv (128 : Int32), iv (2047 : Int32), iv (own_b (¬ (v436 < (128 : Int32)) ∧ (¬ ((2047 : Int32) < v388))))] [(.int j584_l17), (.int (if ((a128 (v4).toNatClampNeg) &&& (255 : Int32)) < (194 : Int32) then (-1 : Int32) else (if (v4 + (1 : Int32)) < v21 then (if ((a128 (v4 + (1 : Int32)).toNatClampNeg) &&& (255 : Int32)) < (128 : Int32) then (-1 : Int32) else (if (191 : Int32) < ((a128 (v4 + (1 : Int32)).toNatClampNeg) &&& (255 : Int32)) then (-1 : Int32) else (if ((a128 (v4).toNatClampNeg) &&& (255 : Int32)) = (239 : Int32) then (if (a128 (v4 + (1 : Int32)).toNatClampNeg) = (-65 : Int32) then (if ((a128 (v4 + (2 : Int32)).toNatClampNeg) &&& (254 : Int32)) = (190 : Int32) then (-2 : Int32) else (2 : Int32)) else (2 : Int32)) else (2 : Int32)))) else (0 : Int32))))])) target
        refine XS.icmpNo Xg590.here hx rfl (hb hby at_595) rfl (teq c595).2 ?_
        refine XS.iconst Xg590.here hx rfl (hb hby at_598) ?_
        refine XS.goto Xg590.here hx rfl (pc0 := 599) (pc' := 603) rfl (hb hby at_599) (by decide) (by decide) ?_
        exact kt
      obtain ⟨fs, hr, hrun, hended, hW, hsame⟩ := Xg590.leave (v := some (.int (1 : Int32))) (fun h => by rw [Bd.returns] at h; cases h)
      have hend : Steps p.tables e below (Tg590.setTop (mkF m 603 #[iv p0, iv p1, iv p2, iv p3, iv p4, iv p5, iv v4, iv v14, iv v21, iv v26, rv b30, iv v92, iv v134, iv v141, iv v148, iv (2 : Int32), iv v174, iv j584_l17, iv (1 : Int32), iv (1 : Int32), iv v329, iv v336, iv v343, iv v388, iv v436, iv (128 : Int32), iv (2047 : Int32), iv (own_b (¬ (v436 < (128 : Int32)) ∧ (¬ ((2047 : Int32) < v388))))] [(.int (1 : Int32))])) (Tg590.setFrames fs) := by
        exact retN Xg590 hx (t := .boolean) Bd.returns (by simp) (hb hby at_603) hr
      refine own_fin hend ⟨_, hrun, hended, _, _, rfl, ?_, ⟨_, rfl⟩, hW, hsame.mono (by decide) (by decide)⟩
      show own_Q0 Z p0 p1 p2 p3 p4 p5 h0 n0 _ Tg590.heap _
      rw [eg590]
      exact ⟨rfl, Ng590⟩
    · subst hs263
      refine own_st (B := Tg258.setTop (mkF m 278 #[iv p0, iv p1, iv p2, iv p3, iv p4, iv p5, iv v4, iv v14, iv v21, iv v26, rv b30, iv v92, iv v134, iv v141, iv v148, iv (2 : Int32), iv v174, .unset, iv (2 : Int32), .unset, .unset, .unset, .unset, .unset, .unset, .unset, .unset, .unset] [(.int (128 : Int32)), (.int (v134 &&& (192 : Int32)))])) (fun target kt => ?_) ?_
      · show Steps p.tables e below (Tg258.setTop (mkF m 263 #[iv p0, iv p1, iv p2, iv p3, iv p4, iv p5, iv v4, iv v14, iv v21, iv v26, rv b30, iv v92, iv v134, iv v141, iv v148, iv (2 : Int32), iv v174, .unset, iv (2 : Int32), .unset, .unset, .unset, .unset, .unset, .unset, .unset, .unset, .unset] [])) target
        refine XS.iload Xg258.here hx rfl (hb hby at_263) rfl ?_
        refine XS.iconst Xg258.here hx rfl (hb hby at_265) ?_
        refine XS.icmpNo Xg258.here hx rfl (hb hby at_266) rfl (flt (by decide : ¬ ((2 : Int32) < (2 : Int32)))).1 ?_
        refine XS.iload Xg258.here hx rfl (hb hby at_269) rfl ?_
        refine XS.sipush Xg258.here hx rfl (hb hby at_271) ?_
        refine XS.iand Xg258.here hx rfl (hb hby at_274) rfl ?_
        refine XS.sipush Xg258.here hx rfl (hb hby at_275) ?_
        exact kt
      obtain ⟨_, ⟨j322_s0, rfl, rfl⟩, st_M322⟩ : own_Lead p.tables e below (Tg258.setTop (mkF m 278 #[iv p0, iv p1, iv p2, iv p3, iv p4, iv p5, iv v4, iv v14, iv v21, iv v26, rv b30, iv v92, iv v134, iv v141, iv v148, iv (2 : Int32), iv v174, .unset, iv (2 : Int32), .unset, .unset, .unset, .unset, .unset, .unset, .unset, .unset, .unset] [(.int (128 : Int32)), (.int (v134 &&& (192 : Int32)))])) (fun B => ∃ (j322_s0 : Int32), B = Tg258.setTop (mkF m 322 #[iv p0, iv p1, iv p2, iv p3, iv p4, iv p5, iv v4, iv v14, iv v21, iv v26, rv b30, iv v92, iv v134, iv v141, iv v148, iv (2 : Int32), iv v174, .unset, iv (2 : Int32), .unset, .unset, .unset, .unset, .unset, .unset, .unset, .unset, .unset] [(.int j322_s0)]) ∧ j322_s0 = own_b ((v134 &&& (192 : Int32)) = (128 : Int32))) := by
        by_cases c278 : (v134 &&& (192 : Int32)) = (128 : Int32)
        · refine own_st (B := Tg258.setTop (mkF m 322 #[iv p0, iv p1, iv p2, iv p3, iv p4, iv p5, iv v4, iv v14, iv v21, iv v26, rv b30, iv v92, iv v134, iv v141, iv v148, iv (2 : Int32), iv v174, .unset, iv (2 : Int32), .unset, .unset, .unset, .unset, .unset, .unset, .unset, .unset, .unset] [(.int (1 : Int32))])) (fun target kt => ?_) ?_
          · show Steps p.tables e below (Tg258.setTop (mkF m 278 #[iv p0, iv p1, iv p2, iv p3, iv p4, iv p5, iv v4, iv v14, iv v21, iv v26, rv b30, iv v92, iv v134, iv v141, iv v148, iv (2 : Int32), iv v174, .unset, iv (2 : Int32), .unset, .unset, .unset, .unset, .unset, .unset, .unset, .unset, .unset] [(.int (128 : Int32)), (.int (v134 &&& (192 : Int32)))])) target
            refine XS.icmpNo Xg258.here hx rfl (hb hby at_278) rfl (teq c278).2 ?_
            refine XS.iload Xg258.here hx rfl (hb hby at_281) rfl ?_
            refine XS.iconst Xg258.here hx rfl (hb hby at_283) ?_
            refine XS.icmpYes Xg258.here hx rfl (pc0 := 284) (pc' := 299) rfl (hb hby at_284) rfl (tlt (by decide : (2 : Int32) < (3 : Int32))).1 (by decide) (by decide) ?_
            refine XS.iload Xg258.here hx rfl (hb hby at_299) rfl ?_
            refine XS.iconst Xg258.here hx rfl (hb hby at_301) ?_
            refine XS.icmpYes Xg258.here hx rfl (pc0 := 302) (pc' := 317) rfl (hb hby at_302) rfl (tlt (by decide : (2 : Int32) < (4 : Int32))).1 (by decide) (by decide) ?_
            refine XS.iconst Xg258.here hx rfl (hb hby at_317) ?_
            show Steps p.tables e below (Tg258.setTop (mkF m 318 #[iv p0, iv p1, iv p2, iv p3, iv p4, iv p5, iv v4, iv v14, iv v21, iv v26, rv b30, iv v92, iv v134, iv v141, iv v148, iv (2 : Int32), iv v174, .unset, iv (2 : Int32), .unset, .unset, .unset, .unset, .unset, .unset, .unset, .unset, .unset] [(.int (1 : Int32))])) target
            refine XS.goto Xg258.here hx rfl (pc0 := 318) (pc' := 322) rfl (hb hby at_318) (by decide) (by decide) ?_
            exact kt
          exact ⟨_, ⟨(1 : Int32), rfl, (own_b1 c278).symm⟩, fun _ k => k⟩
        · refine own_st (B := Tg258.setTop (mkF m 322 #[iv p0, iv p1, iv p2, iv p3, iv p4, iv p5, iv v4, iv v14, iv v21, iv v26, rv b30, iv v92, iv v134, iv v141, iv v148, iv (2 : Int32), iv v174, .unset, iv (2 : Int32), .unset, .unset, .unset, .unset, .unset, .unset, .unset, .unset, .unset] [(.int (0 : Int32))])) (fun target kt => ?_) ?_
          · show Steps p.tables e below (Tg258.setTop (mkF m 278 #[iv p0, iv p1, iv p2, iv p3, iv p4, iv p5, iv v4, iv v14, iv v21, iv v26, rv b30, iv v92, iv v134, iv v141, iv v148, iv (2 : Int32), iv v174, .unset, iv (2 : Int32), .unset, .unset, .unset, .unset, .unset, .unset, .unset, .unset, .unset] [(.int (128 : Int32)), (.int (v134 &&& (192 : Int32)))])) target
            refine XS.icmpYes Xg258.here hx rfl (pc0 := 278) (pc' := 321) rfl (hb hby at_278) rfl (feq c278).2 (by decide) (by decide) ?_
            refine XS.iconst Xg258.here hx rfl (hb hby at_321) ?_
            exact kt
          exact ⟨_, ⟨(0 : Int32), rfl, (own_b0 c278).symm⟩, fun _ k => k⟩
      refine own_st st_M322 ?_
      obtain ⟨v329, hv329⟩ : ∃ z : Int32, z = (v134 &&& (63 : Int32)) := ⟨_, rfl⟩
      obtain ⟨v336, hv336⟩ : ∃ z : Int32, z = (v141 &&& (63 : Int32)) := ⟨_, rfl⟩
      obtain ⟨v343, hv343⟩ : ∃ z : Int32, z = (v148 &&& (63 : Int32)) := ⟨_, rfl⟩
      refine own_st (B := Tg258.setTop (mkF m 385 #[iv p0, iv p1, iv p2, iv p3, iv p4, iv p5, iv v4, iv v14, iv v21, iv v26, rv b30, iv v92, iv v134, iv v141, iv v148, iv (2 : Int32), iv v174, .unset, iv (2 : Int32), iv (own_b ((v134 &&& (192 : Int32)) = (128 : Int32))), iv v329, iv v336, iv v343, .unset, .unset, .unset, .unset, .unset] [(.int (0 : Int32)), (.int (0 : Int32)), (.int v329), (.int v174), (.int (2 : Int32))])) (fun target kt => ?_) ?_
      · show Steps p.tables e below (Tg258.setTop (mkF m 322 #[iv p0, iv p1, iv p2, iv p3, iv p4, iv p5, iv v4, iv v14, iv v21, iv v26, rv b30, iv v92, iv v134, iv v141, iv v148, iv (2 : Int32), iv v174, .unset, iv (2 : Int32), .unset, .unset, .unset, .unset, .unset, .unset, .unset, .unset, .unset] [(.int (own_b ((v134 &&& (192 : Int32)) = (128 : Int32))))])) target
        refine XS.istore Xg258.here hx rfl (hb hby at_322) rfl (l' := #[iv p0, iv p1, iv p2, iv p3, iv p4, iv p5, iv v4, iv v14, iv v21, iv v26, rv b30, iv v92, iv v134, iv v141, iv v148, iv (2 : Int32), iv v174, .unset, iv (2 : Int32), iv (own_b ((v134 &&& (192 : Int32)) = (128 : Int32))), .unset, .unset, .unset, .unset, .unset, .unset, .unset, .unset]) rfl ?_
        refine XS.iload Xg258.here hx rfl (hb hby at_324) rfl ?_
        refine XS.bipush Xg258.here hx rfl (hb hby at_326) ?_
        refine XS.iand Xg258.here hx rfl (hb hby at_328) rfl ?_
        refine XS.istore Xg258.here hx rfl (hb hby at_329) rfl (l' := #[iv p0, iv p1, iv p2, iv p3, iv p4, iv p5, iv v4, iv v14, iv v21, iv v26, rv b30, iv v92, iv v134, iv v141, iv v148, iv (2 : Int32), iv v174, .unset, iv (2 : Int32), iv (own_b ((v134 &&& (192 : Int32)) = (128 : Int32))), iv v329, .unset, .unset, .unset, .unset, .unset, .unset, .unset]) (by subst hv329; rfl) ?_
        refine XS.iload Xg258.here hx rfl (hb hby at_331) rfl ?_
        refine XS.bipush Xg258.here hx rfl (hb hby at_333) ?_
        refine XS.iand Xg258.here hx rfl (hb hby at_335) rfl ?_
        show Steps p.tables e below (Tg258.setTop (mkF m 336 #[iv p0, iv p1, iv p2, iv p3, iv p4, iv p5, iv v4, iv v14, iv v21, iv v26, rv b30, iv v92, iv v134, iv v141, iv v148, iv (2 : Int32), iv v174, .unset, iv (2 : Int32), iv (own_b ((v134 &&& (192 : Int32)) = (128 : Int32))), iv v329, .unset, .unset, .unset, .unset, .unset, .unset, .unset] [(.int (v141 &&& (63 : Int32)))])) target
        refine XS.istore Xg258.here hx rfl (hb hby at_336) rfl (l' := #[iv p0, iv p1, iv p2, iv p3, iv p4, iv p5, iv v4, iv v14, iv v21, iv v26, rv b30, iv v92, iv v134, iv v141, iv v148, iv (2 : Int32), iv v174, .unset, iv (2 : Int32), iv (own_b ((v134 &&& (192 : Int32)) = (128 : Int32))), iv v329, iv v336, .unset, .unset, .unset, .unset, .unset, .unset]) (by subst hv336; rfl) ?_
        refine XS.iload Xg258.here hx rfl (hb hby at_338) rfl ?_
        refine XS.bipush Xg258.here hx rfl (hb hby at_340) ?_
        refine XS.iand Xg258.here hx rfl (hb hby at_342) rfl ?_
        refine XS.istore Xg258.here hx rfl (hb hby at_343) rfl (l' := #[iv p0, iv p1, iv p2, iv p3, iv p4, iv p5, iv v4, iv v14, iv v21, iv v26, rv b30, iv v92, iv v134, iv v141, iv v148, iv (2 : Int32), iv v174, .unset, iv (2 : Int32), iv (own_b ((v134 &&& (192 : Int32)) = (128 : Int32))), iv v329, iv v336, iv v343, .unset, .unset, .unset, .unset, .unset]) (by subst hv343; rfl) ?_
        refine XS.iload Xg258.here hx rfl (hb hby at_345) rfl ?_
        refine XS.iload Xg258.here hx rfl (hb hby at_347) rfl ?_
        refine XS.iload Xg258.here hx rfl (hb hby at_349) rfl ?_
        show Steps p.tables e below (Tg258.setTop (mkF m 351 #[iv p0, iv p1, iv p2, iv p3, iv p4, iv p5, iv v4, iv v14, iv v21, iv v26, rv b30, iv v92, iv v134, iv v141, iv v148, iv (2 : Int32), iv v174, .unset, iv (2 : Int32), iv (own_b ((v134 &&& (192 : Int32)) = (128 : Int32))), iv v329, iv v336, iv v343, .unset, .unset, .unset, .unset, .unset] [(.int (2 : Int32)), (.int v174), (.int (2 : Int32))])) target
        refine XS.iconst Xg258.here hx rfl (hb hby at_351) ?_
        refine XS.icmpNo Xg258.here hx rfl (hb hby at_352) rfl (flt (by decide : ¬ ((2 : Int32) < (2 : Int32)))).1 ?_
        refine XS.iload Xg258.here hx rfl (hb hby at_355) rfl ?_
        refine XS.goto Xg258.here hx rfl (pc0 := 357) (pc' := 361) rfl (hb hby at_357) (by decide) (by decide) ?_
        refine XS.iload Xg258.here hx rfl (hb hby at_361) rfl ?_
        refine XS.iconst Xg258.here hx rfl (hb hby at_363) ?_
        refine XS.icmpYes Xg258.here hx rfl (pc0 := 364) (pc' := 372) rfl (hb hby at_364) rfl (tlt (by decide : (2 : Int32) < (3 : Int32))).1 (by decide) (by decide) ?_
        refine XS.iconst Xg258.here hx rfl (hb hby at_372) ?_
        show Steps p.tables e below (Tg258.setTop (mkF m 373 #[iv p0, iv p1, iv p2, iv p3, iv p4, iv p5, iv v4, iv v14, iv v21, iv v26, rv b30, iv v92, iv v134, iv v141, iv v148, iv (2 : Int32), iv v174, .unset, iv (2 : Int32), iv (own_b ((v134 &&& (192 : Int32)) = (128 : Int32))), iv v329, iv v336, iv v343, .unset, .unset, .unset, .unset, .unset] [(.int (0 : Int32)), (.int v329), (.int v174), (.int (2 : Int32))])) target
        refine XS.iload Xg258.here hx rfl (hb hby at_373) rfl ?_
        refine XS.iconst Xg258.here hx rfl (hb hby at_375) ?_
        refine XS.icmpYes Xg258.here hx rfl (pc0 := 376) (pc' := 384) rfl (hb hby at_376) rfl (tlt (by decide : (2 : Int32) < (4 : Int32))).1 (by decide) (by decide) ?_
        refine XS.iconst Xg258.here hx rfl (hb hby at_384) ?_
        exact kt
      obtain ⟨_, _, ⟨Tg385, Lg385, kg385, ng385⟩, -, Xg385, ⟨Lcg385, hQg385, lg385, yg385, zg385⟩, stg385⟩ := Jvm.LawKit.callS Xg258 hx (y := (⟨"com/example/psyche/psyche/XmlCharsSequenceLengthPinLaw", "compose", "(IIIII)I"⟩ : MethodName)) hown (mvT hZ (hw _ (List.mem_of_getElem? (i := 9) rfl))) (mvT hZ (hw _ (List.mem_of_getElem? (i := 10) rfl))) (mvT hZ (hw _ (List.mem_of_getElem? (i := 11) rfl))) (mvT hZ (hw _ (List.mem_of_getElem? (i := 12) rfl))) (by decide) (backOf (W := 0) (own_rm3 l Z a0 hw [] (2 : Int32) v174 v329 (0 : Int32) (0 : Int32) hg128 n0 Zz_12) hZ (hw _ (List.mem_of_getElem? (i := 12) rfl)) (hw _ (List.mem_of_getElem? (i := 11) rfl)) (by decide) (by decide)) (g := (mkF m 385 #[iv p0, iv p1, iv p2, iv p3, iv p4, iv p5, iv v4, iv v14, iv v21, iv v26, rv b30, iv v92, iv v134, iv v141, iv v148, iv (2 : Int32), iv v174, .unset, iv (2 : Int32), iv (own_b ((v134 &&& (192 : Int32)) = (128 : Int32))), iv v329, iv v336, iv v343, .unset, .unset, .unset, .unset, .unset] [(.int (0 : Int32)), (.int (0 : Int32)), (.int v329), (.int v174), (.int (2 : Int32))])) rfl (by rw [hml]; rfl) (argsL := [(.int (2 : Int32)), (.int v174), (.int v329), (.int (0 : Int32)), (.int (0 : Int32))]) (rest := []) (lenOf own_pd2 rfl) rfl (by show 2 * 0 + _ ≤ _; exact Nat.le_of_eq rfl) (hb hby at_385) (fun _ _ => ⟨rfl, eg258, (by decide : 1 + 0 ≤ _), (by decide : 8 + 0 ≤ _)⟩)
      dsimp only [Pt.U, Pt.locs, Pt.cells, Pt.slots] at Xg385 lg385 yg385 zg385 stg385 hQg385
      subst lg385 yg385 zg385
      obtain ⟨rfl, Ng385q, eg385⟩ := hQg385
      have Ng385 := Fr.app Ng258 Ng385q
      refine own_st (stg385) ?_
      obtain ⟨v388, hv388⟩ : ∃ z : Int32, z = (if (2 : Int32) = (2 : Int32) then ((v174 <<< ((6 : Int32) &&& 31)) ||| v329) else (if (2 : Int32) = (3 : Int32) then (((v174 <<< ((12 : Int32) &&& 31)) ||| (v329 <<< ((6 : Int32) &&& 31))) ||| (0 : Int32)) else ((((v174 <<< ((18 : Int32) &&& 31)) ||| (v329 <<< ((12 : Int32) &&& 31))) ||| ((0 : Int32) <<< ((6 : Int32) &&& 31))) ||| (0 : Int32)))) := ⟨_, rfl⟩
      refine own_st (B := Tg385.setTop (mkF m 433 #[iv p0, iv p1, iv p2, iv p3, iv p4, iv p5, iv v4, iv v14, iv v21, iv v26, rv b30, iv v92, iv v134, iv v141, iv v148, iv (2 : Int32), iv v174, .unset, iv (2 : Int32), iv (own_b ((v134 &&& (192 : Int32)) = (128 : Int32))), iv v329, iv v336, iv v343, iv v388, .unset, .unset, .unset, .unset] [(.int (63 : Int32)), (.int (63 : Int32)), (.int v329), (.int v174), (.int (2 : Int32))])) (fun target kt => ?_) ?_
      · show Steps p.tables e below (Tg385.setTop (mkF m 388 #[iv p0, iv p1, iv p2, iv p3, iv p4, iv p5, iv v4, iv v14, iv v21, iv v26, rv b30, iv v92, iv v134, iv v141, iv v148, iv (2 : Int32), iv v174, .unset, iv (2 : Int32), iv (own_b ((v134 &&& (192 : Int32)) = (128 : Int32))), iv v329, iv v336, iv v343, .unset, .unset, .unset, .unset, .unset] [(.int (if (2 : Int32) = (2 : Int32) then ((v174 <<< ((6 : Int32) &&& 31)) ||| v329) else (if (2 : Int32) = (3 : Int32) then (((v174 <<< ((12 : Int32) &&& 31)) ||| (v329 <<< ((6 : Int32) &&& 31))) ||| (0 : Int32)) else ((((v174 <<< ((18 : Int32) &&& 31)) ||| (v329 <<< ((12 : Int32) &&& 31))) ||| ((0 : Int32) <<< ((6 : Int32) &&& 31))) ||| (0 : Int32)))))])) target
        refine XS.istore Xg385.here hx rfl (hb hby at_388) rfl (l' := #[iv p0, iv p1, iv p2, iv p3, iv p4, iv p5, iv v4, iv v14, iv v21, iv v26, rv b30, iv v92, iv v134, iv v141, iv v148, iv (2 : Int32), iv v174, .unset, iv (2 : Int32), iv (own_b ((v134 &&& (192 : Int32)) = (128 : Int32))), iv v329, iv v336, iv v343, iv v388, .unset, .unset, .unset, .unset]) (by subst hv388; rfl) ?_
        refine XS.iload Xg385.here hx rfl (hb hby at_390) rfl ?_
        refine XS.iload Xg385.here hx rfl (hb hby at_392) rfl ?_
        refine XS.iload Xg385.here hx rfl (hb hby at_394) rfl ?_
        refine XS.iconst Xg385.here hx rfl (hb hby at_396) ?_
        refine XS.icmpNo Xg385.here hx rfl (hb hby at_397) rfl (flt (by decide : ¬ ((2 : Int32) < (2 : Int32)))).1 ?_
        refine XS.iload Xg385.here hx rfl (hb hby at_400) rfl ?_
        refine XS.goto Xg385.here hx rfl (pc0 := 402) (pc' := 407) rfl (hb hby at_402) (by decide) (by decide) ?_
        show Steps p.tables e below (Tg385.setTop (mkF m 407 #[iv p0, iv p1, iv p2, iv p3, iv p4, iv p5, iv v4, iv v14, iv v21, iv v26, rv b30, iv v92, iv v134, iv v141, iv v148, iv (2 : Int32), iv v174, .unset, iv (2 : Int32), iv (own_b ((v134 &&& (192 : Int32)) = (128 : Int32))), iv v329, iv v336, iv v343, iv v388, .unset, .unset, .unset, .unset] [(.int v329), (.int v174), (.int (2 : Int32))])) target
        refine XS.iload Xg385.here hx rfl (hb hby at_407) rfl ?_
        refine XS.iconst Xg385.here hx rfl (hb hby at_409) ?_
        refine XS.icmpYes Xg385.here hx rfl (pc0 := 410) (pc' := 418) rfl (hb hby at_410) rfl (tlt (by decide : (2 : Int32) < (3 : Int32))).1 (by decide) (by decide) ?_
        refine XS.bipush Xg385.here hx rfl (hb hby at_418) ?_
        refine XS.iload Xg385.here hx rfl (hb hby at_420) rfl ?_
        refine XS.iconst Xg385.here hx rfl (hb hby at_422) ?_
        refine XS.icmpYes Xg385.here hx rfl (pc0 := 423) (pc' := 431) rfl (hb hby at_423) rfl (tlt (by decide : (2 : Int32) < (4 : Int32))).1 (by decide) (by decide) ?_
        refine XS.bipush Xg385.here hx rfl (hb hby at_431) ?_
        exact kt
      obtain ⟨_, _, ⟨Tg433, Lg433, kg433, ng433⟩, -, Xg433, ⟨Lcg433, hQg433, lg433, yg433, zg433⟩, stg433⟩ := Jvm.LawKit.callS Xg385 hx (y := (⟨"com/example/psyche/psyche/XmlCharsSequenceLengthPinLaw", "compose", "(IIIII)I"⟩ : MethodName)) hown (mvT hZ (hw _ (List.mem_of_getElem? (i := 9) rfl))) (mvT hZ (hw _ (List.mem_of_getElem? (i := 10) rfl))) (mvT hZ (hw _ (List.mem_of_getElem? (i := 11) rfl))) (mvT hZ (hw _ (List.mem_of_getElem? (i := 12) rfl))) (by decide) (backOf (W := 0) (own_rm3 l Z a0 hw [] (2 : Int32) v174 v329 (63 : Int32) (63 : Int32) hg128 n0 Zz_12) hZ (hw _ (List.mem_of_getElem? (i := 12) rfl)) (hw _ (List.mem_of_getElem? (i := 11) rfl)) (by decide) (by decide)) (g := (mkF m 433 #[iv p0, iv p1, iv p2, iv p3, iv p4, iv p5, iv v4, iv v14, iv v21, iv v26, rv b30, iv v92, iv v134, iv v141, iv v148, iv (2 : Int32), iv v174, .unset, iv (2 : Int32), iv (own_b ((v134 &&& (192 : Int32)) = (128 : Int32))), iv v329, iv v336, iv v343, iv v388, .unset, .unset, .unset, .unset] [(.int (63 : Int32)), (.int (63 : Int32)), (.int v329), (.int v174), (.int (2 : Int32))])) rfl (by rw [hml]; rfl) (argsL := [(.int (2 : Int32)), (.int v174), (.int v329), (.int (63 : Int32)), (.int (63 : Int32))]) (rest := []) (lenOf own_pd2 rfl) rfl (by show 2 * 0 + _ ≤ _; exact Nat.le_of_eq rfl) (hb hby at_433) (fun _ _ => ⟨rfl, eg385, (by decide : 1 + 0 ≤ _), (by decide : 8 + 0 ≤ _)⟩)
      dsimp only [Pt.U, Pt.locs, Pt.cells, Pt.slots] at Xg433 lg433 yg433 zg433 stg433 hQg433
      subst lg433 yg433 zg433
      obtain ⟨rfl, Ng433q, eg433⟩ := hQg433
      have Ng433 := Fr.app Ng385 Ng433q
      refine own_st (stg433) ?_
      obtain ⟨v436, hv436⟩ : ∃ z : Int32, z = (if (2 : Int32) = (2 : Int32) then ((v174 <<< ((6 : Int32) &&& 31)) ||| v329) else (if (2 : Int32) = (3 : Int32) then (((v174 <<< ((12 : Int32) &&& 31)) ||| (v329 <<< ((6 : Int32) &&& 31))) ||| (63 : Int32)) else ((((v174 <<< ((18 : Int32) &&& 31)) ||| (v329 <<< ((12 : Int32) &&& 31))) ||| ((63 : Int32) <<< ((6 : Int32) &&& 31))) ||| (63 : Int32)))) := ⟨_, rfl⟩
      refine own_st (B := Tg433.setTop (mkF m 487 #[iv p0, iv p1, iv p2, iv p3, iv p4, iv p5, iv v4, iv v14, iv v21, iv v26, rv b30, iv v92, iv v134, iv v141, iv v148, iv (2 : Int32), iv v174, .unset, iv (2 : Int32), iv (own_b ((v134 &&& (192 : Int32)) = (128 : Int32))), iv v329, iv v336, iv v343, iv v388, iv v436, iv (128 : Int32), iv (2047 : Int32), .unset] [(.int (128 : Int32)), (.int v436)])) (fun target kt => ?_) ?_
      · show Steps p.tables e below (Tg433.setTop (mkF m 436 #[iv p0, iv p1, iv p2, iv p3, iv p4, iv p5, iv v4, iv v14, iv v21, iv v26, rv b30, iv v92, iv v134, iv v141, iv v148, iv (2 : Int32), iv v174, .unset, iv (2 : Int32), iv (own_b ((v134 &&& (192 : Int32)) = (128 : Int32))), iv v329, iv v336, iv v343, iv v388, .unset, .unset, .unset, .unset] [(.int (if (2 : Int32) = (2 : Int32) then ((v174 <<< ((6 : Int32) &&& 31)) ||| v329) else (if (2 : Int32) = (3 : Int32) then (((v174 <<< ((12 : Int32) &&& 31)) ||| (v329 <<< ((6 : Int32) &&& 31))) ||| (63 : Int32)) else ((((v174 <<< ((18 : Int32) &&& 31)) ||| (v329 <<< ((12 : Int32) &&& 31))) ||| ((63 : Int32) <<< ((6 : Int32) &&& 31))) ||| (63 : Int32)))))])) target
        refine XS.istore Xg433.here hx rfl (hb hby at_436) rfl (l' := #[iv p0, iv p1, iv p2, iv p3, iv p4, iv p5, iv v4, iv v14, iv v21, iv v26, rv b30, iv v92, iv v134, iv v141, iv v148, iv (2 : Int32), iv v174, .unset, iv (2 : Int32), iv (own_b ((v134 &&& (192 : Int32)) = (128 : Int32))), iv v329, iv v336, iv v343, iv v388, iv v436, .unset, .unset, .unset]) (by subst hv436; rfl) ?_
        refine XS.iload Xg433.here hx rfl (hb hby at_438) rfl ?_
        refine XS.iconst Xg433.here hx rfl (hb hby at_440) ?_
        refine XS.icmpNo Xg433.here hx rfl (hb hby at_441) rfl (teq (by decide : (2 : Int32) = (2 : Int32))).2 ?_
        refine XS.sipush Xg433.here hx rfl (hb hby at_444) ?_
        refine XS.istore Xg433.here hx rfl (hb hby at_447) rfl (l' := #[iv p0, iv p1, iv p2, iv p3, iv p4, iv p5, iv v4, iv v14, iv v21, iv v26, rv b30, iv v92, iv v134, iv v141, iv v148, iv (2 : Int32), iv v174, .unset, iv (2 : Int32), iv (own_b ((v134 &&& (192 : Int32)) = (128 : Int32))), iv v329, iv v336, iv v343, iv v388, iv v436, iv (128 : Int32), .unset, .unset]) rfl ?_
        refine XS.sipush Xg433.here hx rfl (hb hby at_449) ?_
        refine XS.istore Xg433.here hx rfl (hb hby at_452) rfl (l' := #[iv p0, iv p1, iv p2, iv p3, iv p4, iv p5, iv v4, iv v14, iv v21, iv v26, rv b30, iv v92, iv v134, iv v141, iv v148, iv (2 : Int32), iv v174, .unset, iv (2 : Int32), iv (own_b ((v134 &&& (192 : Int32)) = (128 : Int32))), iv v329, iv v336, iv v343, iv v388, iv v436, iv (128 : Int32), iv (2047 : Int32), .unset]) rfl ?_
        show Steps p.tables e below (Tg433.setTop (mkF m 454 #[iv p0, iv p1, iv p2, iv p3, iv p4, iv p5, iv v4, iv v14, iv v21, iv v26, rv b30, iv v92, iv v134, iv v141, iv v148, iv (2 : Int32), iv v174, .unset, iv (2 : Int32), iv (own_b ((v134 &&& (192 : Int32)) = (128 : Int32))), iv v329, iv v336, iv v343, iv v388, iv v436, iv (128 : Int32), iv (2047 : Int32), .unset] [])) target
        refine XS.goto Xg433.here hx rfl (pc0 := 454) (pc' := 483) rfl (hb hby at_454) (by decide) (by decide) ?_
        refine XS.iload Xg433.here hx rfl (hb hby at_483) rfl ?_
        refine XS.iload Xg433.here hx rfl (hb hby at_485) rfl ?_
        exact kt
      obtain ⟨_, ⟨j522_s0, rfl, rfl⟩, st_M522⟩ : own_Lead p.tables e below (Tg433.setTop (mkF m 487 #[iv p0, iv p1, iv p2, iv p3, iv p4, iv p5, iv v4, iv v14, iv v21, iv v26, rv b30, iv v92, iv v134, iv v141, iv v148, iv (2 : Int32), iv v174, .unset, iv (2 : Int32), iv (own_b ((v134 &&& (192 : Int32)) = (128 : Int32))), iv v329, iv v336, iv v343, iv v388, iv v436, iv (128 : Int32), iv (2047 : Int32), .unset] [(.int (128 : Int32)), (.int v436)])) (fun B => ∃ (j522_s0 : Int32), B = Tg433.setTop (mkF m 522 #[iv p0, iv p1, iv p2, iv p3, iv p4, iv p5, iv v4, iv v14, iv v21, iv v26, rv b30, iv v92, iv v134, iv v141, iv v148, iv (2 : Int32), iv v174, .unset, iv (2 : Int32), iv (own_b ((v134 &&& (192 : Int32)) = (128 : Int32))), iv v329, iv v336, iv v343, iv v388, iv v436, iv (128 : Int32), iv (2047 : Int32), .unset] [(.int j522_s0)]) ∧ j522_s0 = own_b ((¬ (v436 < (128 : Int32)) ∧ (¬ ((2047 : Int32) < v388))))) := by
        by_cases c487 : v436 < (128 : Int32)
        · refine own_st (B := Tg433.setTop (mkF m 522 #[iv p0, iv p1, iv p2, iv p3, iv p4, iv p5, iv v4, iv v14, iv v21, iv v26, rv b30, iv v92, iv v134, iv v141, iv v148, iv (2 : Int32), iv v174, .unset, iv (2 : Int32), iv (own_b ((v134 &&& (192 : Int32)) = (128 : Int32))), iv v329, iv v336, iv v343, iv v388, iv v436, iv (128 : Int32), iv (2047 : Int32), .unset] [(.int (0 : Int32))])) (fun target kt => ?_) ?_
          · show Steps p.tables e below (Tg433.setTop (mkF m 487 #[iv p0, iv p1, iv p2, iv p3, iv p4, iv p5, iv v4, iv v14, iv v21, iv v26, rv b30, iv v92, iv v134, iv v141, iv v148, iv (2 : Int32), iv v174, .unset, iv (2 : Int32), iv (own_b ((v134 &&& (192 : Int32)) = (128 : Int32))), iv v329, iv v336, iv v343, iv v388, iv v436, iv (128 : Int32), iv (2047 : Int32), .unset] [(.int (128 : Int32)), (.int v436)])) target
            refine XS.icmpYes Xg433.here hx rfl (pc0 := 487) (pc' := 521) rfl (hb hby at_487) rfl (tlt c487).1 (by decide) (by decide) ?_
            refine XS.iconst Xg433.here hx rfl (hb hby at_521) ?_
            exact kt
          exact ⟨_, ⟨(0 : Int32), rfl, (own_b0 (fun w => w.1 c487)).symm⟩, fun _ k => k⟩
        · refine own_st (B := Tg433.setTop (mkF m 494 #[iv p0, iv p1, iv p2, iv p3, iv p4, iv p5, iv v4, iv v14, iv v21, iv v26, rv b30, iv v92, iv v134, iv v141, iv v148, iv (2 : Int32), iv v174, .unset, iv (2 : Int32), iv (own_b ((v134 &&& (192 : Int32)) = (128 : Int32))), iv v329, iv v336, iv v343, iv v388, iv v436, iv (128 : Int32), iv (2047 : Int32), .unset] [(.int (2047 : Int32)), (.int v388)])) (fun target kt => ?_) ?_
          · show Steps p.tables e below (Tg433.setTop (mkF m 487 #[iv p0, iv p1, iv p2, iv p3, iv p4, iv p5, iv v4, iv v14, iv v21, iv v26, rv b30, iv v92, iv v134, iv v141, iv v148, iv (2 : Int32), iv v174, .unset, iv (2 : Int32), iv (own_b ((v134 &&& (192 : Int32)) = (128 : Int32))), iv v329, iv v336, iv v343, iv v388, iv v436, iv (128 : Int32), iv (2047 : Int32), .unset] [(.int (128 : Int32)), (.int v436)])) target
            refine XS.icmpNo Xg433.here hx rfl (hb hby at_487) rfl (flt c487).1 ?_
            refine XS.iload Xg433.here hx rfl (hb hby at_490) rfl ?_
            refine XS.iload Xg433.here hx rfl (hb hby at_492) rfl ?_
            exact kt
          by_cases c494 : (2047 : Int32) < v388
          · refine own_st (B := Tg433.setTop (mkF m 522 #[iv p0, iv p1, iv p2, iv p3, iv p4, iv p5, iv v4, iv v14, iv v21, iv v26, rv b30, iv v92, iv v134, iv v141, iv v148, iv (2 : Int32), iv v174, .unset, iv (2 : Int32), iv (own_b ((v134 &&& (192 : Int32)) = (128 : Int32))), iv v329, iv v336, iv v343, iv v388, iv v436, iv (128 : Int32), iv (2047 : Int32), .unset] [(.int (0 : Int32))])) (fun target kt => ?_) ?_
            · show Steps p.tables e below (Tg433.setTop (mkF m 494 #[iv p0, iv p1, iv p2, iv p3, iv p4, iv p5, iv v4, iv v14, iv v21, iv v26, rv b30, iv v92, iv v134, iv v141, iv v148, iv (2 : Int32), iv v174, .unset, iv (2 : Int32), iv (own_b ((v134 &&& (192 : Int32)) = (128 : Int32))), iv v329, iv v336, iv v343, iv v388, iv v436, iv (128 : Int32), iv (2047 : Int32), .unset] [(.int (2047 : Int32)), (.int v388)])) target
              refine XS.icmpYes Xg433.here hx rfl (pc0 := 494) (pc' := 521) rfl (hb hby at_494) rfl (tlt c494).2.2.1 (by decide) (by decide) ?_
              refine XS.iconst Xg433.here hx rfl (hb hby at_521) ?_
              exact kt
            exact ⟨_, ⟨(0 : Int32), rfl, (own_b0 (fun w => (fun w => w c494) w.2)).symm⟩, fun _ k => k⟩
          · refine own_st (B := Tg433.setTop (mkF m 522 #[iv p0, iv p1, iv p2, iv p3, iv p4, iv p5, iv v4, iv v14, iv v21, iv v26, rv b30, iv v92, iv v134, iv v141, iv v148, iv (2 : Int32), iv v174, .unset, iv (2 : Int32), iv (own_b ((v134 &&& (192 : Int32)) = (128 : Int32))), iv v329, iv v336, iv v343, iv v388, iv v436, iv (128 : Int32), iv (2047 : Int32), .unset] [(.int (1 : Int32))])) (fun target kt => ?_) ?_
            · show Steps p.tables e below (Tg433.setTop (mkF m 494 #[iv p0, iv p1, iv p2, iv p3, iv p4, iv p5, iv v4, iv v14, iv v21, iv v26, rv b30, iv v92, iv v134, iv v141, iv v148, iv (2 : Int32), iv v174, .unset, iv (2 : Int32), iv (own_b ((v134 &&& (192 : Int32)) = (128 : Int32))), iv v329, iv v336, iv v343, iv v388, iv v436, iv (128 : Int32), iv (2047 : Int32), .unset] [(.int (2047 : Int32)), (.int v388)])) target
              refine XS.icmpNo Xg433.here hx rfl (hb hby at_494) rfl (flt c494).2.2.1 ?_
              refine XS.iload Xg433.here hx rfl (hb hby at_497) rfl ?_
              refine XS.iconst Xg433.here hx rfl (hb hby at_499) ?_
              refine XS.icmpYes Xg433.here hx rfl (pc0 := 500) (pc' := 517) rfl (hb hby at_500) rfl (feq (by decide : ¬ ((2 : Int32) = (3 : Int32)))).2 (by decide) (by decide) ?_
              refine XS.iconst Xg433.here hx rfl (hb hby at_517) ?_
              refine XS.goto Xg433.here hx rfl (pc0 := 518) (pc' := 522) rfl (hb hby at_518) (by decide) (by decide) ?_
              exact kt
            exact ⟨_, ⟨(1 : Int32), rfl, (own_b1 ⟨c487, c494⟩).symm⟩, fun _ k => k⟩
      refine own_st st_M522 ?_
      refine own_st (B := Tg433.setTop (mkF m 526 #[iv p0, iv p1, iv p2, iv p3, iv p4, iv p5, iv v4, iv v14, iv v21, iv v26, rv b30, iv v92, iv v134, iv v141, iv v148, iv (2 : Int32), iv v174, .unset, iv (2 : Int32), iv (own_b ((v134 &&& (192 : Int32)) = (128 : Int32))), iv v329, iv v336, iv v343, iv v388, iv v436, iv (128 : Int32), iv (2047 : Int32), iv (own_b (¬ (v436 < (128 : Int32)) ∧ (¬ ((2047 : Int32) < v388))))] [(.int (own_b ((v134 &&& (192 : Int32)) = (128 : Int32))))])) (fun target kt => ?_) ?_
      · show Steps p.tables e below (Tg433.setTop (mkF m 522 #[iv p0, iv p1, iv p2, iv p3, iv p4, iv p5, iv v4, iv v14, iv v21, iv v26, rv b30, iv v92, iv v134, iv v141, iv v148, iv (2 : Int32), iv v174, .unset, iv (2 : Int32), iv (own_b ((v134 &&& (192 : Int32)) = (128 : Int32))), iv v329, iv v336, iv v343, iv v388, iv v436, iv (128 : Int32), iv (2047 : Int32), .unset] [(.int (own_b (¬ (v436 < (128 : Int32)) ∧ (¬ ((2047 : Int32) < v388)))))])) target
        refine XS.istore Xg433.here hx rfl (hb hby at_522) rfl (l' := #[iv p0, iv p1, iv p2, iv p3, iv p4, iv p5, iv v4, iv v14, iv v21, iv v26, rv b30, iv v92, iv v134, iv v141, iv v148, iv (2 : Int32), iv v174, .unset, iv (2 : Int32), iv (own_b ((v134 &&& (192 : Int32)) = (128 : Int32))), iv v329, iv v336, iv v343, iv v388, iv v436, iv (128 : Int32), iv (2047 : Int32), iv (own_b (¬ (v436 < (128 : Int32)) ∧ (¬ ((2047 : Int32) < v388))))]) rfl ?_
        refine XS.iload Xg433.here hx rfl (hb hby at_524) rfl ?_
        exact kt
      obtain ⟨_, ⟨j584_l17, rfl, hj584_l17⟩, st_M584⟩ : own_Lead p.tables e below (Tg433.setTop (mkF m 526 #[iv p0, iv p1, iv p2, iv p3, iv p4, iv p5, iv v4, iv v14, iv v21, iv v26, rv b30, iv v92, iv v134, iv v141, iv v148, iv (2 : Int32), iv v174, .unset, iv (2 : Int32), iv (own_b ((v134 &&& (192 : Int32)) = (128 : Int32))), iv v329, iv v336, iv v343, iv v388, iv v436, iv (128 : Int32), iv (2047 : Int32), iv (own_b (¬ (v436 < (128 : Int32)) ∧ (¬ ((2047 : Int32) < v388))))] [(.int (own_b ((v134 &&& (192 : Int32)) = (128 : Int32))))])) (fun B => ∃ (j584_l17 : Int32), B = Tg433.setTop (mkF m 584 #[iv p0, iv p1, iv p2, iv p3, iv p4, iv p5, iv v4, iv v14, iv v21, iv v26, rv b30, iv v92, iv v134, iv v141, iv v148, iv (2 : Int32), iv v174, iv j584_l17, iv (2 : Int32), iv (own_b ((v134 &&& (192 : Int32)) = (128 : Int32))), iv v329, iv v336, iv v343, iv v388, iv v436, iv (128 : Int32), iv (2047 : Int32), iv (own_b (¬ (v436 < (128 : Int32)) ∧ (¬ ((2047 : Int32) < v388))))] []) ∧ j584_l17 = (if (v134 &&& (192 : Int32)) = (128 : Int32) then (if ¬ (v436 < (128 : Int32)) ∧ (¬ ((2047 : Int32) < v388)) then (2 : Int32) else (-1 : Int32)) else (-1 : Int32))) := by
        by_cases c526 : (v134 &&& (192 : Int32)) = (128 : Int32)
        · refine own_st (B := Tg433.setTop (mkF m 531 #[iv p0, iv p1, iv p2, iv p3, iv p4, iv p5, iv v4, iv v14, iv v21, iv v26, rv b30, iv v92, iv v134, iv v141, iv v148, iv (2 : Int32), iv v174, .unset, iv (2 : Int32), iv (own_b ((v134 &&& (192 : Int32)) = (128 : Int32))), iv v329, iv v336, iv v343, iv v388, iv v436, iv (128 : Int32), iv (2047 : Int32), iv (own_b (¬ (v436 < (128 : Int32)) ∧ (¬ ((2047 : Int32) < v388))))] [(.int (own_b (¬ (v436 < (128 : Int32)) ∧ (¬ ((2047 : Int32) < v388)))))])) (fun target kt => ?_) ?_
          · show Steps p.tables e below (Tg433.setTop (mkF m 526 #[iv p0, iv p1, iv p2, iv p3, iv p4, iv p5, iv v4, iv v14, iv v21, iv v26, rv b30, iv v92, iv v134, iv v141, iv v148, iv (2 : Int32), iv v174, .unset, iv (2 : Int32), iv (own_b ((v134 &&& (192 : Int32)) = (128 : Int32))), iv v329, iv v336, iv v343, iv v388, iv v436, iv (128 : Int32), iv (2047 : Int32), iv (own_b (¬ (v436 < (128 : Int32)) ∧ (¬ ((2047 : Int32) < v388))))] [(.int (own_b ((v134 &&& (192 : Int32)) = (128 : Int32))))])) target
            refine XS.ifNo Xg433.here hx rfl (hb hby at_526) rfl ((if0 _ _).trans (feq (own_bn0 rfl c526)).1) ?_
            refine XS.iload Xg433.here hx rfl (hb hby at_529) rfl ?_
            exact kt
          by_cases c531 : ¬ (v436 < (128 : Int32)) ∧ (¬ ((2047 : Int32) < v388))
          · refine own_st (B := Tg433.setTop (mkF m 584 #[iv p0, iv p1, iv p2, iv p3, iv p4, iv p5, iv v4, iv v14, iv v21, iv v26, rv b30, iv v92, iv v134, iv v141, iv v148, iv (2 : Int32), iv v174, iv (2 : Int32), iv (2 : Int32), iv (own_b ((v134 &&& (192 : Int32)) = (128 : Int32))), iv v329, iv v336, iv v343, iv v388, iv v436, iv (128 : Int32), iv (2047 : Int32), iv (own_b (¬ (v436 < (128 : Int32)) ∧ (¬ ((2047 : Int32) < v388))))] [])) (fun target kt => ?_) ?_
            · show Steps p.tables e below (Tg433.setTop (mkF m 531 #[iv p0, iv p1, iv p2, iv p3, iv p4, iv p5, iv v4, iv v14, iv v21, iv v26, rv b30, iv v92, iv v134, iv v141, iv v148, iv (2 : Int32), iv v174, .unset, iv (2 : Int32), iv (own_b ((v134 &&& (192 : Int32)) = (128 : Int32))), iv v329, iv v336, iv v343, iv v388, iv v436, iv (128 : Int32), iv (2047 : Int32), iv (own_b (¬ (v436 < (128 : Int32)) ∧ (¬ ((2047 : Int32) < v388))))] [(.int (own_b (¬ (v436 < (128 : Int32)) ∧ (¬ ((2047 : Int32) < v388)))))])) target
              refine XS.ifYes Xg433.here hx rfl (pc0 := 531) (pc' := 540) rfl (hb hby at_531) rfl ((if0 _ _).trans (feq (own_bn0 rfl c531)).2) (by decide) (by decide) ?_
              refine XS.iload Xg433.here hx rfl (hb hby at_540) rfl ?_
              refine XS.iload Xg433.here hx rfl (hb hby at_542) rfl ?_
              refine XS.icmpYes Xg433.here hx rfl (pc0 := 544) (pc' := 553) rfl (hb hby at_544) rfl (flt (by decide : ¬ ((2 : Int32) < (2 : Int32)))).2.1 (by decide) (by decide) ?_
              refine XS.iload Xg433.here hx rfl (hb hby at_553) rfl ?_
              refine XS.iconst Xg433.here hx rfl (hb hby at_555) ?_
              refine XS.icmpYes Xg433.here hx rfl (pc0 := 556) (pc' := 580) rfl (hb hby at_556) rfl (feq (by decide : ¬ ((2 : Int32) = (3 : Int32)))).2 (by decide) (by decide) ?_
              refine XS.iload Xg433.here hx rfl (hb hby at_580) rfl ?_
              show Steps p.tables e below (Tg433.setTop (mkF m 582 #[iv p0, iv p1, iv p2, iv p3, iv p4, iv p5, iv v4, iv v14, iv v21, iv v26, rv b30, iv v92, iv v134, iv v141, iv v148, iv (2 : Int32), iv v174, .unset, iv (2 : Int32), iv (own_b ((v134 &&& (192 : Int32)) = (128 : Int32))), iv v329, iv v336, iv v343, iv v388, iv v436, iv (128 : Int32), iv (2047 : Int32), iv (own_b (¬ (v436 < (128 : Int32)) ∧ (¬ ((2047 : Int32) < v388))))] [(.int (2 : Int32))])) target
              refine XS.istore Xg433.here hx rfl (hb hby at_582) rfl (l' := #[iv p0, iv p1, iv p2, iv p3, iv p4, iv p5, iv v4, iv v14, iv v21, iv v26, rv b30, iv v92, iv v134, iv v141, iv v148, iv (2 : Int32), iv v174, iv (2 : Int32), iv (2 : Int32), iv (own_b ((v134 &&& (192 : Int32)) = (128 : Int32))), iv v329, iv v336, iv v343, iv v388, iv v436, iv (128 : Int32), iv (2047 : Int32), iv (own_b (¬ (v436 < (128 : Int32)) ∧ (¬ ((2047 : Int32) < v388))))]) rfl ?_
              exact kt
            exact ⟨_, ⟨(2 : Int32), rfl, (Eq.trans (if_pos c531).symm (if_pos c526).symm)⟩, fun _ k => k⟩
          · refine own_st (B := Tg433.setTop (mkF m 584 #[iv p0, iv p1, iv p2, iv p3, iv p4, iv p5, iv v4, iv v14, iv v21, iv v26, rv b30, iv v92, iv v134, iv v141, iv v148, iv (2 : Int32), iv v174, iv (-1 : Int32), iv (2 : Int32), iv (own_b ((v134 &&& (192 : Int32)) = (128 : Int32))), iv v329, iv v336, iv v343, iv v388, iv v436, iv (128 : Int32), iv (2047 : Int32), iv (own_b (¬ (v436 < (128 : Int32)) ∧ (¬ ((2047 : Int32) < v388))))] [])) (fun target kt => ?_) ?_
            · show Steps p.tables e below (Tg433.setTop (mkF m 531 #[iv p0, iv p1, iv p2, iv p3, iv p4, iv p5, iv v4, iv v14, iv v21, iv v26, rv b30, iv v92, iv v134, iv v141, iv v148, iv (2 : Int32), iv v174, .unset, iv (2 : Int32), iv (own_b ((v134 &&& (192 : Int32)) = (128 : Int32))), iv v329, iv v336, iv v343, iv v388, iv v436, iv (128 : Int32), iv (2047 : Int32), iv (own_b (¬ (v436 < (128 : Int32)) ∧ (¬ ((2047 : Int32) < v388))))] [(.int (own_b (¬ (v436 < (128 : Int32)) ∧ (¬ ((2047 : Int32) < v388)))))])) target
              refine XS.ifNo Xg433.here hx rfl (hb hby at_531) rfl ((if0 _ _).trans (teq (own_b00 rfl c531)).2) ?_
              refine XS.iconst Xg433.here hx rfl (hb hby at_534) ?_
              refine XS.istore Xg433.here hx rfl (hb hby at_535) rfl (l' := #[iv p0, iv p1, iv p2, iv p3, iv p4, iv p5, iv v4, iv v14, iv v21, iv v26, rv b30, iv v92, iv v134, iv v141, iv v148, iv (2 : Int32), iv v174, iv (-1 : Int32), iv (2 : Int32), iv (own_b ((v134 &&& (192 : Int32)) = (128 : Int32))), iv v329, iv v336, iv v343, iv v388, iv v436, iv (128 : Int32), iv (2047 : Int32), iv (own_b (¬ (v436 < (128 : Int32)) ∧ (¬ ((2047 : Int32) < v388))))]) rfl ?_
              refine XS.goto Xg433.here hx rfl (pc0 := 537) (pc' := 584) rfl (hb hby at_537) (by decide) (by decide) ?_
              exact kt
            exact ⟨_, ⟨(-1 : Int32), rfl, (Eq.trans (if_neg c531).symm (if_pos c526).symm)⟩, fun _ k => k⟩
        · refine own_st (B := Tg433.setTop (mkF m 584 #[iv p0, iv p1, iv p2, iv p3, iv p4, iv p5, iv v4, iv v14, iv v21, iv v26, rv b30, iv v92, iv v134, iv v141, iv v148, iv (2 : Int32), iv v174, iv (-1 : Int32), iv (2 : Int32), iv (own_b ((v134 &&& (192 : Int32)) = (128 : Int32))), iv v329, iv v336, iv v343, iv v388, iv v436, iv (128 : Int32), iv (2047 : Int32), iv (own_b (¬ (v436 < (128 : Int32)) ∧ (¬ ((2047 : Int32) < v388))))] [])) (fun target kt => ?_) ?_
          · show Steps p.tables e below (Tg433.setTop (mkF m 526 #[iv p0, iv p1, iv p2, iv p3, iv p4, iv p5, iv v4, iv v14, iv v21, iv v26, rv b30, iv v92, iv v134, iv v141, iv v148, iv (2 : Int32), iv v174, .unset, iv (2 : Int32), iv (own_b ((v134 &&& (192 : Int32)) = (128 : Int32))), iv v329, iv v336, iv v343, iv v388, iv v436, iv (128 : Int32), iv (2047 : Int32), iv (own_b (¬ (v436 < (128 : Int32)) ∧ (¬ ((2047 : Int32) < v388))))] [(.int (own_b ((v134 &&& (192 : Int32)) = (128 : Int32))))])) target
            refine XS.ifYes Xg433.here hx rfl (pc0 := 526) (pc' := 534) rfl (hb hby at_526) rfl ((if0 _ _).trans (teq (own_b00 rfl c526)).1) (by decide) (by decide) ?_
            refine XS.iconst Xg433.here hx rfl (hb hby at_534) ?_
            refine XS.istore Xg433.here hx rfl (hb hby at_535) rfl (l' := #[iv p0, iv p1, iv p2, iv p3, iv p4, iv p5, iv v4, iv v14, iv v21, iv v26, rv b30, iv v92, iv v134, iv v141, iv v148, iv (2 : Int32), iv v174, iv (-1 : Int32), iv (2 : Int32), iv (own_b ((v134 &&& (192 : Int32)) = (128 : Int32))), iv v329, iv v336, iv v343, iv v388, iv v436, iv (128 : Int32), iv (2047 : Int32), iv (own_b (¬ (v436 < (128 : Int32)) ∧ (¬ ((2047 : Int32) < v388))))]) rfl ?_
            refine XS.goto Xg433.here hx rfl (pc0 := 537) (pc' := 584) rfl (hb hby at_537) (by decide) (by decide) ?_
            exact kt
          exact ⟨_, ⟨(-1 : Int32), rfl, (if_neg c526).symm⟩, fun _ k => k⟩
      refine own_st st_M584 ?_
      refine own_st (B := Tg433.setTop (mkF m 590 #[iv p0, iv p1, iv p2, iv p3, iv p4, iv p5, iv v4, iv v14, iv v21, iv v26, rv b30, iv v92, iv v134, iv v141, iv v148, iv (2 : Int32), iv v174, iv j584_l17, iv (2 : Int32), iv (own_b ((v134 &&& (192 : Int32)) = (128 : Int32))), iv v329, iv v336, iv v343, iv v388, iv v436, iv (128 : Int32), iv (2047 : Int32), iv (own_b (¬ (v436 < (128 : Int32)) ∧ (¬ ((2047 : Int32) < v388))))] [(.int v21), (.int v4), (.ref b30)])) (fun target kt => ?_) ?_
      · show Steps p.tables e below (Tg433.setTop (mkF m 584 #[iv p0, iv p1, iv p2, iv p3, iv p4, iv p5, iv v4, iv v14, iv v21, iv v26, rv b30, iv v92, iv v134, iv v141, iv v148, iv (2 : Int32), iv v174, iv j584_l17, iv (2 : Int32), iv (own_b ((v134 &&& (192 : Int32)) = (128 : Int32))), iv v329, iv v336, iv v343, iv v388, iv v436, iv (128 : Int32), iv (2047 : Int32), iv (own_b (¬ (v436 < (128 : Int32)) ∧ (¬ ((2047 : Int32) < v388))))] [])) target
        refine XS.aload Xg433.here hx rfl (hb hby at_584) rfl rfl ?_
        refine XS.iload Xg433.here hx rfl (hb hby at_586) rfl ?_
        refine XS.iload Xg433.here hx rfl (hb hby at_588) rfl ?_
        exact kt
      obtain ⟨_, _, ⟨Tg590, Lg590, kg590, ng590⟩, -, Xg590, ⟨Lcg590, hQg590, lg590, yg590, zg590⟩, stg590⟩ := Jvm.LawKit.callS Xg433 hx (y := (⟨"com/example/psyche/psyche/XmlChars", "sequenceLength", "([BII)I"⟩ : MethodName)) hown (mvT hZ (hw _ (List.mem_of_getElem? (i := 1) rfl))) (mvT hZ (hw _ (List.mem_of_getElem? (i := 2) rfl))) (mvT hZ (hw _ (List.mem_of_getElem? (i := 3) rfl))) (mvT hZ (hw _ (List.mem_of_getElem? (i := 4) rfl))) (by decide) (backOf (W := 0) (own_rm1_B l Z a0 hw [] b30 v4 v21 a128 hg128 n0 Zz_12 F_24 (show v4 = (0 : Int32) ∨ v4 = (1 : Int32) ∨ v4 = (2 : Int32) ∨ v4 = (3 : Int32) from hat) (show ((a128 (v4).toNatClampNeg) &&& (255 : Int32)) < (224 : Int32) from (by rw [hLD, Int32.lt_iff_toInt_lt, show (224 : Int32).toInt = 224 by decide]; omega))) hZ (hw _ (List.mem_of_getElem? (i := 4) rfl)) (hw _ (List.mem_of_getElem? (i := 3) rfl)) (by decide) (by decide)) (g := (mkF m 590 #[iv p0, iv p1, iv p2, iv p3, iv p4, iv p5, iv v4, iv v14, iv v21, iv v26, rv b30, iv v92, iv v134, iv v141, iv v148, iv (2 : Int32), iv v174, iv j584_l17, iv (2 : Int32), iv (own_b ((v134 &&& (192 : Int32)) = (128 : Int32))), iv v329, iv v336, iv v343, iv v388, iv v436, iv (128 : Int32), iv (2047 : Int32), iv (own_b (¬ (v436 < (128 : Int32)) ∧ (¬ ((2047 : Int32) < v388))))] [(.int v21), (.int v4), (.ref b30)])) rfl (by rw [hml]; rfl) (argsL := [(.ref b30), (.int v4), (.int v21)]) (rest := []) (lenOf own_pd0 rfl) rfl (by show 2 * 0 + _ ≤ _; exact Nat.le_of_eq rfl) (hb hby at_590) (fun _ _ => ⟨rfl, eg433, (by decide : 1 + 0 ≤ _), (by decide : 8 + 0 ≤ _)⟩)
      dsimp only [Pt.U, Pt.locs, Pt.cells, Pt.slots] at Xg590 lg590 yg590 zg590 stg590 hQg590
      subst lg590 yg590 zg590
      obtain ⟨rfl, Ng590q, eg590⟩ := hQg590
      have Ng590 := Fr.app Ng433 Ng590q
      refine own_st (stg590) ?_
      refine own_st (B := Tg590.setTop (mkF m 595 #[iv p0, iv p1, iv p2, iv p3, iv p4, iv p5, iv v4, iv v14, iv v21, iv v26, rv b30, iv v92, iv v134, iv v141, iv v148, iv (2 : Int32), iv v174, iv j584_l17, iv (2 : Int32), iv (own_b ((v134 &&& (192 : Int32)) = (128 : Int32))), iv v329, iv v336, iv v343, iv v388, iv v436, iv (128 : Int32), iv (2047 : Int32), iv (own_b (¬ (v436 < (128 : Int32)) ∧ (¬ ((2047 : Int32) < v388))))] [(.int j584_l17), (.int (if ((a128 (v4).toNatClampNeg) &&& (255 : Int32)) < (194 : Int32) then (-1 : Int32) else (if (v4 + (1 : Int32)) < v21 then (if ((a128 (v4 + (1 : Int32)).toNatClampNeg) &&& (255 : Int32)) < (128 : Int32) then (-1 : Int32) else (if (191 : Int32) < ((a128 (v4 + (1 : Int32)).toNatClampNeg) &&& (255 : Int32)) then (-1 : Int32) else (if ((a128 (v4).toNatClampNeg) &&& (255 : Int32)) = (239 : Int32) then (if (a128 (v4 + (1 : Int32)).toNatClampNeg) = (-65 : Int32) then (if ((a128 (v4 + (2 : Int32)).toNatClampNeg) &&& (254 : Int32)) = (190 : Int32) then (-2 : Int32) else (2 : Int32)) else (2 : Int32)) else (2 : Int32)))) else (0 : Int32))))])) (fun target kt => ?_) ?_
      · show Steps p.tables e below (Tg590.setTop (mkF m 593 #[iv p0, iv p1, iv p2, iv p3, iv p4, iv p5, iv v4, iv v14, iv v21, iv v26, rv b30, iv v92, iv v134, iv v141, iv v148, iv (2 : Int32), iv v174, iv j584_l17, iv (2 : Int32), iv (own_b ((v134 &&& (192 : Int32)) = (128 : Int32))), iv v329, iv v336, iv v343, iv v388, iv v436, iv (128 : Int32), iv (2047 : Int32), iv (own_b (¬ (v436 < (128 : Int32)) ∧ (¬ ((2047 : Int32) < v388))))] [(.int (if ((a128 (v4).toNatClampNeg) &&& (255 : Int32)) < (194 : Int32) then (-1 : Int32) else (if (v4 + (1 : Int32)) < v21 then (if ((a128 (v4 + (1 : Int32)).toNatClampNeg) &&& (255 : Int32)) < (128 : Int32) then (-1 : Int32) else (if (191 : Int32) < ((a128 (v4 + (1 : Int32)).toNatClampNeg) &&& (255 : Int32)) then (-1 : Int32) else (if ((a128 (v4).toNatClampNeg) &&& (255 : Int32)) = (239 : Int32) then (if (a128 (v4 + (1 : Int32)).toNatClampNeg) = (-65 : Int32) then (if ((a128 (v4 + (2 : Int32)).toNatClampNeg) &&& (254 : Int32)) = (190 : Int32) then (-2 : Int32) else (2 : Int32)) else (2 : Int32)) else (2 : Int32)))) else (0 : Int32))))])) target
        refine XS.iload Xg590.here hx rfl (hb hby at_593) rfl ?_
        exact kt
      have c595 : (if ((a128 (v4).toNatClampNeg) &&& (255 : Int32)) < (194 : Int32) then (-1 : Int32) else (if (v4 + (1 : Int32)) < v21 then (if ((a128 (v4 + (1 : Int32)).toNatClampNeg) &&& (255 : Int32)) < (128 : Int32) then (-1 : Int32) else (if (191 : Int32) < ((a128 (v4 + (1 : Int32)).toNatClampNeg) &&& (255 : Int32)) then (-1 : Int32) else (if ((a128 (v4).toNatClampNeg) &&& (255 : Int32)) = (239 : Int32) then (if (a128 (v4 + (1 : Int32)).toNatClampNeg) = (-65 : Int32) then (if ((a128 (v4 + (2 : Int32)).toNatClampNeg) &&& (254 : Int32)) = (190 : Int32) then (-2 : Int32) else (2 : Int32)) else (2 : Int32)) else (2 : Int32)))) else (0 : Int32))) = j584_l17 := by
        have hc1 : 0 ≤ v134.toInt ∧ v134.toInt < 256 := by rw [hv134, own_m255]; omega
        have hc2 : 0 ≤ v141.toInt ∧ v141.toInt < 256 := by rw [hv141, own_m255]; omega
        have hc3 : 0 ≤ v148.toInt ∧ v148.toInt < 256 := by rw [hv148, own_m255]; omega
        have hbits : v174.toInt = v92.toInt % 32 := by rw [hv174]; exact own_m31 v92
        have hq1 : v329.toInt = v134.toInt % 64 := by rw [hv329]; exact own_m63 v134
        have hq2 : v336.toInt = v141.toInt % 64 := by rw [hv336]; exact own_m63 v141
        have hq3 : v343.toInt = v148.toInt % 64 := by rw [hv343]; exact own_m63 v148
        have hz0 : (0 : Int32).toInt = 0 := by decide
        have hz63 : (63 : Int32).toInt = 63 := by decide
        have hmn : v388.toInt = (v92.toInt % 32) * 64 + (v134.toInt % 64) * 1 := by
          rw [hv388, if_pos rfl, own_p2 _ _ (by omega) (by omega) (by omega) (by omega)]
          omega
        have hmx : v436.toInt = (v92.toInt % 32) * 64 + (v134.toInt % 64) * 1 := by
          rw [hv436, if_pos rfl, own_p2 _ _ (by omega) (by omega) (by omega) (by omega)]
          omega
        have hkv := own_kv v14 (2 : Int32) (2 : Int32) hv261
        rw [show (2 : Int32).toInt = 2 by decide] at hkv
        rw [hj584_l17]
        simp only [hLD, hA1, hA2, hA3, hM1, hM2, own_c192 v134 hc1.1 hc1.2, own_c192 v141 hc2.1 hc2.2, own_c192 v148 hc3.1 hc3.2, own_lim1 v4 v14 hat hav v21 hv21, own_lim2 v4 v14 hat hav v21 hv21, own_lim3 v4 v14 hat hav v21 hv21]
        exact own_F1_2 v92 v134 v141 v148 v14 v388 v436 (by omega) hc1 hc2 hc3 hav (hkv.2 rfl) hmn hmx
      refine own_st (B := Tg590.setTop (mkF m 603 #[iv p0, iv p1, iv p2, iv p3, iv p4, iv p5, iv v4, iv v14, iv v21, iv v26, rv b30, iv v92, iv v134, iv v141, iv v148, iv (2 : Int32), iv v174, iv j584_l17, iv (2 : Int32), iv (own_b ((v134 &&& (192 : Int32)) = (128 : Int32))), iv v329, iv v336, iv v343, iv v388, iv v436, iv (128 : Int32), iv (2047 : Int32), iv (own_b (¬ (v436 < (128 : Int32)) ∧ (¬ ((2047 : Int32) < v388))))] [(.int (1 : Int32))])) (fun target kt => ?_) ?_
      · show Steps p.tables e below (Tg590.setTop (mkF m 595 #[iv p0, iv p1, iv p2, iv p3, iv p4, iv p5, iv v4, iv v14, iv v21, iv v26, rv b30, iv v92, iv v134, iv v141, iv v148, iv (2 : Int32), iv v174, iv j584_l17, iv (2 : Int32), iv (own_b ((v134 &&& (192 : Int32)) = (128 : Int32))), iv v329, iv v336, iv v343, iv v388, iv v436, iv (128 : Int32), iv (2047 : Int32), iv (own_b (¬ (v436 < (128 : Int32)) ∧ (¬ ((2047 : Int32) < v388))))] [(.int j584_l17), (.int (if ((a128 (v4).toNatClampNeg) &&& (255 : Int32)) < (194 : Int32) then (-1 : Int32) else (if (v4 + (1 : Int32)) < v21 then (if ((a128 (v4 + (1 : Int32)).toNatClampNeg) &&& (255 : Int32)) < (128 : Int32) then (-1 : Int32) else (if (191 : Int32) < ((a128 (v4 + (1 : Int32)).toNatClampNeg) &&& (255 : Int32)) then (-1 : Int32) else (if ((a128 (v4).toNatClampNeg) &&& (255 : Int32)) = (239 : Int32) then (if (a128 (v4 + (1 : Int32)).toNatClampNeg) = (-65 : Int32) then (if ((a128 (v4 + (2 : Int32)).toNatClampNeg) &&& (254 : Int32)) = (190 : Int32) then (-2 : Int32) else (2 : Int32)) else (2 : Int32)) else (2 : Int32)))) else (0 : Int32))))])) target
        refine XS.icmpNo Xg590.here hx rfl (hb hby at_595) rfl (teq c595).2 ?_
        refine XS.iconst Xg590.here hx rfl (hb hby at_598) ?_
        refine XS.goto Xg590.here hx rfl (pc0 := 599) (pc' := 603) rfl (hb hby at_599) (by decide) (by decide) ?_
        exact kt
      obtain ⟨fs, hr, hrun, hended, hW, hsame⟩ := Xg590.leave (v := some (.int (1 : Int32))) (fun h => by rw [Bd.returns] at h; cases h)
      have hend : Steps p.tables e below (Tg590.setTop (mkF m 603 #[iv p0, iv p1, iv p2, iv p3, iv p4, iv p5, iv v4, iv v14, iv v21, iv v26, rv b30, iv v92, iv v134, iv v141, iv v148, iv (2 : Int32), iv v174, iv j584_l17, iv (2 : Int32), iv (own_b ((v134 &&& (192 : Int32)) = (128 : Int32))), iv v329, iv v336, iv v343, iv v388, iv v436, iv (128 : Int32), iv (2047 : Int32), iv (own_b (¬ (v436 < (128 : Int32)) ∧ (¬ ((2047 : Int32) < v388))))] [(.int (1 : Int32))])) (Tg590.setFrames fs) := by
        exact retN Xg590 hx (t := .boolean) Bd.returns (by simp) (hb hby at_603) hr
      refine own_fin hend ⟨_, hrun, hended, _, _, rfl, ?_, ⟨_, rfl⟩, hW, hsame.mono (by decide) (by decide)⟩
      show own_Q0 Z p0 p1 p2 p3 p4 p5 h0 n0 _ Tg590.heap _
      rw [eg590]
      exact ⟨rfl, Ng590⟩
  · skip
    refine own_st (B := Tg128.setTop (mkF m 155 #[iv p0, iv p1, iv p2, iv p3, iv p4, iv p5, iv v4, iv v14, iv v21, iv v26, rv b30, iv v92, iv v134, iv v141, iv v148, .unset, .unset, .unset, .unset, .unset, .unset, .unset, .unset, .unset, .unset, .unset, .unset, .unset] [(.int (192 : Int32)), (.int v92)])) (fun target kt => ?_) ?_
    · show Steps p.tables e below (Tg128.setTop (mkF m 152 #[iv p0, iv p1, iv p2, iv p3, iv p4, iv p5, iv v4, iv v14, iv v21, iv v26, rv b30, iv v92, iv v134, iv v141, iv v148, .unset, .unset, .unset, .unset, .unset, .unset, .unset, .unset, .unset, .unset, .unset, .unset, .unset] [(.int v92)])) target
      refine XS.sipush Xg128.here hx rfl (hb hby at_152) ?_
      exact kt
    have c155 : ¬ (v92 < (192 : Int32)) := by
      rw [Int32.lt_iff_toInt_lt, show (192 : Int32).toInt = 192 by decide]
      omega
    refine own_st (B := Tg128.setTop (mkF m 163 #[iv p0, iv p1, iv p2, iv p3, iv p4, iv p5, iv v4, iv v14, iv v21, iv v26, rv b30, iv v92, iv v134, iv v141, iv v148, .unset, .unset, .unset, .unset, .unset, .unset, .unset, .unset, .unset, .unset, .unset, .unset, .unset] [(.int (224 : Int32)), (.int v92)])) (fun target kt => ?_) ?_
    · show Steps p.tables e below (Tg128.setTop (mkF m 155 #[iv p0, iv p1, iv p2, iv p3, iv p4, iv p5, iv v4, iv v14, iv v21, iv v26, rv b30, iv v92, iv v134, iv v141, iv v148, .unset, .unset, .unset, .unset, .unset, .unset, .unset, .unset, .unset, .unset, .unset, .unset, .unset] [(.int (192 : Int32)), (.int v92)])) target
      refine XS.icmpNo Xg128.here hx rfl (hb hby at_155) rfl (flt c155).1 ?_
      refine XS.iload Xg128.here hx rfl (hb hby at_158) rfl ?_
      refine XS.sipush Xg128.here hx rfl (hb hby at_160) ?_
      exact kt
    have c163 : ¬ (v92 < (224 : Int32)) := by
      rw [Int32.lt_iff_toInt_lt, show (224 : Int32).toInt = 224 by decide]
      omega
    refine own_st (B := Tg128.setTop (mkF m 184 #[iv p0, iv p1, iv p2, iv p3, iv p4, iv p5, iv v4, iv v14, iv v21, iv v26, rv b30, iv v92, iv v134, iv v141, iv v148, .unset, .unset, .unset, .unset, .unset, .unset, .unset, .unset, .unset, .unset, .unset, .unset, .unset] [(.int (224 : Int32)), (.int v92)])) (fun target kt => ?_) ?_
    · show Steps p.tables e below (Tg128.setTop (mkF m 163 #[iv p0, iv p1, iv p2, iv p3, iv p4, iv p5, iv v4, iv v14, iv v21, iv v26, rv b30, iv v92, iv v134, iv v141, iv v148, .unset, .unset, .unset, .unset, .unset, .unset, .unset, .unset, .unset, .unset, .unset, .unset, .unset] [(.int (224 : Int32)), (.int v92)])) target
      refine XS.icmpYes Xg128.here hx rfl (pc0 := 163) (pc' := 179) rfl (hb hby at_163) rfl (flt c163).2.1 (by decide) (by decide) ?_
      refine XS.iload Xg128.here hx rfl (hb hby at_179) rfl ?_
      refine XS.sipush Xg128.here hx rfl (hb hby at_181) ?_
      exact kt
    have c184 : ¬ (v92 < (224 : Int32)) := by
      rw [Int32.lt_iff_toInt_lt, show (224 : Int32).toInt = 224 by decide]
      omega
    refine own_st (B := Tg128.setTop (mkF m 192 #[iv p0, iv p1, iv p2, iv p3, iv p4, iv p5, iv v4, iv v14, iv v21, iv v26, rv b30, iv v92, iv v134, iv v141, iv v148, .unset, .unset, .unset, .unset, .unset, .unset, .unset, .unset, .unset, .unset, .unset, .unset, .unset] [(.int (240 : Int32)), (.int v92)])) (fun target kt => ?_) ?_
    · show Steps p.tables e below (Tg128.setTop (mkF m 184 #[iv p0, iv p1, iv p2, iv p3, iv p4, iv p5, iv v4, iv v14, iv v21, iv v26, rv b30, iv v92, iv v134, iv v141, iv v148, .unset, .unset, .unset, .unset, .unset, .unset, .unset, .unset, .unset, .unset, .unset, .unset, .unset] [(.int (224 : Int32)), (.int v92)])) target
      refine XS.icmpNo Xg128.here hx rfl (hb hby at_184) rfl (flt c184).1 ?_
      refine XS.iload Xg128.here hx rfl (hb hby at_187) rfl ?_
      refine XS.sipush Xg128.here hx rfl (hb hby at_189) ?_
      exact kt
    have c192 : v92 < (240 : Int32) := by
      rw [Int32.lt_iff_toInt_lt, show (240 : Int32).toInt = 240 by decide]
      omega
    obtain ⟨v203, hv203⟩ : ∃ z : Int32, z = (v92 &&& (15 : Int32)) := ⟨_, rfl⟩
    refine own_st (B := Tg128.setTop (mkF m 258 #[iv p0, iv p1, iv p2, iv p3, iv p4, iv p5, iv v4, iv v14, iv v21, iv v26, rv b30, iv v92, iv v134, iv v141, iv v148, iv (3 : Int32), iv v203, .unset, .unset, .unset, .unset, .unset, .unset, .unset, .unset, .unset, .unset, .unset] [(.int v14), (.int (3 : Int32))])) (fun target kt => ?_) ?_
    · show Steps p.tables e below (Tg128.setTop (mkF m 192 #[iv p0, iv p1, iv p2, iv p3, iv p4, iv p5, iv v4, iv v14, iv v21, iv v26, rv b30, iv v92, iv v134, iv v141, iv v148, .unset, .unset, .unset, .unset, .unset, .unset, .unset, .unset, .unset, .unset, .unset, .unset, .unset] [(.int (240 : Int32)), (.int v92)])) target
      refine XS.icmpNo Xg128.here hx rfl (hb hby at_192) rfl (tlt c192).2.1 ?_
      refine XS.iconst Xg128.here hx rfl (hb hby at_195) ?_
      refine XS.istore Xg128.here hx rfl (hb hby at_196) rfl (l' := #[iv p0, iv p1, iv p2, iv p3, iv p4, iv p5, iv v4, iv v14, iv v21, iv v26, rv b30, iv v92, iv v134, iv v141, iv v148, iv (3 : Int32), .unset, .unset, .unset, .unset, .unset, .unset, .unset, .unset, .unset, .unset, .unset, .unset]) rfl ?_
      refine XS.iload Xg128.here hx rfl (hb hby at_198) rfl ?_
      refine XS.bipush Xg128.here hx rfl (hb hby at_200) ?_
      refine XS.iand Xg128.here hx rfl (hb hby at_202) rfl ?_
      refine XS.istore Xg128.here hx rfl (hb hby at_203) rfl (l' := #[iv p0, iv p1, iv p2, iv p3, iv p4, iv p5, iv v4, iv v14, iv v21, iv v26, rv b30, iv v92, iv v134, iv v141, iv v148, iv (3 : Int32), iv v203, .unset, .unset, .unset, .unset, .unset, .unset, .unset, .unset, .unset, .unset, .unset]) (by subst hv203; rfl) ?_
      refine XS.goto Xg128.here hx rfl (pc0 := 205) (pc' := 243) rfl (hb hby at_205) (by decide) (by decide) ?_
      show Steps p.tables e below (Tg128.setTop (mkF m 243 #[iv p0, iv p1, iv p2, iv p3, iv p4, iv p5, iv v4, iv v14, iv v21, iv v26, rv b30, iv v92, iv v134, iv v141, iv v148, iv (3 : Int32), iv v203, .unset, .unset, .unset, .unset, .unset, .unset, .unset, .unset, .unset, .unset, .unset] [])) target
      refine XS.iload Xg128.here hx rfl (hb hby at_243) rfl ?_
      refine XS.ifYes Xg128.here hx rfl (pc0 := 245) (pc' := 254) rfl (hb hby at_245) rfl ((if0 _ _).trans (feq (by decide : ¬ ((3 : Int32) = (0 : Int32)))).2) (by decide) (by decide) ?_
      refine XS.iload Xg128.here hx rfl (hb hby at_254) rfl ?_
      refine XS.iload Xg128.here hx rfl (hb hby at_256) rfl ?_
      exact kt
    obtain ⟨_, _, ⟨Tg258, Lg258, kg258, ng258⟩, -, Xg258, ⟨Lcg258, hQg258, lg258, yg258, zg258⟩, stg258⟩ := Jvm.LawKit.callS Xg128 hx (y := (⟨"java/lang/Math", "min", "(II)I"⟩ : MethodName)) hown (mvT hZ (hw _ (List.mem_of_getElem? (i := 5) rfl))) (mvT hZ (hw _ (List.mem_of_getElem? (i := 6) rfl))) (mvT hZ (hw _ (List.mem_of_getElem? (i := 7) rfl))) (mvT hZ (hw _ (List.mem_of_getElem? (i := 8) rfl))) (by decide) (backOf (W := 0) (own_rm2 l Z a0 hw [] (3 : Int32) v14 hg128 n0 Zz_12) hZ (hw _ (List.mem_of_getElem? (i := 8) rfl)) (hw _ (List.mem_of_getElem? (i := 7) rfl)) (by decide) (by decide)) (g := (mkF m 258 #[iv p0, iv p1, iv p2, iv p3, iv p4, iv p5, iv v4, iv v14, iv v21, iv v26, rv b30, iv v92, iv v134, iv v141, iv v148, iv (3 : Int32), iv v203, .unset, .unset, .unset, .unset, .unset, .unset, .unset, .unset, .unset, .unset, .unset] [(.int v14), (.int (3 : Int32))])) rfl (by rw [hml]; rfl) (argsL := [(.int (3 : Int32)), (.int v14)]) (rest := []) (lenOf own_pd1 rfl) rfl (by show 2 * 0 + _ ≤ _; exact Nat.le_of_eq rfl) (hb hby at_258) (fun _ _ => ⟨rfl, eg128, (by decide : 1 + 0 ≤ _), (by decide : 8 + 0 ≤ _)⟩)
    dsimp only [Pt.U, Pt.locs, Pt.cells, Pt.slots] at Xg258 lg258 yg258 zg258 stg258 hQg258
    subst lg258 yg258 zg258
    obtain ⟨rfl, Ng258q, eg258⟩ := hQg258
    have Ng258 := Fr.app Ng128 Ng258q
    refine own_st (stg258) ?_
    obtain ⟨v261, hv261⟩ : ∃ z : Int32, z = (if v14 < (3 : Int32) then v14 else (3 : Int32)) := ⟨_, rfl⟩
    refine own_st (B := Tg258.setTop (mkF m 263 #[iv p0, iv p1, iv p2, iv p3, iv p4, iv p5, iv v4, iv v14, iv v21, iv v26, rv b30, iv v92, iv v134, iv v141, iv v148, iv (3 : Int32), iv v203, .unset, iv v261, .unset, .unset, .unset, .unset, .unset, .unset, .unset, .unset, .unset] [])) (fun target kt => ?_) ?_
    · show Steps p.tables e below (Tg258.setTop (mkF m 261 #[iv p0, iv p1, iv p2, iv p3, iv p4, iv p5, iv v4, iv v14, iv v21, iv v26, rv b30, iv v92, iv v134, iv v141, iv v148, iv (3 : Int32), iv v203, .unset, .unset, .unset, .unset, .unset, .unset, .unset, .unset, .unset, .unset, .unset] [(.int (if v14 < (3 : Int32) then v14 else (3 : Int32)))])) target
      refine XS.istore Xg258.here hx rfl (hb hby at_261) rfl (l' := #[iv p0, iv p1, iv p2, iv p3, iv p4, iv p5, iv v4, iv v14, iv v21, iv v26, rv b30, iv v92, iv v134, iv v141, iv v148, iv (3 : Int32), iv v203, .unset, iv v261, .unset, .unset, .unset, .unset, .unset, .unset, .unset, .unset, .unset]) (by subst hv261; rfl) ?_
      exact kt
    rcases own_k3 v14 v261 hv261 hav with hs263 | hs263 | hs263
    · subst hs263
      obtain ⟨v329, hv329⟩ : ∃ z : Int32, z = (v134 &&& (63 : Int32)) := ⟨_, rfl⟩
      obtain ⟨v336, hv336⟩ : ∃ z : Int32, z = (v141 &&& (63 : Int32)) := ⟨_, rfl⟩
      obtain ⟨v343, hv343⟩ : ∃ z : Int32, z = (v148 &&& (63 : Int32)) := ⟨_, rfl⟩
      refine own_st (B := Tg258.setTop (mkF m 385 #[iv p0, iv p1, iv p2, iv p3, iv p4, iv p5, iv v4, iv v14, iv v21, iv v26, rv b30, iv v92, iv v134, iv v141, iv v148, iv (3 : Int32), iv v203, .unset, iv (1 : Int32), iv (1 : Int32), iv v329, iv v336, iv v343, .unset, .unset, .unset, .unset, .unset] [(.int (0 : Int32)), (.int (0 : Int32)), (.int (0 : Int32)), (.int v203), (.int (3 : Int32))])) (fun target kt => ?_) ?_
      · show Steps p.tables e below (Tg258.setTop (mkF m 263 #[iv p0, iv p1, iv p2, iv p3, iv p4, iv p5, iv v4, iv v14, iv v21, iv v26, rv b30, iv v92, iv v134, iv v141, iv v148, iv (3 : Int32), iv v203, .unset, iv (1 : Int32), .unset, .unset, .unset, .unset, .unset, .unset, .unset, .unset, .unset] [])) target
        refine XS.iload Xg258.here hx rfl (hb hby at_263) rfl ?_
        refine XS.iconst Xg258.here hx rfl (hb hby at_265) ?_
        refine XS.icmpYes Xg258.here hx rfl (pc0 := 266) (pc' := 281) rfl (hb hby at_266) rfl (tlt (by decide : (1 : Int32) < (2 : Int32))).1 (by decide) (by decide) ?_
        refine XS.iload Xg258.here hx rfl (hb hby at_281) rfl ?_
        refine XS.iconst Xg258.here hx rfl (hb hby at_283) ?_
        refine XS.icmpYes Xg258.here hx rfl (pc0 := 284) (pc' := 299) rfl (hb hby at_284) rfl (tlt (by decide : (1 : Int32) < (3 : Int32))).1 (by decide) (by decide) ?_
        refine XS.iload Xg258.here hx rfl (hb hby at_299) rfl ?_
        refine XS.iconst Xg258.here hx rfl (hb hby at_301) ?_
        show Steps p.tables e below (Tg258.setTop (mkF m 302 #[iv p0, iv p1, iv p2, iv p3, iv p4, iv p5, iv v4, iv v14, iv v21, iv v26, rv b30, iv v92, iv v134, iv v141, iv v148, iv (3 : Int32), iv v203, .unset, iv (1 : Int32), .unset, .unset, .unset, .unset, .unset, .unset, .unset, .unset, .unset] [(.int (4 : Int32)), (.int (1 : Int32))])) target
        refine XS.icmpYes Xg258.here hx rfl (pc0 := 302) (pc' := 317) rfl (hb hby at_302) rfl (tlt (by decide : (1 : Int32) < (4 : Int32))).1 (by decide) (by decide) ?_
        refine XS.iconst Xg258.here hx rfl (hb hby at_317) ?_
        refine XS.goto Xg258.here hx rfl (pc0 := 318) (pc' := 322) rfl (hb hby at_318) (by decide) (by decide) ?_
        refine XS.istore Xg258.here hx rfl (hb hby at_322) rfl (l' := #[iv p0, iv p1, iv p2, iv p3, iv p4, iv p5, iv v4, iv v14, iv v21, iv v26, rv b30, iv v92, iv v134, iv v141, iv v148, iv (3 : Int32), iv v203, .unset, iv (1 : Int32), iv (1 : Int32), .unset, .unset, .unset, .unset, .unset, .unset, .unset, .unset]) rfl ?_
        refine XS.iload Xg258.here hx rfl (hb hby at_324) rfl ?_
        refine XS.bipush Xg258.here hx rfl (hb hby at_326) ?_
        refine XS.iand Xg258.here hx rfl (hb hby at_328) rfl ?_
        refine XS.istore Xg258.here hx rfl (hb hby at_329) rfl (l' := #[iv p0, iv p1, iv p2, iv p3, iv p4, iv p5, iv v4, iv v14, iv v21, iv v26, rv b30, iv v92, iv v134, iv v141, iv v148, iv (3 : Int32), iv v203, .unset, iv (1 : Int32), iv (1 : Int32), iv v329, .unset, .unset, .unset, .unset, .unset, .unset, .unset]) (by subst hv329; rfl) ?_
        show Steps p.tables e below (Tg258.setTop (mkF m 331 #[iv p0, iv p1, iv p2, iv p3, iv p4, iv p5, iv v4, iv v14, iv v21, iv v26, rv b30, iv v92, iv v134, iv v141, iv v148, iv (3 : Int32), iv v203, .unset, iv (1 : Int32), iv (1 : Int32), iv v329, .unset, .unset, .unset, .unset, .unset, .unset, .unset] [])) target
        refine XS.iload Xg258.here hx rfl (hb hby at_331) rfl ?_
        refine XS.bipush Xg258.here hx rfl (hb hby at_333) ?_
        refine XS.iand Xg258.here hx rfl (hb hby at_335) rfl ?_
        refine XS.istore Xg258.here hx rfl (hb hby at_336) rfl (l' := #[iv p0, iv p1, iv p2, iv p3, iv p4, iv p5, iv v4, iv v14, iv v21, iv v26, rv b30, iv v92, iv v134, iv v141, iv v148, iv (3 : Int32), iv v203, .unset, iv (1 : Int32), iv (1 : Int32), iv v329, iv v336, .unset, .unset, .unset, .unset, .unset, .unset]) (by subst hv336; rfl) ?_
        refine XS.iload Xg258.here hx rfl (hb hby at_338) rfl ?_
        refine XS.bipush Xg258.here hx rfl (hb hby at_340) ?_
        refine XS.iand Xg258.here hx rfl (hb hby at_342) rfl ?_
        refine XS.istore Xg258.here hx rfl (hb hby at_343) rfl (l' := #[iv p0, iv p1, iv p2, iv p3, iv p4, iv p5, iv v4, iv v14, iv v21, iv v26, rv b30, iv v92, iv v134, iv v141, iv v148, iv (3 : Int32), iv v203, .unset, iv (1 : Int32), iv (1 : Int32), iv v329, iv v336, iv v343, .unset, .unset, .unset, .unset, .unset]) (by subst hv343; rfl) ?_
        show Steps p.tables e below (Tg258.setTop (mkF m 345 #[iv p0, iv p1, iv p2, iv p3, iv p4, iv p5, iv v4, iv v14, iv v21, iv v26, rv b30, iv v92, iv v134, iv v141, iv v148, iv (3 : Int32), iv v203, .unset, iv (1 : Int32), iv (1 : Int32), iv v329, iv v336, iv v343, .unset, .unset, .unset, .unset, .unset] [])) target
        refine XS.iload Xg258.here hx rfl (hb hby at_345) rfl ?_
        refine XS.iload Xg258.here hx rfl (hb hby at_347) rfl ?_
        refine XS.iload Xg258.here hx rfl (hb hby at_349) rfl ?_
        refine XS.iconst Xg258.here hx rfl (hb hby at_351) ?_
        refine XS.icmpYes Xg258.here hx rfl (pc0 := 352) (pc' := 360) rfl (hb hby at_352) rfl (tlt (by decide : (1 : Int32) < (2 : Int32))).1 (by decide) (by decide) ?_
        refine XS.iconst Xg258.here hx rfl (hb hby at_360) ?_
        refine XS.iload Xg258.here hx rfl (hb hby at_361) rfl ?_
        refine XS.iconst Xg258.here hx rfl (hb hby at_363) ?_
        show Steps p.tables e below (Tg258.setTop (mkF m 364 #[iv p0, iv p1, iv p2, iv p3, iv p4, iv p5, iv v4, iv v14, iv v21, iv v26, rv b30, iv v92, iv v134, iv v141, iv v148, iv (3 : Int32), iv v203, .unset, iv (1 : Int32), iv (1 : Int32), iv v329, iv v336, iv v343, .unset, .unset, .unset, .unset, .unset] [(.int (3 : Int32)), (.int (1 : Int32)), (.int (0 : Int32)), (.int v203), (.int (3 : Int32))])) target
        refine XS.icmpYes Xg258.here hx rfl (pc0 := 364) (pc' := 372) rfl (hb hby at_364) rfl (tlt (by decide : (1 : Int32) < (3 : Int32))).1 (by decide) (by decide) ?_
        refine XS.iconst Xg258.here hx rfl (hb hby at_372) ?_
        refine XS.iload Xg258.here hx rfl (hb hby at_373) rfl ?_
        refine XS.iconst Xg258.here hx rfl (hb hby at_375) ?_
        refine XS.icmpYes Xg258.here hx rfl (pc0 := 376) (pc' := 384) rfl (hb hby at_376) rfl (tlt (by decide : (1 : Int32) < (4 : Int32))).1 (by decide) (by decide) ?_
        refine XS.iconst Xg258.here hx rfl (hb hby at_384) ?_
        exact kt
      obtain ⟨_, _, ⟨Tg385, Lg385, kg385, ng385⟩, -, Xg385, ⟨Lcg385, hQg385, lg385, yg385, zg385⟩, stg385⟩ := Jvm.LawKit.callS Xg258 hx (y := (⟨"com/example/psyche/psyche/XmlCharsSequenceLengthPinLaw", "compose", "(IIIII)I"⟩ : MethodName)) hown (mvT hZ (hw _ (List.mem_of_getElem? (i := 9) rfl))) (mvT hZ (hw _ (List.mem_of_getElem? (i := 10) rfl))) (mvT hZ (hw _ (List.mem_of_getElem? (i := 11) rfl))) (mvT hZ (hw _ (List.mem_of_getElem? (i := 12) rfl))) (by decide) (backOf (W := 0) (own_rm3 l Z a0 hw [] (3 : Int32) v203 (0 : Int32) (0 : Int32) (0 : Int32) hg128 n0 Zz_12) hZ (hw _ (List.mem_of_getElem? (i := 12) rfl)) (hw _ (List.mem_of_getElem? (i := 11) rfl)) (by decide) (by decide)) (g := (mkF m 385 #[iv p0, iv p1, iv p2, iv p3, iv p4, iv p5, iv v4, iv v14, iv v21, iv v26, rv b30, iv v92, iv v134, iv v141, iv v148, iv (3 : Int32), iv v203, .unset, iv (1 : Int32), iv (1 : Int32), iv v329, iv v336, iv v343, .unset, .unset, .unset, .unset, .unset] [(.int (0 : Int32)), (.int (0 : Int32)), (.int (0 : Int32)), (.int v203), (.int (3 : Int32))])) rfl (by rw [hml]; rfl) (argsL := [(.int (3 : Int32)), (.int v203), (.int (0 : Int32)), (.int (0 : Int32)), (.int (0 : Int32))]) (rest := []) (lenOf own_pd2 rfl) rfl (by show 2 * 0 + _ ≤ _; exact Nat.le_of_eq rfl) (hb hby at_385) (fun _ _ => ⟨rfl, eg258, (by decide : 1 + 0 ≤ _), (by decide : 8 + 0 ≤ _)⟩)
      dsimp only [Pt.U, Pt.locs, Pt.cells, Pt.slots] at Xg385 lg385 yg385 zg385 stg385 hQg385
      subst lg385 yg385 zg385
      obtain ⟨rfl, Ng385q, eg385⟩ := hQg385
      have Ng385 := Fr.app Ng258 Ng385q
      refine own_st (stg385) ?_
      obtain ⟨v388, hv388⟩ : ∃ z : Int32, z = (if (3 : Int32) = (2 : Int32) then ((v203 <<< ((6 : Int32) &&& 31)) ||| (0 : Int32)) else (if (3 : Int32) = (3 : Int32) then (((v203 <<< ((12 : Int32) &&& 31)) ||| ((0 : Int32) <<< ((6 : Int32) &&& 31))) ||| (0 : Int32)) else ((((v203 <<< ((18 : Int32) &&& 31)) ||| ((0 : Int32) <<< ((12 : Int32) &&& 31))) ||| ((0 : Int32) <<< ((6 : Int32) &&& 31))) ||| (0 : Int32)))) := ⟨_, rfl⟩
      refine own_st (B := Tg385.setTop (mkF m 433 #[iv p0, iv p1, iv p2, iv p3, iv p4, iv p5, iv v4, iv v14, iv v21, iv v26, rv b30, iv v92, iv v134, iv v141, iv v148, iv (3 : Int32), iv v203, .unset, iv (1 : Int32), iv (1 : Int32), iv v329, iv v336, iv v343, iv v388, .unset, .unset, .unset, .unset] [(.int (63 : Int32)), (.int (63 : Int32)), (.int (63 : Int32)), (.int v203), (.int (3 : Int32))])) (fun target kt => ?_) ?_
      · show Steps p.tables e below (Tg385.setTop (mkF m 388 #[iv p0, iv p1, iv p2, iv p3, iv p4, iv p5, iv v4, iv v14, iv v21, iv v26, rv b30, iv v92, iv v134, iv v141, iv v148, iv (3 : Int32), iv v203, .unset, iv (1 : Int32), iv (1 : Int32), iv v329, iv v336, iv v343, .unset, .unset, .unset, .unset, .unset] [(.int (if (3 : Int32) = (2 : Int32) then ((v203 <<< ((6 : Int32) &&& 31)) ||| (0 : Int32)) else (if (3 : Int32) = (3 : Int32) then (((v203 <<< ((12 : Int32) &&& 31)) ||| ((0 : Int32) <<< ((6 : Int32) &&& 31))) ||| (0 : Int32)) else ((((v203 <<< ((18 : Int32) &&& 31)) ||| ((0 : Int32) <<< ((12 : Int32) &&& 31))) ||| ((0 : Int32) <<< ((6 : Int32) &&& 31))) ||| (0 : Int32)))))])) target
        refine XS.istore Xg385.here hx rfl (hb hby at_388) rfl (l' := #[iv p0, iv p1, iv p2, iv p3, iv p4, iv p5, iv v4, iv v14, iv v21, iv v26, rv b30, iv v92, iv v134, iv v141, iv v148, iv (3 : Int32), iv v203, .unset, iv (1 : Int32), iv (1 : Int32), iv v329, iv v336, iv v343, iv v388, .unset, .unset, .unset, .unset]) (by subst hv388; rfl) ?_
        refine XS.iload Xg385.here hx rfl (hb hby at_390) rfl ?_
        refine XS.iload Xg385.here hx rfl (hb hby at_392) rfl ?_
        refine XS.iload Xg385.here hx rfl (hb hby at_394) rfl ?_
        refine XS.iconst Xg385.here hx rfl (hb hby at_396) ?_
        refine XS.icmpYes Xg385.here hx rfl (pc0 := 397) (pc' := 405) rfl (hb hby at_397) rfl (tlt (by decide : (1 : Int32) < (2 : Int32))).1 (by decide) (by decide) ?_
        refine XS.bipush Xg385.here hx rfl (hb hby at_405) ?_
        refine XS.iload Xg385.here hx rfl (hb hby at_407) rfl ?_
        show Steps p.tables e below (Tg385.setTop (mkF m 409 #[iv p0, iv p1, iv p2, iv p3, iv p4, iv p5, iv v4, iv v14, iv v21, iv v26, rv b30, iv v92, iv v134, iv v141, iv v148, iv (3 : Int32), iv v203, .unset, iv (1 : Int32), iv (1 : Int32), iv v329, iv v336, iv v343, iv v388, .unset, .unset, .unset, .unset] [(.int (1 : Int32)), (.int (63 : Int32)), (.int v203), (.int (3 : Int32))])) target
        refine XS.iconst Xg385.here hx rfl (hb hby at_409) ?_
        refine XS.icmpYes Xg385.here hx rfl (pc0 := 410) (pc' := 418) rfl (hb hby at_410) rfl (tlt (by decide : (1 : Int32) < (3 : Int32))).1 (by decide) (by decide) ?_
        refine XS.bipush Xg385.here hx rfl (hb hby at_418) ?_
        refine XS.iload Xg385.here hx rfl (hb hby at_420) rfl ?_
        refine XS.iconst Xg385.here hx rfl (hb hby at_422) ?_
        refine XS.icmpYes Xg385.here hx rfl (pc0 := 423) (pc' := 431) rfl (hb hby at_423) rfl (tlt (by decide : (1 : Int32) < (4 : Int32))).1 (by decide) (by decide) ?_
        refine XS.bipush Xg385.here hx rfl (hb hby at_431) ?_
        exact kt
      obtain ⟨_, _, ⟨Tg433, Lg433, kg433, ng433⟩, -, Xg433, ⟨Lcg433, hQg433, lg433, yg433, zg433⟩, stg433⟩ := Jvm.LawKit.callS Xg385 hx (y := (⟨"com/example/psyche/psyche/XmlCharsSequenceLengthPinLaw", "compose", "(IIIII)I"⟩ : MethodName)) hown (mvT hZ (hw _ (List.mem_of_getElem? (i := 9) rfl))) (mvT hZ (hw _ (List.mem_of_getElem? (i := 10) rfl))) (mvT hZ (hw _ (List.mem_of_getElem? (i := 11) rfl))) (mvT hZ (hw _ (List.mem_of_getElem? (i := 12) rfl))) (by decide) (backOf (W := 0) (own_rm3 l Z a0 hw [] (3 : Int32) v203 (63 : Int32) (63 : Int32) (63 : Int32) hg128 n0 Zz_12) hZ (hw _ (List.mem_of_getElem? (i := 12) rfl)) (hw _ (List.mem_of_getElem? (i := 11) rfl)) (by decide) (by decide)) (g := (mkF m 433 #[iv p0, iv p1, iv p2, iv p3, iv p4, iv p5, iv v4, iv v14, iv v21, iv v26, rv b30, iv v92, iv v134, iv v141, iv v148, iv (3 : Int32), iv v203, .unset, iv (1 : Int32), iv (1 : Int32), iv v329, iv v336, iv v343, iv v388, .unset, .unset, .unset, .unset] [(.int (63 : Int32)), (.int (63 : Int32)), (.int (63 : Int32)), (.int v203), (.int (3 : Int32))])) rfl (by rw [hml]; rfl) (argsL := [(.int (3 : Int32)), (.int v203), (.int (63 : Int32)), (.int (63 : Int32)), (.int (63 : Int32))]) (rest := []) (lenOf own_pd2 rfl) rfl (by show 2 * 0 + _ ≤ _; exact Nat.le_of_eq rfl) (hb hby at_433) (fun _ _ => ⟨rfl, eg385, (by decide : 1 + 0 ≤ _), (by decide : 8 + 0 ≤ _)⟩)
      dsimp only [Pt.U, Pt.locs, Pt.cells, Pt.slots] at Xg433 lg433 yg433 zg433 stg433 hQg433
      subst lg433 yg433 zg433
      obtain ⟨rfl, Ng433q, eg433⟩ := hQg433
      have Ng433 := Fr.app Ng385 Ng433q
      refine own_st (stg433) ?_
      obtain ⟨v436, hv436⟩ : ∃ z : Int32, z = (if (3 : Int32) = (2 : Int32) then ((v203 <<< ((6 : Int32) &&& 31)) ||| (63 : Int32)) else (if (3 : Int32) = (3 : Int32) then (((v203 <<< ((12 : Int32) &&& 31)) ||| ((63 : Int32) <<< ((6 : Int32) &&& 31))) ||| (63 : Int32)) else ((((v203 <<< ((18 : Int32) &&& 31)) ||| ((63 : Int32) <<< ((12 : Int32) &&& 31))) ||| ((63 : Int32) <<< ((6 : Int32) &&& 31))) ||| (63 : Int32)))) := ⟨_, rfl⟩
      refine own_st (B := Tg433.setTop (mkF m 487 #[iv p0, iv p1, iv p2, iv p3, iv p4, iv p5, iv v4, iv v14, iv v21, iv v26, rv b30, iv v92, iv v134, iv v141, iv v148, iv (3 : Int32), iv v203, .unset, iv (1 : Int32), iv (1 : Int32), iv v329, iv v336, iv v343, iv v388, iv v436, iv (2048 : Int32), iv (65535 : Int32), .unset] [(.int (2048 : Int32)), (.int v436)])) (fun target kt => ?_) ?_
      · show Steps p.tables e below (Tg433.setTop (mkF m 436 #[iv p0, iv p1, iv p2, iv p3, iv p4, iv p5, iv v4, iv v14, iv v21, iv v26, rv b30, iv v92, iv v134, iv v141, iv v148, iv (3 : Int32), iv v203, .unset, iv (1 : Int32), iv (1 : Int32), iv v329, iv v336, iv v343, iv v388, .unset, .unset, .unset, .unset] [(.int (if (3 : Int32) = (2 : Int32) then ((v203 <<< ((6 : Int32) &&& 31)) ||| (63 : Int32)) else (if (3 : Int32) = (3 : Int32) then (((v203 <<< ((12 : Int32) &&& 31)) ||| ((63 : Int32) <<< ((6 : Int32) &&& 31))) ||| (63 : Int32)) else ((((v203 <<< ((18 : Int32) &&& 31)) ||| ((63 : Int32) <<< ((12 : Int32) &&& 31))) ||| ((63 : Int32) <<< ((6 : Int32) &&& 31))) ||| (63 : Int32)))))])) target
        refine XS.istore Xg433.here hx rfl (hb hby at_436) rfl (l' := #[iv p0, iv p1, iv p2, iv p3, iv p4, iv p5, iv v4, iv v14, iv v21, iv v26, rv b30, iv v92, iv v134, iv v141, iv v148, iv (3 : Int32), iv v203, .unset, iv (1 : Int32), iv (1 : Int32), iv v329, iv v336, iv v343, iv v388, iv v436, .unset, .unset, .unset]) (by subst hv436; rfl) ?_
        refine XS.iload Xg433.here hx rfl (hb hby at_438) rfl ?_
        refine XS.iconst Xg433.here hx rfl (hb hby at_440) ?_
        refine XS.icmpYes Xg433.here hx rfl (pc0 := 441) (pc' := 457) rfl (hb hby at_441) rfl (feq (by decide : ¬ ((3 : Int32) = (2 : Int32)))).2 (by decide) (by decide) ?_
        refine XS.iload Xg433.here hx rfl (hb hby at_457) rfl ?_
        refine XS.iconst Xg433.here hx rfl (hb hby at_459) ?_
        refine XS.icmpNo Xg433.here hx rfl (hb hby at_460) rfl (teq (by decide : (3 : Int32) = (3 : Int32))).2 ?_
        refine XS.sipush Xg433.here hx rfl (hb hby at_463) ?_
        show Steps p.tables e below (Tg433.setTop (mkF m 466 #[iv p0, iv p1, iv p2, iv p3, iv p4, iv p5, iv v4, iv v14, iv v21, iv v26, rv b30, iv v92, iv v134, iv v141, iv v148, iv (3 : Int32), iv v203, .unset, iv (1 : Int32), iv (1 : Int32), iv v329, iv v336, iv v343, iv v388, iv v436, .unset, .unset, .unset] [(.int (2048 : Int32))])) target
        refine XS.istore Xg433.here hx rfl (hb hby at_466) rfl (l' := #[iv p0, iv p1, iv p2, iv p3, iv p4, iv p5, iv v4, iv v14, iv v21, iv v26, rv b30, iv v92, iv v134, iv v141, iv v148, iv (3 : Int32), iv v203, .unset, iv (1 : Int32), iv (1 : Int32), iv v329, iv v336, iv v343, iv v388, iv v436, iv (2048 : Int32), .unset, .unset]) rfl ?_
        refine Xg433.ldcInt hx hown (mvT hZ (hw _ (List.mem_of_getElem? (i := 13) rfl))) (g := (mkF m 468 #[iv p0, iv p1, iv p2, iv p3, iv p4, iv p5, iv v4, iv v14, iv v21, iv v26, rv b30, iv v92, iv v134, iv v141, iv v148, iv (3 : Int32), iv v203, .unset, iv (1 : Int32), iv (1 : Int32), iv v329, iv v336, iv v343, iv v388, iv v436, iv (2048 : Int32), .unset, .unset] [])) rfl (hb hby at_468) _ ?_
        refine XS.istore Xg433.here hx rfl (hb hby at_470) rfl (l' := #[iv p0, iv p1, iv p2, iv p3, iv p4, iv p5, iv v4, iv v14, iv v21, iv v26, rv b30, iv v92, iv v134, iv v141, iv v148, iv (3 : Int32), iv v203, .unset, iv (1 : Int32), iv (1 : Int32), iv v329, iv v336, iv v343, iv v388, iv v436, iv (2048 : Int32), iv (65535 : Int32), .unset]) rfl ?_
        refine XS.goto Xg433.here hx rfl (pc0 := 472) (pc' := 483) rfl (hb hby at_472) (by decide) (by decide) ?_
        refine XS.iload Xg433.here hx rfl (hb hby at_483) rfl ?_
        refine XS.iload Xg433.here hx rfl (hb hby at_485) rfl ?_
        exact kt
      obtain ⟨_, ⟨j522_s0, rfl, rfl⟩, st_M522⟩ : own_Lead p.tables e below (Tg433.setTop (mkF m 487 #[iv p0, iv p1, iv p2, iv p3, iv p4, iv p5, iv v4, iv v14, iv v21, iv v26, rv b30, iv v92, iv v134, iv v141, iv v148, iv (3 : Int32), iv v203, .unset, iv (1 : Int32), iv (1 : Int32), iv v329, iv v336, iv v343, iv v388, iv v436, iv (2048 : Int32), iv (65535 : Int32), .unset] [(.int (2048 : Int32)), (.int v436)])) (fun B => ∃ (j522_s0 : Int32), B = Tg433.setTop (mkF m 522 #[iv p0, iv p1, iv p2, iv p3, iv p4, iv p5, iv v4, iv v14, iv v21, iv v26, rv b30, iv v92, iv v134, iv v141, iv v148, iv (3 : Int32), iv v203, .unset, iv (1 : Int32), iv (1 : Int32), iv v329, iv v336, iv v343, iv v388, iv v436, iv (2048 : Int32), iv (65535 : Int32), .unset] [(.int j522_s0)]) ∧ j522_s0 = own_b ((¬ (v436 < (2048 : Int32)) ∧ ((¬ ((65535 : Int32) < v388) ∧ (((v388 < (55296 : Int32)) ∨ ((57343 : Int32) < v436)))))))) := by
        by_cases c487 : v436 < (2048 : Int32)
        · refine own_st (B := Tg433.setTop (mkF m 522 #[iv p0, iv p1, iv p2, iv p3, iv p4, iv p5, iv v4, iv v14, iv v21, iv v26, rv b30, iv v92, iv v134, iv v141, iv v148, iv (3 : Int32), iv v203, .unset, iv (1 : Int32), iv (1 : Int32), iv v329, iv v336, iv v343, iv v388, iv v436, iv (2048 : Int32), iv (65535 : Int32), .unset] [(.int (0 : Int32))])) (fun target kt => ?_) ?_
          · show Steps p.tables e below (Tg433.setTop (mkF m 487 #[iv p0, iv p1, iv p2, iv p3, iv p4, iv p5, iv v4, iv v14, iv v21, iv v26, rv b30, iv v92, iv v134, iv v141, iv v148, iv (3 : Int32), iv v203, .unset, iv (1 : Int32), iv (1 : Int32), iv v329, iv v336, iv v343, iv v388, iv v436, iv (2048 : Int32), iv (65535 : Int32), .unset] [(.int (2048 : Int32)), (.int v436)])) target
            refine XS.icmpYes Xg433.here hx rfl (pc0 := 487) (pc' := 521) rfl (hb hby at_487) rfl (tlt c487).1 (by decide) (by decide) ?_
            refine XS.iconst Xg433.here hx rfl (hb hby at_521) ?_
            exact kt
          exact ⟨_, ⟨(0 : Int32), rfl, (own_b0 (fun w => w.1 c487)).symm⟩, fun _ k => k⟩
        · refine own_st (B := Tg433.setTop (mkF m 494 #[iv p0, iv p1, iv p2, iv p3, iv p4, iv p5, iv v4, iv v14, iv v21, iv v26, rv b30, iv v92, iv v134, iv v141, iv v148, iv (3 : Int32), iv v203, .unset, iv (1 : Int32), iv (1 : Int32), iv v329, iv v336, iv v343, iv v388, iv v436, iv (2048 : Int32), iv (65535 : Int32), .unset] [(.int (65535 : Int32)), (.int v388)])) (fun target kt => ?_) ?_
          · show Steps p.tables e below (Tg433.setTop (mkF m 487 #[iv p0, iv p1, iv p2, iv p3, iv p4, iv p5, iv v4, iv v14, iv v21, iv v26, rv b30, iv v92, iv v134, iv v141, iv v148, iv (3 : Int32), iv v203, .unset, iv (1 : Int32), iv (1 : Int32), iv v329, iv v336, iv v343, iv v388, iv v436, iv (2048 : Int32), iv (65535 : Int32), .unset] [(.int (2048 : Int32)), (.int v436)])) target
            refine XS.icmpNo Xg433.here hx rfl (hb hby at_487) rfl (flt c487).1 ?_
            refine XS.iload Xg433.here hx rfl (hb hby at_490) rfl ?_
            refine XS.iload Xg433.here hx rfl (hb hby at_492) rfl ?_
            exact kt
          by_cases c494 : (65535 : Int32) < v388
          · refine own_st (B := Tg433.setTop (mkF m 522 #[iv p0, iv p1, iv p2, iv p3, iv p4, iv p5, iv v4, iv v14, iv v21, iv v26, rv b30, iv v92, iv v134, iv v141, iv v148, iv (3 : Int32), iv v203, .unset, iv (1 : Int32), iv (1 : Int32), iv v329, iv v336, iv v343, iv v388, iv v436, iv (2048 : Int32), iv (65535 : Int32), .unset] [(.int (0 : Int32))])) (fun target kt => ?_) ?_
            · show Steps p.tables e below (Tg433.setTop (mkF m 494 #[iv p0, iv p1, iv p2, iv p3, iv p4, iv p5, iv v4, iv v14, iv v21, iv v26, rv b30, iv v92, iv v134, iv v141, iv v148, iv (3 : Int32), iv v203, .unset, iv (1 : Int32), iv (1 : Int32), iv v329, iv v336, iv v343, iv v388, iv v436, iv (2048 : Int32), iv (65535 : Int32), .unset] [(.int (65535 : Int32)), (.int v388)])) target
              refine XS.icmpYes Xg433.here hx rfl (pc0 := 494) (pc' := 521) rfl (hb hby at_494) rfl (tlt c494).2.2.1 (by decide) (by decide) ?_
              refine XS.iconst Xg433.here hx rfl (hb hby at_521) ?_
              exact kt
            exact ⟨_, ⟨(0 : Int32), rfl, (own_b0 (fun w => (fun w => w.1 c494) w.2)).symm⟩, fun _ k => k⟩
          · refine own_st (B := Tg433.setTop (mkF m 507 #[iv p0, iv p1, iv p2, iv p3, iv p4, iv p5, iv v4, iv v14, iv v21, iv v26, rv b30, iv v92, iv v134, iv v141, iv v148, iv (3 : Int32), iv v203, .unset, iv (1 : Int32), iv (1 : Int32), iv v329, iv v336, iv v343, iv v388, iv v436, iv (2048 : Int32), iv (65535 : Int32), .unset] [(.int (55296 : Int32)), (.int v388)])) (fun target kt => ?_) ?_
            · show Steps p.tables e below (Tg433.setTop (mkF m 494 #[iv p0, iv p1, iv p2, iv p3, iv p4, iv p5, iv v4, iv v14, iv v21, iv v26, rv b30, iv v92, iv v134, iv v141, iv v148, iv (3 : Int32), iv v203, .unset, iv (1 : Int32), iv (1 : Int32), iv v329, iv v336, iv v343, iv v388, iv v436, iv (2048 : Int32), iv (65535 : Int32), .unset] [(.int (65535 : Int32)), (.int v388)])) target
              refine XS.icmpNo Xg433.here hx rfl (hb hby at_494) rfl (flt c494).2.2.1 ?_
              refine XS.iload Xg433.here hx rfl (hb hby at_497) rfl ?_
              refine XS.iconst Xg433.here hx rfl (hb hby at_499) ?_
              refine XS.icmpNo Xg433.here hx rfl (hb hby at_500) rfl (teq (by decide : (3 : Int32) = (3 : Int32))).2 ?_
              refine XS.iload Xg433.here hx rfl (hb hby at_503) rfl ?_
              refine Xg433.ldcInt hx hown (mvT hZ (hw _ (List.mem_of_getElem? (i := 14) rfl))) (g := (mkF m 505 #[iv p0, iv p1, iv p2, iv p3, iv p4, iv p5, iv v4, iv v14, iv v21, iv v26, rv b30, iv v92, iv v134, iv v141, iv v148, iv (3 : Int32), iv v203, .unset, iv (1 : Int32), iv (1 : Int32), iv v329, iv v336, iv v343, iv v388, iv v436, iv (2048 : Int32), iv (65535 : Int32), .unset] [(.int v388)])) rfl (hb hby at_505) _ ?_
              exact kt
            by_cases c507 : v388 < (55296 : Int32)
            · refine own_st (B := Tg433.setTop (mkF m 522 #[iv p0, iv p1, iv p2, iv p3, iv p4, iv p5, iv v4, iv v14, iv v21, iv v26, rv b30, iv v92, iv v134, iv v141, iv v148, iv (3 : Int32), iv v203, .unset, iv (1 : Int32), iv (1 : Int32), iv v329, iv v336, iv v343, iv v388, iv v436, iv (2048 : Int32), iv (65535 : Int32), .unset] [(.int (1 : Int32))])) (fun target kt => ?_) ?_
              · show Steps p.tables e below (Tg433.setTop (mkF m 507 #[iv p0, iv p1, iv p2, iv p3, iv p4, iv p5, iv v4, iv v14, iv v21, iv v26, rv b30, iv v92, iv v134, iv v141, iv v148, iv (3 : Int32), iv v203, .unset, iv (1 : Int32), iv (1 : Int32), iv v329, iv v336, iv v343, iv v388, iv v436, iv (2048 : Int32), iv (65535 : Int32), .unset] [(.int (55296 : Int32)), (.int v388)])) target
                refine XS.icmpYes Xg433.here hx rfl (pc0 := 507) (pc' := 517) rfl (hb hby at_507) rfl (tlt c507).1 (by decide) (by decide) ?_
                refine XS.iconst Xg433.here hx rfl (hb hby at_517) ?_
                refine XS.goto Xg433.here hx rfl (pc0 := 518) (pc' := 522) rfl (hb hby at_518) (by decide) (by decide) ?_
                exact kt
              exact ⟨_, ⟨(1 : Int32), rfl, (own_b1 ⟨c487, ⟨c494, (Or.inl c507)⟩⟩).symm⟩, fun _ k => k⟩
            · refine own_st (B := Tg433.setTop (mkF m 514 #[iv p0, iv p1, iv p2, iv p3, iv p4, iv p5, iv v4, iv v14, iv v21, iv v26, rv b30, iv v92, iv v134, iv v141, iv v148, iv (3 : Int32), iv v203, .unset, iv (1 : Int32), iv (1 : Int32), iv v329, iv v336, iv v343, iv v388, iv v436, iv (2048 : Int32), iv (65535 : Int32), .unset] [(.int (57343 : Int32)), (.int v436)])) (fun target kt => ?_) ?_
              · show Steps p.tables e below (Tg433.setTop (mkF m 507 #[iv p0, iv p1, iv p2, iv p3, iv p4, iv p5, iv v4, iv v14, iv v21, iv v26, rv b30, iv v92, iv v134, iv v141, iv v148, iv (3 : Int32), iv v203, .unset, iv (1 : Int32), iv (1 : Int32), iv v329, iv v336, iv v343, iv v388, iv v436, iv (2048 : Int32), iv (65535 : Int32), .unset] [(.int (55296 : Int32)), (.int v388)])) target
                refine XS.icmpNo Xg433.here hx rfl (hb hby at_507) rfl (flt c507).1 ?_
                refine XS.iload Xg433.here hx rfl (hb hby at_510) rfl ?_
                refine Xg433.ldcInt hx hown (mvT hZ (hw _ (List.mem_of_getElem? (i := 17) rfl))) (g := (mkF m 512 #[iv p0, iv p1, iv p2, iv p3, iv p4, iv p5, iv v4, iv v14, iv v21, iv v26, rv b30, iv v92, iv v134, iv v141, iv v148, iv (3 : Int32), iv v203, .unset, iv (1 : Int32), iv (1 : Int32), iv v329, iv v336, iv v343, iv v388, iv v436, iv (2048 : Int32), iv (65535 : Int32), .unset] [(.int v436)])) rfl (hb hby at_512) _ ?_
                exact kt
              by_cases c514 : (57343 : Int32) < v436
              · refine own_st (B := Tg433.setTop (mkF m 522 #[iv p0, iv p1, iv p2, iv p3, iv p4, iv p5, iv v4, iv v14, iv v21, iv v26, rv b30, iv v92, iv v134, iv v141, iv v148, iv (3 : Int32), iv v203, .unset, iv (1 : Int32), iv (1 : Int32), iv v329, iv v336, iv v343, iv v388, iv v436, iv (2048 : Int32), iv (65535 : Int32), .unset] [(.int (1 : Int32))])) (fun target kt => ?_) ?_
                · show Steps p.tables e below (Tg433.setTop (mkF m 514 #[iv p0, iv p1, iv p2, iv p3, iv p4, iv p5, iv v4, iv v14, iv v21, iv v26, rv b30, iv v92, iv v134, iv v141, iv v148, iv (3 : Int32), iv v203, .unset, iv (1 : Int32), iv (1 : Int32), iv v329, iv v336, iv v343, iv v388, iv v436, iv (2048 : Int32), iv (65535 : Int32), .unset] [(.int (57343 : Int32)), (.int v436)])) target
                  refine XS.icmpNo Xg433.here hx rfl (hb hby at_514) rfl (tlt c514).2.2.2 ?_
                  refine XS.iconst Xg433.here hx rfl (hb hby at_517) ?_
                  refine XS.goto Xg433.here hx rfl (pc0 := 518) (pc' := 522) rfl (hb hby at_518) (by decide) (by decide) ?_
                  exact kt
                exact ⟨_, ⟨(1 : Int32), rfl, (own_b1 ⟨c487, ⟨c494, (Or.inr c514)⟩⟩).symm⟩, fun _ k => k⟩
              · refine own_st (B := Tg433.setTop (mkF m 522 #[iv p0, iv p1, iv p2, iv p3, iv p4, iv p5, iv v4, iv v14, iv v21, iv v26, rv b30, iv v92, iv v134, iv v141, iv v148, iv (3 : Int32), iv v203, .unset, iv (1 : Int32), iv (1 : Int32), iv v329, iv v336, iv v343, iv v388, iv v436, iv (2048 : Int32), iv (65535 : Int32), .unset] [(.int (0 : Int32))])) (fun target kt => ?_) ?_
                · show Steps p.tables e below (Tg433.setTop (mkF m 514 #[iv p0, iv p1, iv p2, iv p3, iv p4, iv p5, iv v4, iv v14, iv v21, iv v26, rv b30, iv v92, iv v134, iv v141, iv v148, iv (3 : Int32), iv v203, .unset, iv (1 : Int32), iv (1 : Int32), iv v329, iv v336, iv v343, iv v388, iv v436, iv (2048 : Int32), iv (65535 : Int32), .unset] [(.int (57343 : Int32)), (.int v436)])) target
                  refine XS.icmpYes Xg433.here hx rfl (pc0 := 514) (pc' := 521) rfl (hb hby at_514) rfl (flt c514).2.2.2 (by decide) (by decide) ?_
                  refine XS.iconst Xg433.here hx rfl (hb hby at_521) ?_
                  exact kt
                exact ⟨_, ⟨(0 : Int32), rfl, (own_b0 (fun w => (fun w => (fun w => w.elim c507 c514) w.2) w.2)).symm⟩, fun _ k => k⟩
      refine own_st st_M522 ?_
      refine own_st (B := Tg433.setTop (mkF m 531 #[iv p0, iv p1, iv p2, iv p3, iv p4, iv p5, iv v4, iv v14, iv v21, iv v26, rv b30, iv v92, iv v134, iv v141, iv v148, iv (3 : Int32), iv v203, .unset, iv (1 : Int32), iv (1 : Int32), iv v329, iv v336, iv v343, iv v388, iv v436, iv (2048 : Int32), iv (65535 : Int32), iv (own_b (¬ (v436 < (2048 : Int32)) ∧ ((¬ ((65535 : Int32) < v388) ∧ (((v388 < (55296 : Int32)) ∨ ((57343 : Int32) < v436)))))))] [(.int (own_b (¬ (v436 < (2048 : Int32)) ∧ ((¬ ((65535 : Int32) < v388) ∧ (((v388 < (55296 : Int32)) ∨ ((57343 : Int32) < v436))))))))])) (fun target kt => ?_) ?_
      · show Steps p.tables e below (Tg433.setTop (mkF m 522 #[iv p0, iv p1, iv p2, iv p3, iv p4, iv p5, iv v4, iv v14, iv v21, iv v26, rv b30, iv v92, iv v134, iv v141, iv v148, iv (3 : Int32), iv v203, .unset, iv (1 : Int32), iv (1 : Int32), iv v329, iv v336, iv v343, iv v388, iv v436, iv (2048 : Int32), iv (65535 : Int32), .unset] [(.int (own_b (¬ (v436 < (2048 : Int32)) ∧ ((¬ ((65535 : Int32) < v388) ∧ (((v388 < (55296 : Int32)) ∨ ((57343 : Int32) < v436))))))))])) target
        refine XS.istore Xg433.here hx rfl (hb hby at_522) rfl (l' := #[iv p0, iv p1, iv p2, iv p3, iv p4, iv p5, iv v4, iv v14, iv v21, iv v26, rv b30, iv v92, iv v134, iv v141, iv v148, iv (3 : Int32), iv v203, .unset, iv (1 : Int32), iv (1 : Int32), iv v329, iv v336, iv v343, iv v388, iv v436, iv (2048 : Int32), iv (65535 : Int32), iv (own_b (¬ (v436 < (2048 : Int32)) ∧ ((¬ ((65535 : Int32) < v388) ∧ (((v388 < (55296 : Int32)) ∨ ((57343 : Int32) < v436)))))))]) rfl ?_
        refine XS.iload Xg433.here hx rfl (hb hby at_524) rfl ?_
        refine XS.ifNo Xg433.here hx rfl (hb hby at_526) rfl ((if0 _ _).trans (feq (by decide : ¬ ((1 : Int32) = (0 : Int32)))).1) ?_
        refine XS.iload Xg433.here hx rfl (hb hby at_529) rfl ?_
        exact kt
      obtain ⟨_, ⟨j584_l17, rfl, hj584_l17⟩, st_M584⟩ : own_Lead p.tables e below (Tg433.setTop (mkF m 531 #[iv p0, iv p1, iv p2, iv p3, iv p4, iv p5, iv v4, iv v14, iv v21, iv v26, rv b30, iv v92, iv v134, iv v141, iv v148, iv (3 : Int32), iv v203, .unset, iv (1 : Int32), iv (1 : Int32), iv v329, iv v336, iv v343, iv v388, iv v436, iv (2048 : Int32), iv (65535 : Int32), iv (own_b (¬ (v436 < (2048 : Int32)) ∧ ((¬ ((65535 : Int32) < v388) ∧ (((v388 < (55296 : Int32)) ∨ ((57343 : Int32) < v436)))))))] [(.int (own_b (¬ (v436 < (2048 : Int32)) ∧ ((¬ ((65535 : Int32) < v388) ∧ (((v388 < (55296 : Int32)) ∨ ((57343 : Int32) < v436))))))))])) (fun B => ∃ (j584_l17 : Int32), B = Tg433.setTop (mkF m 584 #[iv p0, iv p1, iv p2, iv p3, iv p4, iv p5, iv v4, iv v14, iv v21, iv v26, rv b30, iv v92, iv v134, iv v141, iv v148, iv (3 : Int32), iv v203, iv j584_l17, iv (1 : Int32), iv (1 : Int32), iv v329, iv v336, iv v343, iv v388, iv v436, iv (2048 : Int32), iv (65535 : Int32), iv (own_b (¬ (v436 < (2048 : Int32)) ∧ ((¬ ((65535 : Int32) < v388) ∧ (((v388 < (55296 : Int32)) ∨ ((57343 : Int32) < v436)))))))] []) ∧ j584_l17 = (if ¬ (v436 < (2048 : Int32)) ∧ ((¬ ((65535 : Int32) < v388) ∧ (((v388 < (55296 : Int32)) ∨ ((57343 : Int32) < v436))))) then (0 : Int32) else (-1 : Int32))) := by
        by_cases c531 : ¬ (v436 < (2048 : Int32)) ∧ ((¬ ((65535 : Int32) < v388) ∧ (((v388 < (55296 : Int32)) ∨ ((57343 : Int32) < v436)))))
        · refine own_st (B := Tg433.setTop (mkF m 584 #[iv p0, iv p1, iv p2, iv p3, iv p4, iv p5, iv v4, iv v14, iv v21, iv v26, rv b30, iv v92, iv v134, iv v141, iv v148, iv (3 : Int32), iv v203, iv (0 : Int32), iv (1 : Int32), iv (1 : Int32), iv v329, iv v336, iv v343, iv v388, iv v436, iv (2048 : Int32), iv (65535 : Int32), iv (own_b (¬ (v436 < (2048 : Int32)) ∧ ((¬ ((65535 : Int32) < v388) ∧ (((v388 < (55296 : Int32)) ∨ ((57343 : Int32) < v436)))))))] [])) (fun target kt => ?_) ?_
          · show Steps p.tables e below (Tg433.setTop (mkF m 531 #[iv p0, iv p1, iv p2, iv p3, iv p4, iv p5, iv v4, iv v14, iv v21, iv v26, rv b30, iv v92, iv v134, iv v141, iv v148, iv (3 : Int32), iv v203, .unset, iv (1 : Int32), iv (1 : Int32), iv v329, iv v336, iv v343, iv v388, iv v436, iv (2048 : Int32), iv (65535 : Int32), iv (own_b (¬ (v436 < (2048 : Int32)) ∧ ((¬ ((65535 : Int32) < v388) ∧ (((v388 < (55296 : Int32)) ∨ ((57343 : Int32) < v436)))))))] [(.int (own_b (¬ (v436 < (2048 : Int32)) ∧ ((¬ ((65535 : Int32) < v388) ∧ (((v388 < (55296 : Int32)) ∨ ((57343 : Int32) < v436))))))))])) target
            refine XS.ifYes Xg433.here hx rfl (pc0 := 531) (pc' := 540) rfl (hb hby at_531) rfl ((if0 _ _).trans (feq (own_bn0 rfl c531)).2) (by decide) (by decide) ?_
            refine XS.iload Xg433.here hx rfl (hb hby at_540) rfl ?_
            refine XS.iload Xg433.here hx rfl (hb hby at_542) rfl ?_
            refine XS.icmpNo Xg433.here hx rfl (hb hby at_544) rfl (tlt (by decide : (1 : Int32) < (3 : Int32))).2.1 ?_
            refine XS.iconst Xg433.here hx rfl (hb hby at_547) ?_
            refine XS.istore Xg433.here hx rfl (hb hby at_548) rfl (l' := #[iv p0, iv p1, iv p2, iv p3, iv p4, iv p5, iv v4, iv v14, iv v21, iv v26, rv b30, iv v92, iv v134, iv v141, iv v148, iv (3 : Int32), iv v203, iv (0 : Int32), iv (1 : Int32), iv (1 : Int32), iv v329, iv v336, iv v343, iv v388, iv v436, iv (2048 : Int32), iv (65535 : Int32), iv (own_b (¬ (v436 < (2048 : Int32)) ∧ ((¬ ((65535 : Int32) < v388) ∧ (((v388 < (55296 : Int32)) ∨ ((57343 : Int32) < v436)))))))]) rfl ?_
            refine XS.goto Xg433.here hx rfl (pc0 := 550) (pc' := 584) rfl (hb hby at_550) (by decide) (by decide) ?_
            exact kt
          exact ⟨_, ⟨(0 : Int32), rfl, (if_pos c531).symm⟩, fun _ k => k⟩
        · refine own_st (B := Tg433.setTop (mkF m 584 #[iv p0, iv p1, iv p2, iv p3, iv p4, iv p5, iv v4, iv v14, iv v21, iv v26, rv b30, iv v92, iv v134, iv v141, iv v148, iv (3 : Int32), iv v203, iv (-1 : Int32), iv (1 : Int32), iv (1 : Int32), iv v329, iv v336, iv v343, iv v388, iv v436, iv (2048 : Int32), iv (65535 : Int32), iv (own_b (¬ (v436 < (2048 : Int32)) ∧ ((¬ ((65535 : Int32) < v388) ∧ (((v388 < (55296 : Int32)) ∨ ((57343 : Int32) < v436)))))))] [])) (fun target kt => ?_) ?_
          · show Steps p.tables e below (Tg433.setTop (mkF m 531 #[iv p0, iv p1, iv p2, iv p3, iv p4, iv p5, iv v4, iv v14, iv v21, iv v26, rv b30, iv v92, iv v134, iv v141, iv v148, iv (3 : Int32), iv v203, .unset, iv (1 : Int32), iv (1 : Int32), iv v329, iv v336, iv v343, iv v388, iv v436, iv (2048 : Int32), iv (65535 : Int32), iv (own_b (¬ (v436 < (2048 : Int32)) ∧ ((¬ ((65535 : Int32) < v388) ∧ (((v388 < (55296 : Int32)) ∨ ((57343 : Int32) < v436)))))))] [(.int (own_b (¬ (v436 < (2048 : Int32)) ∧ ((¬ ((65535 : Int32) < v388) ∧ (((v388 < (55296 : Int32)) ∨ ((57343 : Int32) < v436))))))))])) target
            refine XS.ifNo Xg433.here hx rfl (hb hby at_531) rfl ((if0 _ _).trans (teq (own_b00 rfl c531)).2) ?_
            refine XS.iconst Xg433.here hx rfl (hb hby at_534) ?_
            refine XS.istore Xg433.here hx rfl (hb hby at_535) rfl (l' := #[iv p0, iv p1, iv p2, iv p3, iv p4, iv p5, iv v4, iv v14, iv v21, iv v26, rv b30, iv v92, iv v134, iv v141, iv v148, iv (3 : Int32), iv v203, iv (-1 : Int32), iv (1 : Int32), iv (1 : Int32), iv v329, iv v336, iv v343, iv v388, iv v436, iv (2048 : Int32), iv (65535 : Int32), iv (own_b (¬ (v436 < (2048 : Int32)) ∧ ((¬ ((65535 : Int32) < v388) ∧ (((v388 < (55296 : Int32)) ∨ ((57343 : Int32) < v436)))))))]) rfl ?_
            refine XS.goto Xg433.here hx rfl (pc0 := 537) (pc' := 584) rfl (hb hby at_537) (by decide) (by decide) ?_
            exact kt
          exact ⟨_, ⟨(-1 : Int32), rfl, (if_neg c531).symm⟩, fun _ k => k⟩
      refine own_st st_M584 ?_
      refine own_st (B := Tg433.setTop (mkF m 590 #[iv p0, iv p1, iv p2, iv p3, iv p4, iv p5, iv v4, iv v14, iv v21, iv v26, rv b30, iv v92, iv v134, iv v141, iv v148, iv (3 : Int32), iv v203, iv j584_l17, iv (1 : Int32), iv (1 : Int32), iv v329, iv v336, iv v343, iv v388, iv v436, iv (2048 : Int32), iv (65535 : Int32), iv (own_b (¬ (v436 < (2048 : Int32)) ∧ ((¬ ((65535 : Int32) < v388) ∧ (((v388 < (55296 : Int32)) ∨ ((57343 : Int32) < v436)))))))] [(.int v21), (.int v4), (.ref b30)])) (fun target kt => ?_) ?_
      · show Steps p.tables e below (Tg433.setTop (mkF m 584 #[iv p0, iv p1, iv p2, iv p3, iv p4, iv p5, iv v4, iv v14, iv v21, iv v26, rv b30, iv v92, iv v134, iv v141, iv v148, iv (3 : Int32), iv v203, iv j584_l17, iv (1 : Int32), iv (1 : Int32), iv v329, iv v336, iv v343, iv v388, iv v436, iv (2048 : Int32), iv (65535 : Int32), iv (own_b (¬ (v436 < (2048 : Int32)) ∧ ((¬ ((65535 : Int32) < v388) ∧ (((v388 < (55296 : Int32)) ∨ ((57343 : Int32) < v436)))))))] [])) target
        refine XS.aload Xg433.here hx rfl (hb hby at_584) rfl rfl ?_
        refine XS.iload Xg433.here hx rfl (hb hby at_586) rfl ?_
        refine XS.iload Xg433.here hx rfl (hb hby at_588) rfl ?_
        exact kt
      obtain ⟨_, _, ⟨Tg590, Lg590, kg590, ng590⟩, -, Xg590, ⟨Lcg590, hQg590, lg590, yg590, zg590⟩, stg590⟩ := Jvm.LawKit.callS Xg433 hx (y := (⟨"com/example/psyche/psyche/XmlChars", "sequenceLength", "([BII)I"⟩ : MethodName)) hown (mvT hZ (hw _ (List.mem_of_getElem? (i := 1) rfl))) (mvT hZ (hw _ (List.mem_of_getElem? (i := 2) rfl))) (mvT hZ (hw _ (List.mem_of_getElem? (i := 3) rfl))) (mvT hZ (hw _ (List.mem_of_getElem? (i := 4) rfl))) (by decide) (backOf (W := 0) (own_rm1_C l Z a0 hw [] b30 v4 v21 a128 hg128 n0 Zz_12 F_24 (show v4 = (0 : Int32) ∨ v4 = (1 : Int32) ∨ v4 = (2 : Int32) ∨ v4 = (3 : Int32) from hat) (show ¬ ((a128 (v4).toNatClampNeg) &&& (255 : Int32)) < (194 : Int32) from (by rw [hLD, Int32.lt_iff_toInt_lt, show (194 : Int32).toInt = 194 by decide]; omega)) (show ¬ ((a128 (v4).toNatClampNeg) &&& (255 : Int32)) < (224 : Int32) from (by rw [hLD, Int32.lt_iff_toInt_lt, show (224 : Int32).toInt = 224 by decide]; omega)) (show ((a128 (v4).toNatClampNeg) &&& (255 : Int32)) < (240 : Int32) from (by rw [hLD, Int32.lt_iff_toInt_lt, show (240 : Int32).toInt = 240 by decide]; omega))) hZ (hw _ (List.mem_of_getElem? (i := 4) rfl)) (hw _ (List.mem_of_getElem? (i := 3) rfl)) (by decide) (by decide)) (g := (mkF m 590 #[iv p0, iv p1, iv p2, iv p3, iv p4, iv p5, iv v4, iv v14, iv v21, iv v26, rv b30, iv v92, iv v134, iv v141, iv v148, iv (3 : Int32), iv v203, iv j584_l17, iv (1 : Int32), iv (1 : Int32), iv v329, iv v336, iv v343, iv v388, iv v436, iv (2048 : Int32), iv (65535 : Int32), iv (own_b (¬ (v436 < (2048 : Int32)) ∧ ((¬ ((65535 : Int32) < v388) ∧ (((v388 < (55296 : Int32)) ∨ ((57343 : Int32) < v436)))))))] [(.int v21), (.int v4), (.ref b30)])) rfl (by rw [hml]; rfl) (argsL := [(.ref b30), (.int v4), (.int v21)]) (rest := []) (lenOf own_pd0 rfl) rfl (by show 2 * 0 + _ ≤ _; exact Nat.le_of_eq rfl) (hb hby at_590) (fun _ _ => ⟨rfl, eg433, (by decide : 1 + 0 ≤ _), (by decide : 8 + 0 ≤ _)⟩)
      dsimp only [Pt.U, Pt.locs, Pt.cells, Pt.slots] at Xg590 lg590 yg590 zg590 stg590 hQg590
      subst lg590 yg590 zg590
      obtain ⟨rfl, Ng590q, eg590⟩ := hQg590
      have Ng590 := Fr.app Ng433 Ng590q
      refine own_st (stg590) ?_
      refine own_st (B := Tg590.setTop (mkF m 595 #[iv p0, iv p1, iv p2, iv p3, iv p4, iv p5, iv v4, iv v14, iv v21, iv v26, rv b30, iv v92, iv v134, iv v141, iv v148, iv (3 : Int32), iv v203, iv j584_l17, iv (1 : Int32), iv (1 : Int32), iv v329, iv v336, iv v343, iv v388, iv v436, iv (2048 : Int32), iv (65535 : Int32), iv (own_b (¬ (v436 < (2048 : Int32)) ∧ ((¬ ((65535 : Int32) < v388) ∧ (((v388 < (55296 : Int32)) ∨ ((57343 : Int32) < v436)))))))] [(.int j584_l17), (.int (if (v4 + (1 : Int32)) < v21 then (if ((a128 (v4 + (1 : Int32)).toNatClampNeg) &&& (255 : Int32)) < (if ((a128 (v4).toNatClampNeg) &&& (255 : Int32)) = (224 : Int32) then (160 : Int32) else (128 : Int32)) then (-1 : Int32) else (if (if ((a128 (v4).toNatClampNeg) &&& (255 : Int32)) = (224 : Int32) then (191 : Int32) else (if ((a128 (v4).toNatClampNeg) &&& (255 : Int32)) = (237 : Int32) then (159 : Int32) else (191 : Int32))) < ((a128 (v4 + (1 : Int32)).toNatClampNeg) &&& (255 : Int32)) then (-1 : Int32) else (if (v4 + (2 : Int32)) < v21 then (if ((a128 (v4 + (2 : Int32)).toNatClampNeg) &&& (255 : Int32)) < (128 : Int32) then (-1 : Int32) else (if (191 : Int32) < ((a128 (v4 + (2 : Int32)).toNatClampNeg) &&& (255 : Int32)) then (-1 : Int32) else (if ((a128 (v4).toNatClampNeg) &&& (255 : Int32)) = (239 : Int32) then (if (a128 (v4 + (1 : Int32)).toNatClampNeg) = (-65 : Int32) then (if ((a128 (v4 + (2 : Int32)).toNatClampNeg) &&& (254 : Int32)) = (190 : Int32) then (-2 : Int32) else (3 : Int32)) else (3 : Int32)) else (3 : Int32)))) else (0 : Int32)))) else (0 : Int32)))])) (fun target kt => ?_) ?_
      · show Steps p.tables e below (Tg590.setTop (mkF m 593 #[iv p0, iv p1, iv p2, iv p3, iv p4, iv p5, iv v4, iv v14, iv v21, iv v26, rv b30, iv v92, iv v134, iv v141, iv v148, iv (3 : Int32), iv v203, iv j584_l17, iv (1 : Int32), iv (1 : Int32), iv v329, iv v336, iv v343, iv v388, iv v436, iv (2048 : Int32), iv (65535 : Int32), iv (own_b (¬ (v436 < (2048 : Int32)) ∧ ((¬ ((65535 : Int32) < v388) ∧ (((v388 < (55296 : Int32)) ∨ ((57343 : Int32) < v436)))))))] [(.int (if (v4 + (1 : Int32)) < v21 then (if ((a128 (v4 + (1 : Int32)).toNatClampNeg) &&& (255 : Int32)) < (if ((a128 (v4).toNatClampNeg) &&& (255 : Int32)) = (224 : Int32) then (160 : Int32) else (128 : Int32)) then (-1 : Int32) else (if (if ((a128 (v4).toNatClampNeg) &&& (255 : Int32)) = (224 : Int32) then (191 : Int32) else (if ((a128 (v4).toNatClampNeg) &&& (255 : Int32)) = (237 : Int32) then (159 : Int32) else (191 : Int32))) < ((a128 (v4 + (1 : Int32)).toNatClampNeg) &&& (255 : Int32)) then (-1 : Int32) else (if (v4 + (2 : Int32)) < v21 then (if ((a128 (v4 + (2 : Int32)).toNatClampNeg) &&& (255 : Int32)) < (128 : Int32) then (-1 : Int32) else (if (191 : Int32) < ((a128 (v4 + (2 : Int32)).toNatClampNeg) &&& (255 : Int32)) then (-1 : Int32) else (if ((a128 (v4).toNatClampNeg) &&& (255 : Int32)) = (239 : Int32) then (if (a128 (v4 + (1 : Int32)).toNatClampNeg) = (-65 : Int32) then (if ((a128 (v4 + (2 : Int32)).toNatClampNeg) &&& (254 : Int32)) = (190 : Int32) then (-2 : Int32) else (3 : Int32)) else (3 : Int32)) else (3 : Int32)))) else (0 : Int32)))) else (0 : Int32)))])) target
        refine XS.iload Xg590.here hx rfl (hb hby at_593) rfl ?_
        exact kt
      have c595 : (if (v4 + (1 : Int32)) < v21 then (if ((a128 (v4 + (1 : Int32)).toNatClampNeg) &&& (255 : Int32)) < (if ((a128 (v4).toNatClampNeg) &&& (255 : Int32)) = (224 : Int32) then (160 : Int32) else (128 : Int32)) then (-1 : Int32) else (if (if ((a128 (v4).toNatClampNeg) &&& (255 : Int32)) = (224 : Int32) then (191 : Int32) else (if ((a128 (v4).toNatClampNeg) &&& (255 : Int32)) = (237 : Int32) then (159 : Int32) else (191 : Int32))) < ((a128 (v4 + (1 : Int32)).toNatClampNeg) &&& (255 : Int32)) then (-1 : Int32) else (if (v4 + (2 : Int32)) < v21 then (if ((a128 (v4 + (2 : Int32)).toNatClampNeg) &&& (255 : Int32)) < (128 : Int32) then (-1 : Int32) else (if (191 : Int32) < ((a128 (v4 + (2 : Int32)).toNatClampNeg) &&& (255 : Int32)) then (-1 : Int32) else (if ((a128 (v4).toNatClampNeg) &&& (255 : Int32)) = (239 : Int32) then (if (a128 (v4 + (1 : Int32)).toNatClampNeg) = (-65 : Int32) then (if ((a128 (v4 + (2 : Int32)).toNatClampNeg) &&& (254 : Int32)) = (190 : Int32) then (-2 : Int32) else (3 : Int32)) else (3 : Int32)) else (3 : Int32)))) else (0 : Int32)))) else (0 : Int32)) = j584_l17 := by
        have hc1 : 0 ≤ v134.toInt ∧ v134.toInt < 256 := by rw [hv134, own_m255]; omega
        have hc2 : 0 ≤ v141.toInt ∧ v141.toInt < 256 := by rw [hv141, own_m255]; omega
        have hc3 : 0 ≤ v148.toInt ∧ v148.toInt < 256 := by rw [hv148, own_m255]; omega
        have hbits : v203.toInt = v92.toInt % 16 := by rw [hv203]; exact own_m15 v92
        have hq1 : v329.toInt = v134.toInt % 64 := by rw [hv329]; exact own_m63 v134
        have hq2 : v336.toInt = v141.toInt % 64 := by rw [hv336]; exact own_m63 v141
        have hq3 : v343.toInt = v148.toInt % 64 := by rw [hv343]; exact own_m63 v148
        have hz0 : (0 : Int32).toInt = 0 := by decide
        have hz63 : (63 : Int32).toInt = 63 := by decide
        have hmn : v388.toInt = (v92.toInt % 16) * 4096 + (0) * 64 + (0) * 1 := by
          rw [hv388, if_neg (by decide), if_pos rfl, own_p3 _ _ _ (by omega) (by omega) (by omega) (by omega) (by omega) (by omega)]
          omega
        have hmx : v436.toInt = (v92.toInt % 16) * 4096 + (63) * 64 + (63) * 1 := by
          rw [hv436, if_neg (by decide), if_pos rfl, own_p3 _ _ _ (by omega) (by omega) (by omega) (by omega) (by omega) (by omega)]
          omega
        have hkv := own_kv v14 (3 : Int32) (1 : Int32) hv261
        rw [show (3 : Int32).toInt = 3 by decide, show (1 : Int32).toInt = 1 by decide] at hkv
        rw [hj584_l17]
        simp only [hLD, hA1, hA2, hA3, hM1, hM2, own_c192 v134 hc1.1 hc1.2, own_c192 v141 hc2.1 hc2.2, own_c192 v148 hc3.1 hc3.2, own_lim1 v4 v14 hat hav v21 hv21, own_lim2 v4 v14 hat hav v21 hv21, own_lim3 v4 v14 hat hav v21 hv21]
        exact own_F2_1 v92 v134 v141 v148 v14 v388 v436 (by omega) hc1 hc2 hc3 hav (hkv.1 (by decide)) hmn hmx
      refine own_st (B := Tg590.setTop (mkF m 603 #[iv p0, iv p1, iv p2, iv p3, iv p4, iv p5, iv v4, iv v14, iv v21, iv v26, rv b30, iv v92, iv v134, iv v141, iv v148, iv (3 : Int32), iv v203, iv j584_l17, iv (1 : Int32), iv (1 : Int32), iv v329, iv v336, iv v343, iv v388, iv v436, iv (2048 : Int32), iv (65535 : Int32), iv (own_b (¬ (v436 < (2048 : Int32)) ∧ ((¬ ((65535 : Int32) < v388) ∧ (((v388 < (55296 : Int32)) ∨ ((57343 : Int32) < v436)))))))] [(.int (1 : Int32))])) (fun target kt => ?_) ?_
      · show Steps p.tables e below (Tg590.setTop (mkF m 595 #[iv p0, iv p1, iv p2, iv p3, iv p4, iv p5, iv v4, iv v14, iv v21, iv v26, rv b30, iv v92, iv v134, iv v141, iv v148, iv (3 : Int32), iv v203, iv j584_l17, iv (1 : Int32), iv (1 : Int32), iv v329, iv v336, iv v343, iv v388, iv v436, iv (2048 : Int32), iv (65535 : Int32), iv (own_b (¬ (v436 < (2048 : Int32)) ∧ ((¬ ((65535 : Int32) < v388) ∧ (((v388 < (55296 : Int32)) ∨ ((57343 : Int32) < v436)))))))] [(.int j584_l17), (.int (if (v4 + (1 : Int32)) < v21 then (if ((a128 (v4 + (1 : Int32)).toNatClampNeg) &&& (255 : Int32)) < (if ((a128 (v4).toNatClampNeg) &&& (255 : Int32)) = (224 : Int32) then (160 : Int32) else (128 : Int32)) then (-1 : Int32) else (if (if ((a128 (v4).toNatClampNeg) &&& (255 : Int32)) = (224 : Int32) then (191 : Int32) else (if ((a128 (v4).toNatClampNeg) &&& (255 : Int32)) = (237 : Int32) then (159 : Int32) else (191 : Int32))) < ((a128 (v4 + (1 : Int32)).toNatClampNeg) &&& (255 : Int32)) then (-1 : Int32) else (if (v4 + (2 : Int32)) < v21 then (if ((a128 (v4 + (2 : Int32)).toNatClampNeg) &&& (255 : Int32)) < (128 : Int32) then (-1 : Int32) else (if (191 : Int32) < ((a128 (v4 + (2 : Int32)).toNatClampNeg) &&& (255 : Int32)) then (-1 : Int32) else (if ((a128 (v4).toNatClampNeg) &&& (255 : Int32)) = (239 : Int32) then (if (a128 (v4 + (1 : Int32)).toNatClampNeg) = (-65 : Int32) then (if ((a128 (v4 + (2 : Int32)).toNatClampNeg) &&& (254 : Int32)) = (190 : Int32) then (-2 : Int32) else (3 : Int32)) else (3 : Int32)) else (3 : Int32)))) else (0 : Int32)))) else (0 : Int32)))])) target
        refine XS.icmpNo Xg590.here hx rfl (hb hby at_595) rfl (teq c595).2 ?_
        refine XS.iconst Xg590.here hx rfl (hb hby at_598) ?_
        refine XS.goto Xg590.here hx rfl (pc0 := 599) (pc' := 603) rfl (hb hby at_599) (by decide) (by decide) ?_
        exact kt
      obtain ⟨fs, hr, hrun, hended, hW, hsame⟩ := Xg590.leave (v := some (.int (1 : Int32))) (fun h => by rw [Bd.returns] at h; cases h)
      have hend : Steps p.tables e below (Tg590.setTop (mkF m 603 #[iv p0, iv p1, iv p2, iv p3, iv p4, iv p5, iv v4, iv v14, iv v21, iv v26, rv b30, iv v92, iv v134, iv v141, iv v148, iv (3 : Int32), iv v203, iv j584_l17, iv (1 : Int32), iv (1 : Int32), iv v329, iv v336, iv v343, iv v388, iv v436, iv (2048 : Int32), iv (65535 : Int32), iv (own_b (¬ (v436 < (2048 : Int32)) ∧ ((¬ ((65535 : Int32) < v388) ∧ (((v388 < (55296 : Int32)) ∨ ((57343 : Int32) < v436)))))))] [(.int (1 : Int32))])) (Tg590.setFrames fs) := by
        exact retN Xg590 hx (t := .boolean) Bd.returns (by simp) (hb hby at_603) hr
      refine own_fin hend ⟨_, hrun, hended, _, _, rfl, ?_, ⟨_, rfl⟩, hW, hsame.mono (by decide) (by decide)⟩
      show own_Q0 Z p0 p1 p2 p3 p4 p5 h0 n0 _ Tg590.heap _
      rw [eg590]
      exact ⟨rfl, Ng590⟩
    · subst hs263
      refine own_st (B := Tg258.setTop (mkF m 278 #[iv p0, iv p1, iv p2, iv p3, iv p4, iv p5, iv v4, iv v14, iv v21, iv v26, rv b30, iv v92, iv v134, iv v141, iv v148, iv (3 : Int32), iv v203, .unset, iv (2 : Int32), .unset, .unset, .unset, .unset, .unset, .unset, .unset, .unset, .unset] [(.int (128 : Int32)), (.int (v134 &&& (192 : Int32)))])) (fun target kt => ?_) ?_
      · show Steps p.tables e below (Tg258.setTop (mkF m 263 #[iv p0, iv p1, iv p2, iv p3, iv p4, iv p5, iv v4, iv v14, iv v21, iv v26, rv b30, iv v92, iv v134, iv v141, iv v148, iv (3 : Int32), iv v203, .unset, iv (2 : Int32), .unset, .unset, .unset, .unset, .unset, .unset, .unset, .unset, .unset] [])) target
        refine XS.iload Xg258.here hx rfl (hb hby at_263) rfl ?_
        refine XS.iconst Xg258.here hx rfl (hb hby at_265) ?_
        refine XS.icmpNo Xg258.here hx rfl (hb hby at_266) rfl (flt (by decide : ¬ ((2 : Int32) < (2 : Int32)))).1 ?_
        refine XS.iload Xg258.here hx rfl (hb hby at_269) rfl ?_
        refine XS.sipush Xg258.here hx rfl (hb hby at_271) ?_
        refine XS.iand Xg258.here hx rfl (hb hby at_274) rfl ?_
        refine XS.sipush Xg258.here hx rfl (hb hby at_275) ?_
        exact kt
      obtain ⟨_, ⟨j322_s0, rfl, rfl⟩, st_M322⟩ : own_Lead p.tables e below (Tg258.setTop (mkF m 278 #[iv p0, iv p1, iv p2, iv p3, iv p4, iv p5, iv v4, iv v14, iv v21, iv v26, rv b30, iv v92, iv v134, iv v141, iv v148, iv (3 : Int32), iv v203, .unset, iv (2 : Int32), .unset, .unset, .unset, .unset, .unset, .unset, .unset, .unset, .unset] [(.int (128 : Int32)), (.int (v134 &&& (192 : Int32)))])) (fun B => ∃ (j322_s0 : Int32), B = Tg258.setTop (mkF m 322 #[iv p0, iv p1, iv p2, iv p3, iv p4, iv p5, iv v4, iv v14, iv v21, iv v26, rv b30, iv v92, iv v134, iv v141, iv v148, iv (3 : Int32), iv v203, .unset, iv (2 : Int32), .unset, .unset, .unset, .unset, .unset, .unset, .unset, .unset, .unset] [(.int j322_s0)]) ∧ j322_s0 = own_b ((v134 &&& (192 : Int32)) = (128 : Int32))) := by
        by_cases c278 : (v134 &&& (192 : Int32)) = (128 : Int32)
        · refine own_st (B := Tg258.setTop (mkF m 322 #[iv p0, iv p1, iv p2, iv p3, iv p4, iv p5, iv v4, iv v14, iv v21, iv v26, rv b30, iv v92, iv v134, iv v141, iv v148, iv (3 : Int32), iv v203, .unset, iv (2 : Int32), .unset, .unset, .unset, .unset, .unset, .unset, .unset, .unset, .unset] [(.int (1 : Int32))])) (fun target kt => ?_) ?_
          · show Steps p.tables e below (Tg258.setTop (mkF m 278 #[iv p0, iv p1, iv p2, iv p3, iv p4, iv p5, iv v4, iv v14, iv v21, iv v26, rv b30, iv v92, iv v134, iv v141, iv v148, iv (3 : Int32), iv v203, .unset, iv (2 : Int32), .unset, .unset, .unset, .unset, .unset, .unset, .unset, .unset, .unset] [(.int (128 : Int32)), (.int (v134 &&& (192 : Int32)))])) target
            refine XS.icmpNo Xg258.here hx rfl (hb hby at_278) rfl (teq c278).2 ?_
            refine XS.iload Xg258.here hx rfl (hb hby at_281) rfl ?_
            refine XS.iconst Xg258.here hx rfl (hb hby at_283) ?_
            refine XS.icmpYes Xg258.here hx rfl (pc0 := 284) (pc' := 299) rfl (hb hby at_284) rfl (tlt (by decide : (2 : Int32) < (3 : Int32))).1 (by decide) (by decide) ?_
            refine XS.iload Xg258.here hx rfl (hb hby at_299) rfl ?_
            refine XS.iconst Xg258.here hx rfl (hb hby at_301) ?_
            refine XS.icmpYes Xg258.here hx rfl (pc0 := 302) (pc' := 317) rfl (hb hby at_302) rfl (tlt (by decide : (2 : Int32) < (4 : Int32))).1 (by decide) (by decide) ?_
            refine XS.iconst Xg258.here hx rfl (hb hby at_317) ?_
            show Steps p.tables e below (Tg258.setTop (mkF m 318 #[iv p0, iv p1, iv p2, iv p3, iv p4, iv p5, iv v4, iv v14, iv v21, iv v26, rv b30, iv v92, iv v134, iv v141, iv v148, iv (3 : Int32), iv v203, .unset, iv (2 : Int32), .unset, .unset, .unset, .unset, .unset, .unset, .unset, .unset, .unset] [(.int (1 : Int32))])) target
            refine XS.goto Xg258.here hx rfl (pc0 := 318) (pc' := 322) rfl (hb hby at_318) (by decide) (by decide) ?_
            exact kt
          exact ⟨_, ⟨(1 : Int32), rfl, (own_b1 c278).symm⟩, fun _ k => k⟩
        · refine own_st (B := Tg258.setTop (mkF m 322 #[iv p0, iv p1, iv p2, iv p3, iv p4, iv p5, iv v4, iv v14, iv v21, iv v26, rv b30, iv v92, iv v134, iv v141, iv v148, iv (3 : Int32), iv v203, .unset, iv (2 : Int32), .unset, .unset, .unset, .unset, .unset, .unset, .unset, .unset, .unset] [(.int (0 : Int32))])) (fun target kt => ?_) ?_
          · show Steps p.tables e below (Tg258.setTop (mkF m 278 #[iv p0, iv p1, iv p2, iv p3, iv p4, iv p5, iv v4, iv v14, iv v21, iv v26, rv b30, iv v92, iv v134, iv v141, iv v148, iv (3 : Int32), iv v203, .unset, iv (2 : Int32), .unset, .unset, .unset, .unset, .unset, .unset, .unset, .unset, .unset] [(.int (128 : Int32)), (.int (v134 &&& (192 : Int32)))])) target
            refine XS.icmpYes Xg258.here hx rfl (pc0 := 278) (pc' := 321) rfl (hb hby at_278) rfl (feq c278).2 (by decide) (by decide) ?_
            refine XS.iconst Xg258.here hx rfl (hb hby at_321) ?_
            exact kt
          exact ⟨_, ⟨(0 : Int32), rfl, (own_b0 c278).symm⟩, fun _ k => k⟩
      refine own_st st_M322 ?_
      obtain ⟨v329, hv329⟩ : ∃ z : Int32, z = (v134 &&& (63 : Int32)) := ⟨_, rfl⟩
      obtain ⟨v336, hv336⟩ : ∃ z : Int32, z = (v141 &&& (63 : Int32)) := ⟨_, rfl⟩
      obtain ⟨v343, hv343⟩ : ∃ z : Int32, z = (v148 &&& (63 : Int32)) := ⟨_, rfl⟩
      refine own_st (B := Tg258.setTop (mkF m 385 #[iv p0, iv p1, iv p2, iv p3, iv p4, iv p5, iv v4, iv v14, iv v21, iv v26, rv b30, iv v92, iv v134, iv v141, iv v148, iv (3 : Int32), iv v203, .unset, iv (2 : Int32), iv (own_b ((v134 &&& (192 : Int32)) = (128 : Int32))), iv v329, iv v336, iv v343, .unset, .unset, .unset, .unset, .unset] [(.int (0 : Int32)), (.int (0 : Int32)), (.int v329), (.int v203), (.int (3 : Int32))])) (fun target kt => ?_) ?_
      · show Steps p.tables e below (Tg258.setTop (mkF m 322 #[iv p0, iv p1, iv p2, iv p3, iv p4, iv p5, iv v4, iv v14, iv v21, iv v26, rv b30, iv v92, iv v134, iv v141, iv v148, iv (3 : Int32), iv v203, .unset, iv (2 : Int32), .unset, .unset, .unset, .unset, .unset, .unset, .unset, .unset, .unset] [(.int (own_b ((v134 &&& (192 : Int32)) = (128 : Int32))))])) target
        refine XS.istore Xg258.here hx rfl (hb hby at_322) rfl (l' := #[iv p0, iv p1, iv p2, iv p3, iv p4, iv p5, iv v4, iv v14, iv v21, iv v26, rv b30, iv v92, iv v134, iv v141, iv v148, iv (3 : Int32), iv v203, .unset, iv (2 : Int32), iv (own_b ((v134 &&& (192 : Int32)) = (128 : Int32))), .unset, .unset, .unset, .unset, .unset, .unset, .unset, .unset]) rfl ?_
        refine XS.iload Xg258.here hx rfl (hb hby at_324) rfl ?_
        refine XS.bipush Xg258.here hx rfl (hb hby at_326) ?_
        refine XS.iand Xg258.here hx rfl (hb hby at_328) rfl ?_
        refine XS.istore Xg258.here hx rfl (hb hby at_329) rfl (l' := #[iv p0, iv p1, iv p2, iv p3, iv p4, iv p5, iv v4, iv v14, iv v21, iv v26, rv b30, iv v92, iv v134, iv v141, iv v148, iv (3 : Int32), iv v203, .unset, iv (2 : Int32), iv (own_b ((v134 &&& (192 : Int32)) = (128 : Int32))), iv v329, .unset, .unset, .unset, .unset, .unset, .unset, .unset]) (by subst hv329; rfl) ?_
        refine XS.iload Xg258.here hx rfl (hb hby at_331) rfl ?_
        refine XS.bipush Xg258.here hx rfl (hb hby at_333) ?_
        refine XS.iand Xg258.here hx rfl (hb hby at_335) rfl ?_
        show Steps p.tables e below (Tg258.setTop (mkF m 336 #[iv p0, iv p1, iv p2, iv p3, iv p4, iv p5, iv v4, iv v14, iv v21, iv v26, rv b30, iv v92, iv v134, iv v141, iv v148, iv (3 : Int32), iv v203, .unset, iv (2 : Int32), iv (own_b ((v134 &&& (192 : Int32)) = (128 : Int32))), iv v329, .unset, .unset, .unset, .unset, .unset, .unset, .unset] [(.int (v141 &&& (63 : Int32)))])) target
        refine XS.istore Xg258.here hx rfl (hb hby at_336) rfl (l' := #[iv p0, iv p1, iv p2, iv p3, iv p4, iv p5, iv v4, iv v14, iv v21, iv v26, rv b30, iv v92, iv v134, iv v141, iv v148, iv (3 : Int32), iv v203, .unset, iv (2 : Int32), iv (own_b ((v134 &&& (192 : Int32)) = (128 : Int32))), iv v329, iv v336, .unset, .unset, .unset, .unset, .unset, .unset]) (by subst hv336; rfl) ?_
        refine XS.iload Xg258.here hx rfl (hb hby at_338) rfl ?_
        refine XS.bipush Xg258.here hx rfl (hb hby at_340) ?_
        refine XS.iand Xg258.here hx rfl (hb hby at_342) rfl ?_
        refine XS.istore Xg258.here hx rfl (hb hby at_343) rfl (l' := #[iv p0, iv p1, iv p2, iv p3, iv p4, iv p5, iv v4, iv v14, iv v21, iv v26, rv b30, iv v92, iv v134, iv v141, iv v148, iv (3 : Int32), iv v203, .unset, iv (2 : Int32), iv (own_b ((v134 &&& (192 : Int32)) = (128 : Int32))), iv v329, iv v336, iv v343, .unset, .unset, .unset, .unset, .unset]) (by subst hv343; rfl) ?_
        refine XS.iload Xg258.here hx rfl (hb hby at_345) rfl ?_
        refine XS.iload Xg258.here hx rfl (hb hby at_347) rfl ?_
        refine XS.iload Xg258.here hx rfl (hb hby at_349) rfl ?_
        show Steps p.tables e below (Tg258.setTop (mkF m 351 #[iv p0, iv p1, iv p2, iv p3, iv p4, iv p5, iv v4, iv v14, iv v21, iv v26, rv b30, iv v92, iv v134, iv v141, iv v148, iv (3 : Int32), iv v203, .unset, iv (2 : Int32), iv (own_b ((v134 &&& (192 : Int32)) = (128 : Int32))), iv v329, iv v336, iv v343, .unset, .unset, .unset, .unset, .unset] [(.int (2 : Int32)), (.int v203), (.int (3 : Int32))])) target
        refine XS.iconst Xg258.here hx rfl (hb hby at_351) ?_
        refine XS.icmpNo Xg258.here hx rfl (hb hby at_352) rfl (flt (by decide : ¬ ((2 : Int32) < (2 : Int32)))).1 ?_
        refine XS.iload Xg258.here hx rfl (hb hby at_355) rfl ?_
        refine XS.goto Xg258.here hx rfl (pc0 := 357) (pc' := 361) rfl (hb hby at_357) (by decide) (by decide) ?_
        refine XS.iload Xg258.here hx rfl (hb hby at_361) rfl ?_
        refine XS.iconst Xg258.here hx rfl (hb hby at_363) ?_
        refine XS.icmpYes Xg258.here hx rfl (pc0 := 364) (pc' := 372) rfl (hb hby at_364) rfl (tlt (by decide : (2 : Int32) < (3 : Int32))).1 (by decide) (by decide) ?_
        refine XS.iconst Xg258.here hx rfl (hb hby at_372) ?_
        show Steps p.tables e below (Tg258.setTop (mkF m 373 #[iv p0, iv p1, iv p2, iv p3, iv p4, iv p5, iv v4, iv v14, iv v21, iv v26, rv b30, iv v92, iv v134, iv v141, iv v148, iv (3 : Int32), iv v203, .unset, iv (2 : Int32), iv (own_b ((v134 &&& (192 : Int32)) = (128 : Int32))), iv v329, iv v336, iv v343, .unset, .unset, .unset, .unset, .unset] [(.int (0 : Int32)), (.int v329), (.int v203), (.int (3 : Int32))])) target
        refine XS.iload Xg258.here hx rfl (hb hby at_373) rfl ?_
        refine XS.iconst Xg258.here hx rfl (hb hby at_375) ?_
        refine XS.icmpYes Xg258.here hx rfl (pc0 := 376) (pc' := 384) rfl (hb hby at_376) rfl (tlt (by decide : (2 : Int32) < (4 : Int32))).1 (by decide) (by decide) ?_
        refine XS.iconst Xg258.here hx rfl (hb hby at_384) ?_
        exact kt
      obtain ⟨_, _, ⟨Tg385, Lg385, kg385, ng385⟩, -, Xg385, ⟨Lcg385, hQg385, lg385, yg385, zg385⟩, stg385⟩ := Jvm.LawKit.callS Xg258 hx (y := (⟨"com/example/psyche/psyche/XmlCharsSequenceLengthPinLaw", "compose", "(IIIII)I"⟩ : MethodName)) hown (mvT hZ (hw _ (List.mem_of_getElem? (i := 9) rfl))) (mvT hZ (hw _ (List.mem_of_getElem? (i := 10) rfl))) (mvT hZ (hw _ (List.mem_of_getElem? (i := 11) rfl))) (mvT hZ (hw _ (List.mem_of_getElem? (i := 12) rfl))) (by decide) (backOf (W := 0) (own_rm3 l Z a0 hw [] (3 : Int32) v203 v329 (0 : Int32) (0 : Int32) hg128 n0 Zz_12) hZ (hw _ (List.mem_of_getElem? (i := 12) rfl)) (hw _ (List.mem_of_getElem? (i := 11) rfl)) (by decide) (by decide)) (g := (mkF m 385 #[iv p0, iv p1, iv p2, iv p3, iv p4, iv p5, iv v4, iv v14, iv v21, iv v26, rv b30, iv v92, iv v134, iv v141, iv v148, iv (3 : Int32), iv v203, .unset, iv (2 : Int32), iv (own_b ((v134 &&& (192 : Int32)) = (128 : Int32))), iv v329, iv v336, iv v343, .unset, .unset, .unset, .unset, .unset] [(.int (0 : Int32)), (.int (0 : Int32)), (.int v329), (.int v203), (.int (3 : Int32))])) rfl (by rw [hml]; rfl) (argsL := [(.int (3 : Int32)), (.int v203), (.int v329), (.int (0 : Int32)), (.int (0 : Int32))]) (rest := []) (lenOf own_pd2 rfl) rfl (by show 2 * 0 + _ ≤ _; exact Nat.le_of_eq rfl) (hb hby at_385) (fun _ _ => ⟨rfl, eg258, (by decide : 1 + 0 ≤ _), (by decide : 8 + 0 ≤ _)⟩)
      dsimp only [Pt.U, Pt.locs, Pt.cells, Pt.slots] at Xg385 lg385 yg385 zg385 stg385 hQg385
      subst lg385 yg385 zg385
      obtain ⟨rfl, Ng385q, eg385⟩ := hQg385
      have Ng385 := Fr.app Ng258 Ng385q
      refine own_st (stg385) ?_
      obtain ⟨v388, hv388⟩ : ∃ z : Int32, z = (if (3 : Int32) = (2 : Int32) then ((v203 <<< ((6 : Int32) &&& 31)) ||| v329) else (if (3 : Int32) = (3 : Int32) then (((v203 <<< ((12 : Int32) &&& 31)) ||| (v329 <<< ((6 : Int32) &&& 31))) ||| (0 : Int32)) else ((((v203 <<< ((18 : Int32) &&& 31)) ||| (v329 <<< ((12 : Int32) &&& 31))) ||| ((0 : Int32) <<< ((6 : Int32) &&& 31))) ||| (0 : Int32)))) := ⟨_, rfl⟩
      refine own_st (B := Tg385.setTop (mkF m 433 #[iv p0, iv p1, iv p2, iv p3, iv p4, iv p5, iv v4, iv v14, iv v21, iv v26, rv b30, iv v92, iv v134, iv v141, iv v148, iv (3 : Int32), iv v203, .unset, iv (2 : Int32), iv (own_b ((v134 &&& (192 : Int32)) = (128 : Int32))), iv v329, iv v336, iv v343, iv v388, .unset, .unset, .unset, .unset] [(.int (63 : Int32)), (.int (63 : Int32)), (.int v329), (.int v203), (.int (3 : Int32))])) (fun target kt => ?_) ?_
      · show Steps p.tables e below (Tg385.setTop (mkF m 388 #[iv p0, iv p1, iv p2, iv p3, iv p4, iv p5, iv v4, iv v14, iv v21, iv v26, rv b30, iv v92, iv v134, iv v141, iv v148, iv (3 : Int32), iv v203, .unset, iv (2 : Int32), iv (own_b ((v134 &&& (192 : Int32)) = (128 : Int32))), iv v329, iv v336, iv v343, .unset, .unset, .unset, .unset, .unset] [(.int (if (3 : Int32) = (2 : Int32) then ((v203 <<< ((6 : Int32) &&& 31)) ||| v329) else (if (3 : Int32) = (3 : Int32) then (((v203 <<< ((12 : Int32) &&& 31)) ||| (v329 <<< ((6 : Int32) &&& 31))) ||| (0 : Int32)) else ((((v203 <<< ((18 : Int32) &&& 31)) ||| (v329 <<< ((12 : Int32) &&& 31))) ||| ((0 : Int32) <<< ((6 : Int32) &&& 31))) ||| (0 : Int32)))))])) target
        refine XS.istore Xg385.here hx rfl (hb hby at_388) rfl (l' := #[iv p0, iv p1, iv p2, iv p3, iv p4, iv p5, iv v4, iv v14, iv v21, iv v26, rv b30, iv v92, iv v134, iv v141, iv v148, iv (3 : Int32), iv v203, .unset, iv (2 : Int32), iv (own_b ((v134 &&& (192 : Int32)) = (128 : Int32))), iv v329, iv v336, iv v343, iv v388, .unset, .unset, .unset, .unset]) (by subst hv388; rfl) ?_
        refine XS.iload Xg385.here hx rfl (hb hby at_390) rfl ?_
        refine XS.iload Xg385.here hx rfl (hb hby at_392) rfl ?_
        refine XS.iload Xg385.here hx rfl (hb hby at_394) rfl ?_
        refine XS.iconst Xg385.here hx rfl (hb hby at_396) ?_
        refine XS.icmpNo Xg385.here hx rfl (hb hby at_397) rfl (flt (by decide : ¬ ((2 : Int32) < (2 : Int32)))).1 ?_
        refine XS.iload Xg385.here hx rfl (hb hby at_400) rfl ?_
        refine XS.goto Xg385.here hx rfl (pc0 := 402) (pc' := 407) rfl (hb hby at_402) (by decide) (by decide) ?_
        show Steps p.tables e below (Tg385.setTop (mkF m 407 #[iv p0, iv p1, iv p2, iv p3, iv p4, iv p5, iv v4, iv v14, iv v21, iv v26, rv b30, iv v92, iv v134, iv v141, iv v148, iv (3 : Int32), iv v203, .unset, iv (2 : Int32), iv (own_b ((v134 &&& (192 : Int32)) = (128 : Int32))), iv v329, iv v336, iv v343, iv v388, .unset, .unset, .unset, .unset] [(.int v329), (.int v203), (.int (3 : Int32))])) target
        refine XS.iload Xg385.here hx rfl (hb hby at_407) rfl ?_
        refine XS.iconst Xg385.here hx rfl (hb hby at_409) ?_
        refine XS.icmpYes Xg385.here hx rfl (pc0 := 410) (pc' := 418) rfl (hb hby at_410) rfl (tlt (by decide : (2 : Int32) < (3 : Int32))).1 (by decide) (by decide) ?_
        refine XS.bipush Xg385.here hx rfl (hb hby at_418) ?_
        refine XS.iload Xg385.here hx rfl (hb hby at_420) rfl ?_
        refine XS.iconst Xg385.here hx rfl (hb hby at_422) ?_
        refine XS.icmpYes Xg385.here hx rfl (pc0 := 423) (pc' := 431) rfl (hb hby at_423) rfl (tlt (by decide : (2 : Int32) < (4 : Int32))).1 (by decide) (by decide) ?_
        refine XS.bipush Xg385.here hx rfl (hb hby at_431) ?_
        exact kt
      obtain ⟨_, _, ⟨Tg433, Lg433, kg433, ng433⟩, -, Xg433, ⟨Lcg433, hQg433, lg433, yg433, zg433⟩, stg433⟩ := Jvm.LawKit.callS Xg385 hx (y := (⟨"com/example/psyche/psyche/XmlCharsSequenceLengthPinLaw", "compose", "(IIIII)I"⟩ : MethodName)) hown (mvT hZ (hw _ (List.mem_of_getElem? (i := 9) rfl))) (mvT hZ (hw _ (List.mem_of_getElem? (i := 10) rfl))) (mvT hZ (hw _ (List.mem_of_getElem? (i := 11) rfl))) (mvT hZ (hw _ (List.mem_of_getElem? (i := 12) rfl))) (by decide) (backOf (W := 0) (own_rm3 l Z a0 hw [] (3 : Int32) v203 v329 (63 : Int32) (63 : Int32) hg128 n0 Zz_12) hZ (hw _ (List.mem_of_getElem? (i := 12) rfl)) (hw _ (List.mem_of_getElem? (i := 11) rfl)) (by decide) (by decide)) (g := (mkF m 433 #[iv p0, iv p1, iv p2, iv p3, iv p4, iv p5, iv v4, iv v14, iv v21, iv v26, rv b30, iv v92, iv v134, iv v141, iv v148, iv (3 : Int32), iv v203, .unset, iv (2 : Int32), iv (own_b ((v134 &&& (192 : Int32)) = (128 : Int32))), iv v329, iv v336, iv v343, iv v388, .unset, .unset, .unset, .unset] [(.int (63 : Int32)), (.int (63 : Int32)), (.int v329), (.int v203), (.int (3 : Int32))])) rfl (by rw [hml]; rfl) (argsL := [(.int (3 : Int32)), (.int v203), (.int v329), (.int (63 : Int32)), (.int (63 : Int32))]) (rest := []) (lenOf own_pd2 rfl) rfl (by show 2 * 0 + _ ≤ _; exact Nat.le_of_eq rfl) (hb hby at_433) (fun _ _ => ⟨rfl, eg385, (by decide : 1 + 0 ≤ _), (by decide : 8 + 0 ≤ _)⟩)
      dsimp only [Pt.U, Pt.locs, Pt.cells, Pt.slots] at Xg433 lg433 yg433 zg433 stg433 hQg433
      subst lg433 yg433 zg433
      obtain ⟨rfl, Ng433q, eg433⟩ := hQg433
      have Ng433 := Fr.app Ng385 Ng433q
      refine own_st (stg433) ?_
      obtain ⟨v436, hv436⟩ : ∃ z : Int32, z = (if (3 : Int32) = (2 : Int32) then ((v203 <<< ((6 : Int32) &&& 31)) ||| v329) else (if (3 : Int32) = (3 : Int32) then (((v203 <<< ((12 : Int32) &&& 31)) ||| (v329 <<< ((6 : Int32) &&& 31))) ||| (63 : Int32)) else ((((v203 <<< ((18 : Int32) &&& 31)) ||| (v329 <<< ((12 : Int32) &&& 31))) ||| ((63 : Int32) <<< ((6 : Int32) &&& 31))) ||| (63 : Int32)))) := ⟨_, rfl⟩
      refine own_st (B := Tg433.setTop (mkF m 487 #[iv p0, iv p1, iv p2, iv p3, iv p4, iv p5, iv v4, iv v14, iv v21, iv v26, rv b30, iv v92, iv v134, iv v141, iv v148, iv (3 : Int32), iv v203, .unset, iv (2 : Int32), iv (own_b ((v134 &&& (192 : Int32)) = (128 : Int32))), iv v329, iv v336, iv v343, iv v388, iv v436, iv (2048 : Int32), iv (65535 : Int32), .unset] [(.int (2048 : Int32)), (.int v436)])) (fun target kt => ?_) ?_
      · show Steps p.tables e below (Tg433.setTop (mkF m 436 #[iv p0, iv p1, iv p2, iv p3, iv p4, iv p5, iv v4, iv v14, iv v21, iv v26, rv b30, iv v92, iv v134, iv v141, iv v148, iv (3 : Int32), iv v203, .unset, iv (2 : Int32), iv (own_b ((v134 &&& (192 : Int32)) = (128 : Int32))), iv v329, iv v336, iv v343, iv v388, .unset, .unset, .unset, .unset] [(.int (if (3 : Int32) = (2 : Int32) then ((v203 <<< ((6 : Int32) &&& 31)) ||| v329) else (if (3 : Int32) = (3 : Int32) then (((v203 <<< ((12 : Int32) &&& 31)) ||| (v329 <<< ((6 : Int32) &&& 31))) ||| (63 : Int32)) else ((((v203 <<< ((18 : Int32) &&& 31)) ||| (v329 <<< ((12 : Int32) &&& 31))) ||| ((63 : Int32) <<< ((6 : Int32) &&& 31))) ||| (63 : Int32)))))])) target
        refine XS.istore Xg433.here hx rfl (hb hby at_436) rfl (l' := #[iv p0, iv p1, iv p2, iv p3, iv p4, iv p5, iv v4, iv v14, iv v21, iv v26, rv b30, iv v92, iv v134, iv v141, iv v148, iv (3 : Int32), iv v203, .unset, iv (2 : Int32), iv (own_b ((v134 &&& (192 : Int32)) = (128 : Int32))), iv v329, iv v336, iv v343, iv v388, iv v436, .unset, .unset, .unset]) (by subst hv436; rfl) ?_
        refine XS.iload Xg433.here hx rfl (hb hby at_438) rfl ?_
        refine XS.iconst Xg433.here hx rfl (hb hby at_440) ?_
        refine XS.icmpYes Xg433.here hx rfl (pc0 := 441) (pc' := 457) rfl (hb hby at_441) rfl (feq (by decide : ¬ ((3 : Int32) = (2 : Int32)))).2 (by decide) (by decide) ?_
        refine XS.iload Xg433.here hx rfl (hb hby at_457) rfl ?_
        refine XS.iconst Xg433.here hx rfl (hb hby at_459) ?_
        refine XS.icmpNo Xg433.here hx rfl (hb hby at_460) rfl (teq (by decide : (3 : Int32) = (3 : Int32))).2 ?_
        refine XS.sipush Xg433.here hx rfl (hb hby at_463) ?_
        show Steps p.tables e below (Tg433.setTop (mkF m 466 #[iv p0, iv p1, iv p2, iv p3, iv p4, iv p5, iv v4, iv v14, iv v21, iv v26, rv b30, iv v92, iv v134, iv v141, iv v148, iv (3 : Int32), iv v203, .unset, iv (2 : Int32), iv (own_b ((v134 &&& (192 : Int32)) = (128 : Int32))), iv v329, iv v336, iv v343, iv v388, iv v436, .unset, .unset, .unset] [(.int (2048 : Int32))])) target
        refine XS.istore Xg433.here hx rfl (hb hby at_466) rfl (l' := #[iv p0, iv p1, iv p2, iv p3, iv p4, iv p5, iv v4, iv v14, iv v21, iv v26, rv b30, iv v92, iv v134, iv v141, iv v148, iv (3 : Int32), iv v203, .unset, iv (2 : Int32), iv (own_b ((v134 &&& (192 : Int32)) = (128 : Int32))), iv v329, iv v336, iv v343, iv v388, iv v436, iv (2048 : Int32), .unset, .unset]) rfl ?_
        refine Xg433.ldcInt hx hown (mvT hZ (hw _ (List.mem_of_getElem? (i := 13) rfl))) (g := (mkF m 468 #[iv p0, iv p1, iv p2, iv p3, iv p4, iv p5, iv v4, iv v14, iv v21, iv v26, rv b30, iv v92, iv v134, iv v141, iv v148, iv (3 : Int32), iv v203, .unset, iv (2 : Int32), iv (own_b ((v134 &&& (192 : Int32)) = (128 : Int32))), iv v329, iv v336, iv v343, iv v388, iv v436, iv (2048 : Int32), .unset, .unset] [])) rfl (hb hby at_468) _ ?_
        refine XS.istore Xg433.here hx rfl (hb hby at_470) rfl (l' := #[iv p0, iv p1, iv p2, iv p3, iv p4, iv p5, iv v4, iv v14, iv v21, iv v26, rv b30, iv v92, iv v134, iv v141, iv v148, iv (3 : Int32), iv v203, .unset, iv (2 : Int32), iv (own_b ((v134 &&& (192 : Int32)) = (128 : Int32))), iv v329, iv v336, iv v343, iv v388, iv v436, iv (2048 : Int32), iv (65535 : Int32), .unset]) rfl ?_
        refine XS.goto Xg433.here hx rfl (pc0 := 472) (pc' := 483) rfl (hb hby at_472) (by decide) (by decide) ?_
        refine XS.iload Xg433.here hx rfl (hb hby at_483) rfl ?_
        refine XS.iload Xg433.here hx rfl (hb hby at_485) rfl ?_
        exact kt
      obtain ⟨_, ⟨j522_s0, rfl, rfl⟩, st_M522⟩ : own_Lead p.tables e below (Tg433.setTop (mkF m 487 #[iv p0, iv p1, iv p2, iv p3, iv p4, iv p5, iv v4, iv v14, iv v21, iv v26, rv b30, iv v92, iv v134, iv v141, iv v148, iv (3 : Int32), iv v203, .unset, iv (2 : Int32), iv (own_b ((v134 &&& (192 : Int32)) = (128 : Int32))), iv v329, iv v336, iv v343, iv v388, iv v436, iv (2048 : Int32), iv (65535 : Int32), .unset] [(.int (2048 : Int32)), (.int v436)])) (fun B => ∃ (j522_s0 : Int32), B = Tg433.setTop (mkF m 522 #[iv p0, iv p1, iv p2, iv p3, iv p4, iv p5, iv v4, iv v14, iv v21, iv v26, rv b30, iv v92, iv v134, iv v141, iv v148, iv (3 : Int32), iv v203, .unset, iv (2 : Int32), iv (own_b ((v134 &&& (192 : Int32)) = (128 : Int32))), iv v329, iv v336, iv v343, iv v388, iv v436, iv (2048 : Int32), iv (65535 : Int32), .unset] [(.int j522_s0)]) ∧ j522_s0 = own_b ((¬ (v436 < (2048 : Int32)) ∧ ((¬ ((65535 : Int32) < v388) ∧ (((v388 < (55296 : Int32)) ∨ ((57343 : Int32) < v436)))))))) := by
        by_cases c487 : v436 < (2048 : Int32)
        · refine own_st (B := Tg433.setTop (mkF m 522 #[iv p0, iv p1, iv p2, iv p3, iv p4, iv p5, iv v4, iv v14, iv v21, iv v26, rv b30, iv v92, iv v134, iv v141, iv v148, iv (3 : Int32), iv v203, .unset, iv (2 : Int32), iv (own_b ((v134 &&& (192 : Int32)) = (128 : Int32))), iv v329, iv v336, iv v343, iv v388, iv v436, iv (2048 : Int32), iv (65535 : Int32), .unset] [(.int (0 : Int32))])) (fun target kt => ?_) ?_
          · show Steps p.tables e below (Tg433.setTop (mkF m 487 #[iv p0, iv p1, iv p2, iv p3, iv p4, iv p5, iv v4, iv v14, iv v21, iv v26, rv b30, iv v92, iv v134, iv v141, iv v148, iv (3 : Int32), iv v203, .unset, iv (2 : Int32), iv (own_b ((v134 &&& (192 : Int32)) = (128 : Int32))), iv v329, iv v336, iv v343, iv v388, iv v436, iv (2048 : Int32), iv (65535 : Int32), .unset] [(.int (2048 : Int32)), (.int v436)])) target
            refine XS.icmpYes Xg433.here hx rfl (pc0 := 487) (pc' := 521) rfl (hb hby at_487) rfl (tlt c487).1 (by decide) (by decide) ?_
            refine XS.iconst Xg433.here hx rfl (hb hby at_521) ?_
            exact kt
          exact ⟨_, ⟨(0 : Int32), rfl, (own_b0 (fun w => w.1 c487)).symm⟩, fun _ k => k⟩
        · refine own_st (B := Tg433.setTop (mkF m 494 #[iv p0, iv p1, iv p2, iv p3, iv p4, iv p5, iv v4, iv v14, iv v21, iv v26, rv b30, iv v92, iv v134, iv v141, iv v148, iv (3 : Int32), iv v203, .unset, iv (2 : Int32), iv (own_b ((v134 &&& (192 : Int32)) = (128 : Int32))), iv v329, iv v336, iv v343, iv v388, iv v436, iv (2048 : Int32), iv (65535 : Int32), .unset] [(.int (65535 : Int32)), (.int v388)])) (fun target kt => ?_) ?_
          · show Steps p.tables e below (Tg433.setTop (mkF m 487 #[iv p0, iv p1, iv p2, iv p3, iv p4, iv p5, iv v4, iv v14, iv v21, iv v26, rv b30, iv v92, iv v134, iv v141, iv v148, iv (3 : Int32), iv v203, .unset, iv (2 : Int32), iv (own_b ((v134 &&& (192 : Int32)) = (128 : Int32))), iv v329, iv v336, iv v343, iv v388, iv v436, iv (2048 : Int32), iv (65535 : Int32), .unset] [(.int (2048 : Int32)), (.int v436)])) target
            refine XS.icmpNo Xg433.here hx rfl (hb hby at_487) rfl (flt c487).1 ?_
            refine XS.iload Xg433.here hx rfl (hb hby at_490) rfl ?_
            refine XS.iload Xg433.here hx rfl (hb hby at_492) rfl ?_
            exact kt
          by_cases c494 : (65535 : Int32) < v388
          · refine own_st (B := Tg433.setTop (mkF m 522 #[iv p0, iv p1, iv p2, iv p3, iv p4, iv p5, iv v4, iv v14, iv v21, iv v26, rv b30, iv v92, iv v134, iv v141, iv v148, iv (3 : Int32), iv v203, .unset, iv (2 : Int32), iv (own_b ((v134 &&& (192 : Int32)) = (128 : Int32))), iv v329, iv v336, iv v343, iv v388, iv v436, iv (2048 : Int32), iv (65535 : Int32), .unset] [(.int (0 : Int32))])) (fun target kt => ?_) ?_
            · show Steps p.tables e below (Tg433.setTop (mkF m 494 #[iv p0, iv p1, iv p2, iv p3, iv p4, iv p5, iv v4, iv v14, iv v21, iv v26, rv b30, iv v92, iv v134, iv v141, iv v148, iv (3 : Int32), iv v203, .unset, iv (2 : Int32), iv (own_b ((v134 &&& (192 : Int32)) = (128 : Int32))), iv v329, iv v336, iv v343, iv v388, iv v436, iv (2048 : Int32), iv (65535 : Int32), .unset] [(.int (65535 : Int32)), (.int v388)])) target
              refine XS.icmpYes Xg433.here hx rfl (pc0 := 494) (pc' := 521) rfl (hb hby at_494) rfl (tlt c494).2.2.1 (by decide) (by decide) ?_
              refine XS.iconst Xg433.here hx rfl (hb hby at_521) ?_
              exact kt
            exact ⟨_, ⟨(0 : Int32), rfl, (own_b0 (fun w => (fun w => w.1 c494) w.2)).symm⟩, fun _ k => k⟩
          · refine own_st (B := Tg433.setTop (mkF m 507 #[iv p0, iv p1, iv p2, iv p3, iv p4, iv p5, iv v4, iv v14, iv v21, iv v26, rv b30, iv v92, iv v134, iv v141, iv v148, iv (3 : Int32), iv v203, .unset, iv (2 : Int32), iv (own_b ((v134 &&& (192 : Int32)) = (128 : Int32))), iv v329, iv v336, iv v343, iv v388, iv v436, iv (2048 : Int32), iv (65535 : Int32), .unset] [(.int (55296 : Int32)), (.int v388)])) (fun target kt => ?_) ?_
            · show Steps p.tables e below (Tg433.setTop (mkF m 494 #[iv p0, iv p1, iv p2, iv p3, iv p4, iv p5, iv v4, iv v14, iv v21, iv v26, rv b30, iv v92, iv v134, iv v141, iv v148, iv (3 : Int32), iv v203, .unset, iv (2 : Int32), iv (own_b ((v134 &&& (192 : Int32)) = (128 : Int32))), iv v329, iv v336, iv v343, iv v388, iv v436, iv (2048 : Int32), iv (65535 : Int32), .unset] [(.int (65535 : Int32)), (.int v388)])) target
              refine XS.icmpNo Xg433.here hx rfl (hb hby at_494) rfl (flt c494).2.2.1 ?_
              refine XS.iload Xg433.here hx rfl (hb hby at_497) rfl ?_
              refine XS.iconst Xg433.here hx rfl (hb hby at_499) ?_
              refine XS.icmpNo Xg433.here hx rfl (hb hby at_500) rfl (teq (by decide : (3 : Int32) = (3 : Int32))).2 ?_
              refine XS.iload Xg433.here hx rfl (hb hby at_503) rfl ?_
              refine Xg433.ldcInt hx hown (mvT hZ (hw _ (List.mem_of_getElem? (i := 14) rfl))) (g := (mkF m 505 #[iv p0, iv p1, iv p2, iv p3, iv p4, iv p5, iv v4, iv v14, iv v21, iv v26, rv b30, iv v92, iv v134, iv v141, iv v148, iv (3 : Int32), iv v203, .unset, iv (2 : Int32), iv (own_b ((v134 &&& (192 : Int32)) = (128 : Int32))), iv v329, iv v336, iv v343, iv v388, iv v436, iv (2048 : Int32), iv (65535 : Int32), .unset] [(.int v388)])) rfl (hb hby at_505) _ ?_
              exact kt
            by_cases c507 : v388 < (55296 : Int32)
            · refine own_st (B := Tg433.setTop (mkF m 522 #[iv p0, iv p1, iv p2, iv p3, iv p4, iv p5, iv v4, iv v14, iv v21, iv v26, rv b30, iv v92, iv v134, iv v141, iv v148, iv (3 : Int32), iv v203, .unset, iv (2 : Int32), iv (own_b ((v134 &&& (192 : Int32)) = (128 : Int32))), iv v329, iv v336, iv v343, iv v388, iv v436, iv (2048 : Int32), iv (65535 : Int32), .unset] [(.int (1 : Int32))])) (fun target kt => ?_) ?_
              · show Steps p.tables e below (Tg433.setTop (mkF m 507 #[iv p0, iv p1, iv p2, iv p3, iv p4, iv p5, iv v4, iv v14, iv v21, iv v26, rv b30, iv v92, iv v134, iv v141, iv v148, iv (3 : Int32), iv v203, .unset, iv (2 : Int32), iv (own_b ((v134 &&& (192 : Int32)) = (128 : Int32))), iv v329, iv v336, iv v343, iv v388, iv v436, iv (2048 : Int32), iv (65535 : Int32), .unset] [(.int (55296 : Int32)), (.int v388)])) target
                refine XS.icmpYes Xg433.here hx rfl (pc0 := 507) (pc' := 517) rfl (hb hby at_507) rfl (tlt c507).1 (by decide) (by decide) ?_
                refine XS.iconst Xg433.here hx rfl (hb hby at_517) ?_
                refine XS.goto Xg433.here hx rfl (pc0 := 518) (pc' := 522) rfl (hb hby at_518) (by decide) (by decide) ?_
                exact kt
              exact ⟨_, ⟨(1 : Int32), rfl, (own_b1 ⟨c487, ⟨c494, (Or.inl c507)⟩⟩).symm⟩, fun _ k => k⟩
            · refine own_st (B := Tg433.setTop (mkF m 514 #[iv p0, iv p1, iv p2, iv p3, iv p4, iv p5, iv v4, iv v14, iv v21, iv v26, rv b30, iv v92, iv v134, iv v141, iv v148, iv (3 : Int32), iv v203, .unset, iv (2 : Int32), iv (own_b ((v134 &&& (192 : Int32)) = (128 : Int32))), iv v329, iv v336, iv v343, iv v388, iv v436, iv (2048 : Int32), iv (65535 : Int32), .unset] [(.int (57343 : Int32)), (.int v436)])) (fun target kt => ?_) ?_
              · show Steps p.tables e below (Tg433.setTop (mkF m 507 #[iv p0, iv p1, iv p2, iv p3, iv p4, iv p5, iv v4, iv v14, iv v21, iv v26, rv b30, iv v92, iv v134, iv v141, iv v148, iv (3 : Int32), iv v203, .unset, iv (2 : Int32), iv (own_b ((v134 &&& (192 : Int32)) = (128 : Int32))), iv v329, iv v336, iv v343, iv v388, iv v436, iv (2048 : Int32), iv (65535 : Int32), .unset] [(.int (55296 : Int32)), (.int v388)])) target
                refine XS.icmpNo Xg433.here hx rfl (hb hby at_507) rfl (flt c507).1 ?_
                refine XS.iload Xg433.here hx rfl (hb hby at_510) rfl ?_
                refine Xg433.ldcInt hx hown (mvT hZ (hw _ (List.mem_of_getElem? (i := 17) rfl))) (g := (mkF m 512 #[iv p0, iv p1, iv p2, iv p3, iv p4, iv p5, iv v4, iv v14, iv v21, iv v26, rv b30, iv v92, iv v134, iv v141, iv v148, iv (3 : Int32), iv v203, .unset, iv (2 : Int32), iv (own_b ((v134 &&& (192 : Int32)) = (128 : Int32))), iv v329, iv v336, iv v343, iv v388, iv v436, iv (2048 : Int32), iv (65535 : Int32), .unset] [(.int v436)])) rfl (hb hby at_512) _ ?_
                exact kt
              by_cases c514 : (57343 : Int32) < v436
              · refine own_st (B := Tg433.setTop (mkF m 522 #[iv p0, iv p1, iv p2, iv p3, iv p4, iv p5, iv v4, iv v14, iv v21, iv v26, rv b30, iv v92, iv v134, iv v141, iv v148, iv (3 : Int32), iv v203, .unset, iv (2 : Int32), iv (own_b ((v134 &&& (192 : Int32)) = (128 : Int32))), iv v329, iv v336, iv v343, iv v388, iv v436, iv (2048 : Int32), iv (65535 : Int32), .unset] [(.int (1 : Int32))])) (fun target kt => ?_) ?_
                · show Steps p.tables e below (Tg433.setTop (mkF m 514 #[iv p0, iv p1, iv p2, iv p3, iv p4, iv p5, iv v4, iv v14, iv v21, iv v26, rv b30, iv v92, iv v134, iv v141, iv v148, iv (3 : Int32), iv v203, .unset, iv (2 : Int32), iv (own_b ((v134 &&& (192 : Int32)) = (128 : Int32))), iv v329, iv v336, iv v343, iv v388, iv v436, iv (2048 : Int32), iv (65535 : Int32), .unset] [(.int (57343 : Int32)), (.int v436)])) target
                  refine XS.icmpNo Xg433.here hx rfl (hb hby at_514) rfl (tlt c514).2.2.2 ?_
                  refine XS.iconst Xg433.here hx rfl (hb hby at_517) ?_
                  refine XS.goto Xg433.here hx rfl (pc0 := 518) (pc' := 522) rfl (hb hby at_518) (by decide) (by decide) ?_
                  exact kt
                exact ⟨_, ⟨(1 : Int32), rfl, (own_b1 ⟨c487, ⟨c494, (Or.inr c514)⟩⟩).symm⟩, fun _ k => k⟩
              · refine own_st (B := Tg433.setTop (mkF m 522 #[iv p0, iv p1, iv p2, iv p3, iv p4, iv p5, iv v4, iv v14, iv v21, iv v26, rv b30, iv v92, iv v134, iv v141, iv v148, iv (3 : Int32), iv v203, .unset, iv (2 : Int32), iv (own_b ((v134 &&& (192 : Int32)) = (128 : Int32))), iv v329, iv v336, iv v343, iv v388, iv v436, iv (2048 : Int32), iv (65535 : Int32), .unset] [(.int (0 : Int32))])) (fun target kt => ?_) ?_
                · show Steps p.tables e below (Tg433.setTop (mkF m 514 #[iv p0, iv p1, iv p2, iv p3, iv p4, iv p5, iv v4, iv v14, iv v21, iv v26, rv b30, iv v92, iv v134, iv v141, iv v148, iv (3 : Int32), iv v203, .unset, iv (2 : Int32), iv (own_b ((v134 &&& (192 : Int32)) = (128 : Int32))), iv v329, iv v336, iv v343, iv v388, iv v436, iv (2048 : Int32), iv (65535 : Int32), .unset] [(.int (57343 : Int32)), (.int v436)])) target
                  refine XS.icmpYes Xg433.here hx rfl (pc0 := 514) (pc' := 521) rfl (hb hby at_514) rfl (flt c514).2.2.2 (by decide) (by decide) ?_
                  refine XS.iconst Xg433.here hx rfl (hb hby at_521) ?_
                  exact kt
                exact ⟨_, ⟨(0 : Int32), rfl, (own_b0 (fun w => (fun w => (fun w => w.elim c507 c514) w.2) w.2)).symm⟩, fun _ k => k⟩
      refine own_st st_M522 ?_
      refine own_st (B := Tg433.setTop (mkF m 526 #[iv p0, iv p1, iv p2, iv p3, iv p4, iv p5, iv v4, iv v14, iv v21, iv v26, rv b30, iv v92, iv v134, iv v141, iv v148, iv (3 : Int32), iv v203, .unset, iv (2 : Int32), iv (own_b ((v134 &&& (192 : Int32)) = (128 : Int32))), iv v329, iv v336, iv v343, iv v388, iv v436, iv (2048 : Int32), iv (65535 : Int32), iv (own_b (¬ (v436 < (2048 : Int32)) ∧ ((¬ ((65535 : Int32) < v388) ∧ (((v388 < (55296 : Int32)) ∨ ((57343 : Int32) < v436)))))))] [(.int (own_b ((v134 &&& (192 : Int32)) = (128 : Int32))))])) (fun target kt => ?_) ?_
      · show Steps p.tables e below (Tg433.setTop (mkF m 522 #[iv p0, iv p1, iv p2, iv p3, iv p4, iv p5, iv v4, iv v14, iv v21, iv v26, rv b30, iv v92, iv v134, iv v141, iv v148, iv (3 : Int32), iv v203, .unset, iv (2 : Int32), iv (own_b ((v134 &&& (192 : Int32)) = (128 : Int32))), iv v329, iv v336, iv v343, iv v388, iv v436, iv (2048 : Int32), iv (65535 : Int32), .unset] [(.int (own_b (¬ (v436 < (2048 : Int32)) ∧ ((¬ ((65535 : Int32) < v388) ∧ (((v388 < (55296 : Int32)) ∨ ((57343 : Int32) < v436))))))))])) target
        refine XS.istore Xg433.here hx rfl (hb hby at_522) rfl (l' := #[iv p0, iv p1, iv p2, iv p3, iv p4, iv p5, iv v4, iv v14, iv v21, iv v26, rv b30, iv v92, iv v134, iv v141, iv v148, iv (3 : Int32), iv v203, .unset, iv (2 : Int32), iv (own_b ((v134 &&& (192 : Int32)) = (128 : Int32))), iv v329, iv v336, iv v343, iv v388, iv v436, iv (2048 : Int32), iv (65535 : Int32), iv (own_b (¬ (v436 < (2048 : Int32)) ∧ ((¬ ((65535 : Int32) < v388) ∧ (((v388 < (55296 : Int32)) ∨ ((57343 : Int32) < v436)))))))]) rfl ?_
        refine XS.iload Xg433.here hx rfl (hb hby at_524) rfl ?_
        exact kt
      obtain ⟨_, ⟨j584_l17, rfl, hj584_l17⟩, st_M584⟩ : own_Lead p.tables e below (Tg433.setTop (mkF m 526 #[iv p0, iv p1, iv p2, iv p3, iv p4, iv p5, iv v4, iv v14, iv v21, iv v26, rv b30, iv v92, iv v134, iv v141, iv v148, iv (3 : Int32), iv v203, .unset, iv (2 : Int32), iv (own_b ((v134 &&& (192 : Int32)) = (128 : Int32))), iv v329, iv v336, iv v343, iv v388, iv v436, iv (2048 : Int32), iv (65535 : Int32), iv (own_b (¬ (v436 < (2048 : Int32)) ∧ ((¬ ((65535 : Int32) < v388) ∧ (((v388 < (55296 : Int32)) ∨ ((57343 : Int32) < v436)))))))] [(.int (own_b ((v134 &&& (192 : Int32)) = (128 : Int32))))])) (fun B => ∃ (j584_l17 : Int32), B = Tg433.setTop (mkF m 584 #[iv p0, iv p1, iv p2, iv p3, iv p4, iv p5, iv v4, iv v14, iv v21, iv v26, rv b30, iv v92, iv v134, iv v141, iv v148, iv (3 : Int32), iv v203, iv j584_l17, iv (2 : Int32), iv (own_b ((v134 &&& (192 : Int32)) = (128 : Int32))), iv v329, iv v336, iv v343, iv v388, iv v436, iv (2048 : Int32), iv (65535 : Int32), iv (own_b (¬ (v436 < (2048 : Int32)) ∧ ((¬ ((65535 : Int32) < v388) ∧ (((v388 < (55296 : Int32)) ∨ ((57343 : Int32) < v436)))))))] []) ∧ j584_l17 = (if (v134 &&& (192 : Int32)) = (128 : Int32) then (if ¬ (v436 < (2048 : Int32)) ∧ ((¬ ((65535 : Int32) < v388) ∧ (((v388 < (55296 : Int32)) ∨ ((57343 : Int32) < v436))))) then (0 : Int32) else (-1 : Int32)) else (-1 : Int32))) := by
        by_cases c526 : (v134 &&& (192 : Int32)) = (128 : Int32)
        · refine own_st (B := Tg433.setTop (mkF m 531 #[iv p0, iv p1, iv p2, iv p3, iv p4, iv p5, iv v4, iv v14, iv v21, iv v26, rv b30, iv v92, iv v134, iv v141, iv v148, iv (3 : Int32), iv v203, .unset, iv (2 : Int32), iv (own_b ((v134 &&& (192 : Int32)) = (128 : Int32))), iv v329, iv v336, iv v343, iv v388, iv v436, iv (2048 : Int32), iv (65535 : Int32), iv (own_b (¬ (v436 < (2048 : Int32)) ∧ ((¬ ((65535 : Int32) < v388) ∧ (((v388 < (55296 : Int32)) ∨ ((57343 : Int32) < v436)))))))] [(.int (own_b (¬ (v436 < (2048 : Int32)) ∧ ((¬ ((65535 : Int32) < v388) ∧ (((v388 < (55296 : Int32)) ∨ ((57343 : Int32) < v436))))))))])) (fun target kt => ?_) ?_
          · show Steps p.tables e below (Tg433.setTop (mkF m 526 #[iv p0, iv p1, iv p2, iv p3, iv p4, iv p5, iv v4, iv v14, iv v21, iv v26, rv b30, iv v92, iv v134, iv v141, iv v148, iv (3 : Int32), iv v203, .unset, iv (2 : Int32), iv (own_b ((v134 &&& (192 : Int32)) = (128 : Int32))), iv v329, iv v336, iv v343, iv v388, iv v436, iv (2048 : Int32), iv (65535 : Int32), iv (own_b (¬ (v436 < (2048 : Int32)) ∧ ((¬ ((65535 : Int32) < v388) ∧ (((v388 < (55296 : Int32)) ∨ ((57343 : Int32) < v436)))))))] [(.int (own_b ((v134 &&& (192 : Int32)) = (128 : Int32))))])) target
            refine XS.ifNo Xg433.here hx rfl (hb hby at_526) rfl ((if0 _ _).trans (feq (own_bn0 rfl c526)).1) ?_
            refine XS.iload Xg433.here hx rfl (hb hby at_529) rfl ?_
            exact kt
          by_cases c531 : ¬ (v436 < (2048 : Int32)) ∧ ((¬ ((65535 : Int32) < v388) ∧ (((v388 < (55296 : Int32)) ∨ ((57343 : Int32) < v436)))))
          · refine own_st (B := Tg433.setTop (mkF m 584 #[iv p0, iv p1, iv p2, iv p3, iv p4, iv p5, iv v4, iv v14, iv v21, iv v26, rv b30, iv v92, iv v134, iv v141, iv v148, iv (3 : Int32), iv v203, iv (0 : Int32), iv (2 : Int32), iv (own_b ((v134 &&& (192 : Int32)) = (128 : Int32))), iv v329, iv v336, iv v343, iv v388, iv v436, iv (2048 : Int32), iv (65535 : Int32), iv (own_b (¬ (v436 < (2048 : Int32)) ∧ ((¬ ((65535 : Int32) < v388) ∧ (((v388 < (55296 : Int32)) ∨ ((57343 : Int32) < v436)))))))] [])) (fun target kt => ?_) ?_
            · show Steps p.tables e below (Tg433.setTop (mkF m 531 #[iv p0, iv p1, iv p2, iv p3, iv p4, iv p5, iv v4, iv v14, iv v21, iv v26, rv b30, iv v92, iv v134, iv v141, iv v148, iv (3 : Int32), iv v203, .unset, iv (2 : Int32), iv (own_b ((v134 &&& (192 : Int32)) = (128 : Int32))), iv v329, iv v336, iv v343, iv v388, iv v436, iv (2048 : Int32), iv (65535 : Int32), iv (own_b (¬ (v436 < (2048 : Int32)) ∧ ((¬ ((65535 : Int32) < v388) ∧ (((v388 < (55296 : Int32)) ∨ ((57343 : Int32) < v436)))))))] [(.int (own_b (¬ (v436 < (2048 : Int32)) ∧ ((¬ ((65535 : Int32) < v388) ∧ (((v388 < (55296 : Int32)) ∨ ((57343 : Int32) < v436))))))))])) target
              refine XS.ifYes Xg433.here hx rfl (pc0 := 531) (pc' := 540) rfl (hb hby at_531) rfl ((if0 _ _).trans (feq (own_bn0 rfl c531)).2) (by decide) (by decide) ?_
              refine XS.iload Xg433.here hx rfl (hb hby at_540) rfl ?_
              refine XS.iload Xg433.here hx rfl (hb hby at_542) rfl ?_
              refine XS.icmpNo Xg433.here hx rfl (hb hby at_544) rfl (tlt (by decide : (2 : Int32) < (3 : Int32))).2.1 ?_
              refine XS.iconst Xg433.here hx rfl (hb hby at_547) ?_
              refine XS.istore Xg433.here hx rfl (hb hby at_548) rfl (l' := #[iv p0, iv p1, iv p2, iv p3, iv p4, iv p5, iv v4, iv v14, iv v21, iv v26, rv b30, iv v92, iv v134, iv v141, iv v148, iv (3 : Int32), iv v203, iv (0 : Int32), iv (2 : Int32), iv (own_b ((v134 &&& (192 : Int32)) = (128 : Int32))), iv v329, iv v336, iv v343, iv v388, iv v436, iv (2048 : Int32), iv (65535 : Int32), iv (own_b (¬ (v436 < (2048 : Int32)) ∧ ((¬ ((65535 : Int32) < v388) ∧ (((v388 < (55296 : Int32)) ∨ ((57343 : Int32) < v436)))))))]) rfl ?_
              refine XS.goto Xg433.here hx rfl (pc0 := 550) (pc' := 584) rfl (hb hby at_550) (by decide) (by decide) ?_
              exact kt
            exact ⟨_, ⟨(0 : Int32), rfl, (Eq.trans (if_pos c531).symm (if_pos c526).symm)⟩, fun _ k => k⟩
          · refine own_st (B := Tg433.setTop (mkF m 584 #[iv p0, iv p1, iv p2, iv p3, iv p4, iv p5, iv v4, iv v14, iv v21, iv v26, rv b30, iv v92, iv v134, iv v141, iv v148, iv (3 : Int32), iv v203, iv (-1 : Int32), iv (2 : Int32), iv (own_b ((v134 &&& (192 : Int32)) = (128 : Int32))), iv v329, iv v336, iv v343, iv v388, iv v436, iv (2048 : Int32), iv (65535 : Int32), iv (own_b (¬ (v436 < (2048 : Int32)) ∧ ((¬ ((65535 : Int32) < v388) ∧ (((v388 < (55296 : Int32)) ∨ ((57343 : Int32) < v436)))))))] [])) (fun target kt => ?_) ?_
            · show Steps p.tables e below (Tg433.setTop (mkF m 531 #[iv p0, iv p1, iv p2, iv p3, iv p4, iv p5, iv v4, iv v14, iv v21, iv v26, rv b30, iv v92, iv v134, iv v141, iv v148, iv (3 : Int32), iv v203, .unset, iv (2 : Int32), iv (own_b ((v134 &&& (192 : Int32)) = (128 : Int32))), iv v329, iv v336, iv v343, iv v388, iv v436, iv (2048 : Int32), iv (65535 : Int32), iv (own_b (¬ (v436 < (2048 : Int32)) ∧ ((¬ ((65535 : Int32) < v388) ∧ (((v388 < (55296 : Int32)) ∨ ((57343 : Int32) < v436)))))))] [(.int (own_b (¬ (v436 < (2048 : Int32)) ∧ ((¬ ((65535 : Int32) < v388) ∧ (((v388 < (55296 : Int32)) ∨ ((57343 : Int32) < v436))))))))])) target
              refine XS.ifNo Xg433.here hx rfl (hb hby at_531) rfl ((if0 _ _).trans (teq (own_b00 rfl c531)).2) ?_
              refine XS.iconst Xg433.here hx rfl (hb hby at_534) ?_
              refine XS.istore Xg433.here hx rfl (hb hby at_535) rfl (l' := #[iv p0, iv p1, iv p2, iv p3, iv p4, iv p5, iv v4, iv v14, iv v21, iv v26, rv b30, iv v92, iv v134, iv v141, iv v148, iv (3 : Int32), iv v203, iv (-1 : Int32), iv (2 : Int32), iv (own_b ((v134 &&& (192 : Int32)) = (128 : Int32))), iv v329, iv v336, iv v343, iv v388, iv v436, iv (2048 : Int32), iv (65535 : Int32), iv (own_b (¬ (v436 < (2048 : Int32)) ∧ ((¬ ((65535 : Int32) < v388) ∧ (((v388 < (55296 : Int32)) ∨ ((57343 : Int32) < v436)))))))]) rfl ?_
              refine XS.goto Xg433.here hx rfl (pc0 := 537) (pc' := 584) rfl (hb hby at_537) (by decide) (by decide) ?_
              exact kt
            exact ⟨_, ⟨(-1 : Int32), rfl, (Eq.trans (if_neg c531).symm (if_pos c526).symm)⟩, fun _ k => k⟩
        · refine own_st (B := Tg433.setTop (mkF m 584 #[iv p0, iv p1, iv p2, iv p3, iv p4, iv p5, iv v4, iv v14, iv v21, iv v26, rv b30, iv v92, iv v134, iv v141, iv v148, iv (3 : Int32), iv v203, iv (-1 : Int32), iv (2 : Int32), iv (own_b ((v134 &&& (192 : Int32)) = (128 : Int32))), iv v329, iv v336, iv v343, iv v388, iv v436, iv (2048 : Int32), iv (65535 : Int32), iv (own_b (¬ (v436 < (2048 : Int32)) ∧ ((¬ ((65535 : Int32) < v388) ∧ (((v388 < (55296 : Int32)) ∨ ((57343 : Int32) < v436)))))))] [])) (fun target kt => ?_) ?_
          · show Steps p.tables e below (Tg433.setTop (mkF m 526 #[iv p0, iv p1, iv p2, iv p3, iv p4, iv p5, iv v4, iv v14, iv v21, iv v26, rv b30, iv v92, iv v134, iv v141, iv v148, iv (3 : Int32), iv v203, .unset, iv (2 : Int32), iv (own_b ((v134 &&& (192 : Int32)) = (128 : Int32))), iv v329, iv v336, iv v343, iv v388, iv v436, iv (2048 : Int32), iv (65535 : Int32), iv (own_b (¬ (v436 < (2048 : Int32)) ∧ ((¬ ((65535 : Int32) < v388) ∧ (((v388 < (55296 : Int32)) ∨ ((57343 : Int32) < v436)))))))] [(.int (own_b ((v134 &&& (192 : Int32)) = (128 : Int32))))])) target
            refine XS.ifYes Xg433.here hx rfl (pc0 := 526) (pc' := 534) rfl (hb hby at_526) rfl ((if0 _ _).trans (teq (own_b00 rfl c526)).1) (by decide) (by decide) ?_
            refine XS.iconst Xg433.here hx rfl (hb hby at_534) ?_
            refine XS.istore Xg433.here hx rfl (hb hby at_535) rfl (l' := #[iv p0, iv p1, iv p2, iv p3, iv p4, iv p5, iv v4, iv v14, iv v21, iv v26, rv b30, iv v92, iv v134, iv v141, iv v148, iv (3 : Int32), iv v203, iv (-1 : Int32), iv (2 : Int32), iv (own_b ((v134 &&& (192 : Int32)) = (128 : Int32))), iv v329, iv v336, iv v343, iv v388, iv v436, iv (2048 : Int32), iv (65535 : Int32), iv (own_b (¬ (v436 < (2048 : Int32)) ∧ ((¬ ((65535 : Int32) < v388) ∧ (((v388 < (55296 : Int32)) ∨ ((57343 : Int32) < v436)))))))]) rfl ?_
            refine XS.goto Xg433.here hx rfl (pc0 := 537) (pc' := 584) rfl (hb hby at_537) (by decide) (by decide) ?_
            exact kt
          exact ⟨_, ⟨(-1 : Int32), rfl, (if_neg c526).symm⟩, fun _ k => k⟩
      refine own_st st_M584 ?_
      refine own_st (B := Tg433.setTop (mkF m 590 #[iv p0, iv p1, iv p2, iv p3, iv p4, iv p5, iv v4, iv v14, iv v21, iv v26, rv b30, iv v92, iv v134, iv v141, iv v148, iv (3 : Int32), iv v203, iv j584_l17, iv (2 : Int32), iv (own_b ((v134 &&& (192 : Int32)) = (128 : Int32))), iv v329, iv v336, iv v343, iv v388, iv v436, iv (2048 : Int32), iv (65535 : Int32), iv (own_b (¬ (v436 < (2048 : Int32)) ∧ ((¬ ((65535 : Int32) < v388) ∧ (((v388 < (55296 : Int32)) ∨ ((57343 : Int32) < v436)))))))] [(.int v21), (.int v4), (.ref b30)])) (fun target kt => ?_) ?_
      · show Steps p.tables e below (Tg433.setTop (mkF m 584 #[iv p0, iv p1, iv p2, iv p3, iv p4, iv p5, iv v4, iv v14, iv v21, iv v26, rv b30, iv v92, iv v134, iv v141, iv v148, iv (3 : Int32), iv v203, iv j584_l17, iv (2 : Int32), iv (own_b ((v134 &&& (192 : Int32)) = (128 : Int32))), iv v329, iv v336, iv v343, iv v388, iv v436, iv (2048 : Int32), iv (65535 : Int32), iv (own_b (¬ (v436 < (2048 : Int32)) ∧ ((¬ ((65535 : Int32) < v388) ∧ (((v388 < (55296 : Int32)) ∨ ((57343 : Int32) < v436)))))))] [])) target
        refine XS.aload Xg433.here hx rfl (hb hby at_584) rfl rfl ?_
        refine XS.iload Xg433.here hx rfl (hb hby at_586) rfl ?_
        refine XS.iload Xg433.here hx rfl (hb hby at_588) rfl ?_
        exact kt
      obtain ⟨_, _, ⟨Tg590, Lg590, kg590, ng590⟩, -, Xg590, ⟨Lcg590, hQg590, lg590, yg590, zg590⟩, stg590⟩ := Jvm.LawKit.callS Xg433 hx (y := (⟨"com/example/psyche/psyche/XmlChars", "sequenceLength", "([BII)I"⟩ : MethodName)) hown (mvT hZ (hw _ (List.mem_of_getElem? (i := 1) rfl))) (mvT hZ (hw _ (List.mem_of_getElem? (i := 2) rfl))) (mvT hZ (hw _ (List.mem_of_getElem? (i := 3) rfl))) (mvT hZ (hw _ (List.mem_of_getElem? (i := 4) rfl))) (by decide) (backOf (W := 0) (own_rm1_C l Z a0 hw [] b30 v4 v21 a128 hg128 n0 Zz_12 F_24 (show v4 = (0 : Int32) ∨ v4 = (1 : Int32) ∨ v4 = (2 : Int32) ∨ v4 = (3 : Int32) from hat) (show ¬ ((a128 (v4).toNatClampNeg) &&& (255 : Int32)) < (194 : Int32) from (by rw [hLD, Int32.lt_iff_toInt_lt, show (194 : Int32).toInt = 194 by decide]; omega)) (show ¬ ((a128 (v4).toNatClampNeg) &&& (255 : Int32)) < (224 : Int32) from (by rw [hLD, Int32.lt_iff_toInt_lt, show (224 : Int32).toInt = 224 by decide]; omega)) (show ((a128 (v4).toNatClampNeg) &&& (255 : Int32)) < (240 : Int32) from (by rw [hLD, Int32.lt_iff_toInt_lt, show (240 : Int32).toInt = 240 by decide]; omega))) hZ (hw _ (List.mem_of_getElem? (i := 4) rfl)) (hw _ (List.mem_of_getElem? (i := 3) rfl)) (by decide) (by decide)) (g := (mkF m 590 #[iv p0, iv p1, iv p2, iv p3, iv p4, iv p5, iv v4, iv v14, iv v21, iv v26, rv b30, iv v92, iv v134, iv v141, iv v148, iv (3 : Int32), iv v203, iv j584_l17, iv (2 : Int32), iv (own_b ((v134 &&& (192 : Int32)) = (128 : Int32))), iv v329, iv v336, iv v343, iv v388, iv v436, iv (2048 : Int32), iv (65535 : Int32), iv (own_b (¬ (v436 < (2048 : Int32)) ∧ ((¬ ((65535 : Int32) < v388) ∧ (((v388 < (55296 : Int32)) ∨ ((57343 : Int32) < v436)))))))] [(.int v21), (.int v4), (.ref b30)])) rfl (by rw [hml]; rfl) (argsL := [(.ref b30), (.int v4), (.int v21)]) (rest := []) (lenOf own_pd0 rfl) rfl (by show 2 * 0 + _ ≤ _; exact Nat.le_of_eq rfl) (hb hby at_590) (fun _ _ => ⟨rfl, eg433, (by decide : 1 + 0 ≤ _), (by decide : 8 + 0 ≤ _)⟩)
      dsimp only [Pt.U, Pt.locs, Pt.cells, Pt.slots] at Xg590 lg590 yg590 zg590 stg590 hQg590
      subst lg590 yg590 zg590
      obtain ⟨rfl, Ng590q, eg590⟩ := hQg590
      have Ng590 := Fr.app Ng433 Ng590q
      refine own_st (stg590) ?_
      refine own_st (B := Tg590.setTop (mkF m 595 #[iv p0, iv p1, iv p2, iv p3, iv p4, iv p5, iv v4, iv v14, iv v21, iv v26, rv b30, iv v92, iv v134, iv v141, iv v148, iv (3 : Int32), iv v203, iv j584_l17, iv (2 : Int32), iv (own_b ((v134 &&& (192 : Int32)) = (128 : Int32))), iv v329, iv v336, iv v343, iv v388, iv v436, iv (2048 : Int32), iv (65535 : Int32), iv (own_b (¬ (v436 < (2048 : Int32)) ∧ ((¬ ((65535 : Int32) < v388) ∧ (((v388 < (55296 : Int32)) ∨ ((57343 : Int32) < v436)))))))] [(.int j584_l17), (.int (if (v4 + (1 : Int32)) < v21 then (if ((a128 (v4 + (1 : Int32)).toNatClampNeg) &&& (255 : Int32)) < (if ((a128 (v4).toNatClampNeg) &&& (255 : Int32)) = (224 : Int32) then (160 : Int32) else (128 : Int32)) then (-1 : Int32) else (if (if ((a128 (v4).toNatClampNeg) &&& (255 : Int32)) = (224 : Int32) then (191 : Int32) else (if ((a128 (v4).toNatClampNeg) &&& (255 : Int32)) = (237 : Int32) then (159 : Int32) else (191 : Int32))) < ((a128 (v4 + (1 : Int32)).toNatClampNeg) &&& (255 : Int32)) then (-1 : Int32) else (if (v4 + (2 : Int32)) < v21 then (if ((a128 (v4 + (2 : Int32)).toNatClampNeg) &&& (255 : Int32)) < (128 : Int32) then (-1 : Int32) else (if (191 : Int32) < ((a128 (v4 + (2 : Int32)).toNatClampNeg) &&& (255 : Int32)) then (-1 : Int32) else (if ((a128 (v4).toNatClampNeg) &&& (255 : Int32)) = (239 : Int32) then (if (a128 (v4 + (1 : Int32)).toNatClampNeg) = (-65 : Int32) then (if ((a128 (v4 + (2 : Int32)).toNatClampNeg) &&& (254 : Int32)) = (190 : Int32) then (-2 : Int32) else (3 : Int32)) else (3 : Int32)) else (3 : Int32)))) else (0 : Int32)))) else (0 : Int32)))])) (fun target kt => ?_) ?_
      · show Steps p.tables e below (Tg590.setTop (mkF m 593 #[iv p0, iv p1, iv p2, iv p3, iv p4, iv p5, iv v4, iv v14, iv v21, iv v26, rv b30, iv v92, iv v134, iv v141, iv v148, iv (3 : Int32), iv v203, iv j584_l17, iv (2 : Int32), iv (own_b ((v134 &&& (192 : Int32)) = (128 : Int32))), iv v329, iv v336, iv v343, iv v388, iv v436, iv (2048 : Int32), iv (65535 : Int32), iv (own_b (¬ (v436 < (2048 : Int32)) ∧ ((¬ ((65535 : Int32) < v388) ∧ (((v388 < (55296 : Int32)) ∨ ((57343 : Int32) < v436)))))))] [(.int (if (v4 + (1 : Int32)) < v21 then (if ((a128 (v4 + (1 : Int32)).toNatClampNeg) &&& (255 : Int32)) < (if ((a128 (v4).toNatClampNeg) &&& (255 : Int32)) = (224 : Int32) then (160 : Int32) else (128 : Int32)) then (-1 : Int32) else (if (if ((a128 (v4).toNatClampNeg) &&& (255 : Int32)) = (224 : Int32) then (191 : Int32) else (if ((a128 (v4).toNatClampNeg) &&& (255 : Int32)) = (237 : Int32) then (159 : Int32) else (191 : Int32))) < ((a128 (v4 + (1 : Int32)).toNatClampNeg) &&& (255 : Int32)) then (-1 : Int32) else (if (v4 + (2 : Int32)) < v21 then (if ((a128 (v4 + (2 : Int32)).toNatClampNeg) &&& (255 : Int32)) < (128 : Int32) then (-1 : Int32) else (if (191 : Int32) < ((a128 (v4 + (2 : Int32)).toNatClampNeg) &&& (255 : Int32)) then (-1 : Int32) else (if ((a128 (v4).toNatClampNeg) &&& (255 : Int32)) = (239 : Int32) then (if (a128 (v4 + (1 : Int32)).toNatClampNeg) = (-65 : Int32) then (if ((a128 (v4 + (2 : Int32)).toNatClampNeg) &&& (254 : Int32)) = (190 : Int32) then (-2 : Int32) else (3 : Int32)) else (3 : Int32)) else (3 : Int32)))) else (0 : Int32)))) else (0 : Int32)))])) target
        refine XS.iload Xg590.here hx rfl (hb hby at_593) rfl ?_
        exact kt
      have c595 : (if (v4 + (1 : Int32)) < v21 then (if ((a128 (v4 + (1 : Int32)).toNatClampNeg) &&& (255 : Int32)) < (if ((a128 (v4).toNatClampNeg) &&& (255 : Int32)) = (224 : Int32) then (160 : Int32) else (128 : Int32)) then (-1 : Int32) else (if (if ((a128 (v4).toNatClampNeg) &&& (255 : Int32)) = (224 : Int32) then (191 : Int32) else (if ((a128 (v4).toNatClampNeg) &&& (255 : Int32)) = (237 : Int32) then (159 : Int32) else (191 : Int32))) < ((a128 (v4 + (1 : Int32)).toNatClampNeg) &&& (255 : Int32)) then (-1 : Int32) else (if (v4 + (2 : Int32)) < v21 then (if ((a128 (v4 + (2 : Int32)).toNatClampNeg) &&& (255 : Int32)) < (128 : Int32) then (-1 : Int32) else (if (191 : Int32) < ((a128 (v4 + (2 : Int32)).toNatClampNeg) &&& (255 : Int32)) then (-1 : Int32) else (if ((a128 (v4).toNatClampNeg) &&& (255 : Int32)) = (239 : Int32) then (if (a128 (v4 + (1 : Int32)).toNatClampNeg) = (-65 : Int32) then (if ((a128 (v4 + (2 : Int32)).toNatClampNeg) &&& (254 : Int32)) = (190 : Int32) then (-2 : Int32) else (3 : Int32)) else (3 : Int32)) else (3 : Int32)))) else (0 : Int32)))) else (0 : Int32)) = j584_l17 := by
        have hc1 : 0 ≤ v134.toInt ∧ v134.toInt < 256 := by rw [hv134, own_m255]; omega
        have hc2 : 0 ≤ v141.toInt ∧ v141.toInt < 256 := by rw [hv141, own_m255]; omega
        have hc3 : 0 ≤ v148.toInt ∧ v148.toInt < 256 := by rw [hv148, own_m255]; omega
        have hbits : v203.toInt = v92.toInt % 16 := by rw [hv203]; exact own_m15 v92
        have hq1 : v329.toInt = v134.toInt % 64 := by rw [hv329]; exact own_m63 v134
        have hq2 : v336.toInt = v141.toInt % 64 := by rw [hv336]; exact own_m63 v141
        have hq3 : v343.toInt = v148.toInt % 64 := by rw [hv343]; exact own_m63 v148
        have hz0 : (0 : Int32).toInt = 0 := by decide
        have hz63 : (63 : Int32).toInt = 63 := by decide
        have hmn : v388.toInt = (v92.toInt % 16) * 4096 + (v134.toInt % 64) * 64 + (0) * 1 := by
          rw [hv388, if_neg (by decide), if_pos rfl, own_p3 _ _ _ (by omega) (by omega) (by omega) (by omega) (by omega) (by omega)]
          omega
        have hmx : v436.toInt = (v92.toInt % 16) * 4096 + (v134.toInt % 64) * 64 + (63) * 1 := by
          rw [hv436, if_neg (by decide), if_pos rfl, own_p3 _ _ _ (by omega) (by omega) (by omega) (by omega) (by omega) (by omega)]
          omega
        have hkv := own_kv v14 (3 : Int32) (2 : Int32) hv261
        rw [show (3 : Int32).toInt = 3 by decide, show (2 : Int32).toInt = 2 by decide] at hkv
        rw [hj584_l17]
        simp only [hLD, hA1, hA2, hA3, hM1, hM2, own_c192 v134 hc1.1 hc1.2, own_c192 v141 hc2.1 hc2.2, own_c192 v148 hc3.1 hc3.2, own_lim1 v4 v14 hat hav v21 hv21, own_lim2 v4 v14 hat hav v21 hv21, own_lim3 v4 v14 hat hav v21 hv21]
        exact own_F2_2 v92 v134 v141 v148 v14 v388 v436 (by omega) hc1 hc2 hc3 hav (hkv.1 (by decide)) hmn hmx
      refine own_st (B := Tg590.setTop (mkF m 603 #[iv p0, iv p1, iv p2, iv p3, iv p4, iv p5, iv v4, iv v14, iv v21, iv v26, rv b30, iv v92, iv v134, iv v141, iv v148, iv (3 : Int32), iv v203, iv j584_l17, iv (2 : Int32), iv (own_b ((v134 &&& (192 : Int32)) = (128 : Int32))), iv v329, iv v336, iv v343, iv v388, iv v436, iv (2048 : Int32), iv (65535 : Int32), iv (own_b (¬ (v436 < (2048 : Int32)) ∧ ((¬ ((65535 : Int32) < v388) ∧ (((v388 < (55296 : Int32)) ∨ ((57343 : Int32) < v436)))))))] [(.int (1 : Int32))])) (fun target kt => ?_) ?_
      · show Steps p.tables e below (Tg590.setTop (mkF m 595 #[iv p0, iv p1, iv p2, iv p3, iv p4, iv p5, iv v4, iv v14, iv v21, iv v26, rv b30, iv v92, iv v134, iv v141, iv v148, iv (3 : Int32), iv v203, iv j584_l17, iv (2 : Int32), iv (own_b ((v134 &&& (192 : Int32)) = (128 : Int32))), iv v329, iv v336, iv v343, iv v388, iv v436, iv (2048 : Int32), iv (65535 : Int32), iv (own_b (¬ (v436 < (2048 : Int32)) ∧ ((¬ ((65535 : Int32) < v388) ∧ (((v388 < (55296 : Int32)) ∨ ((57343 : Int32) < v436)))))))] [(.int j584_l17), (.int (if (v4 + (1 : Int32)) < v21 then (if ((a128 (v4 + (1 : Int32)).toNatClampNeg) &&& (255 : Int32)) < (if ((a128 (v4).toNatClampNeg) &&& (255 : Int32)) = (224 : Int32) then (160 : Int32) else (128 : Int32)) then (-1 : Int32) else (if (if ((a128 (v4).toNatClampNeg) &&& (255 : Int32)) = (224 : Int32) then (191 : Int32) else (if ((a128 (v4).toNatClampNeg) &&& (255 : Int32)) = (237 : Int32) then (159 : Int32) else (191 : Int32))) < ((a128 (v4 + (1 : Int32)).toNatClampNeg) &&& (255 : Int32)) then (-1 : Int32) else (if (v4 + (2 : Int32)) < v21 then (if ((a128 (v4 + (2 : Int32)).toNatClampNeg) &&& (255 : Int32)) < (128 : Int32) then (-1 : Int32) else (if (191 : Int32) < ((a128 (v4 + (2 : Int32)).toNatClampNeg) &&& (255 : Int32)) then (-1 : Int32) else (if ((a128 (v4).toNatClampNeg) &&& (255 : Int32)) = (239 : Int32) then (if (a128 (v4 + (1 : Int32)).toNatClampNeg) = (-65 : Int32) then (if ((a128 (v4 + (2 : Int32)).toNatClampNeg) &&& (254 : Int32)) = (190 : Int32) then (-2 : Int32) else (3 : Int32)) else (3 : Int32)) else (3 : Int32)))) else (0 : Int32)))) else (0 : Int32)))])) target
        refine XS.icmpNo Xg590.here hx rfl (hb hby at_595) rfl (teq c595).2 ?_
        refine XS.iconst Xg590.here hx rfl (hb hby at_598) ?_
        refine XS.goto Xg590.here hx rfl (pc0 := 599) (pc' := 603) rfl (hb hby at_599) (by decide) (by decide) ?_
        exact kt
      obtain ⟨fs, hr, hrun, hended, hW, hsame⟩ := Xg590.leave (v := some (.int (1 : Int32))) (fun h => by rw [Bd.returns] at h; cases h)
      have hend : Steps p.tables e below (Tg590.setTop (mkF m 603 #[iv p0, iv p1, iv p2, iv p3, iv p4, iv p5, iv v4, iv v14, iv v21, iv v26, rv b30, iv v92, iv v134, iv v141, iv v148, iv (3 : Int32), iv v203, iv j584_l17, iv (2 : Int32), iv (own_b ((v134 &&& (192 : Int32)) = (128 : Int32))), iv v329, iv v336, iv v343, iv v388, iv v436, iv (2048 : Int32), iv (65535 : Int32), iv (own_b (¬ (v436 < (2048 : Int32)) ∧ ((¬ ((65535 : Int32) < v388) ∧ (((v388 < (55296 : Int32)) ∨ ((57343 : Int32) < v436)))))))] [(.int (1 : Int32))])) (Tg590.setFrames fs) := by
        exact retN Xg590 hx (t := .boolean) Bd.returns (by simp) (hb hby at_603) hr
      refine own_fin hend ⟨_, hrun, hended, _, _, rfl, ?_, ⟨_, rfl⟩, hW, hsame.mono (by decide) (by decide)⟩
      show own_Q0 Z p0 p1 p2 p3 p4 p5 h0 n0 _ Tg590.heap _
      rw [eg590]
      exact ⟨rfl, Ng590⟩
    · subst hs263
      refine own_st (B := Tg258.setTop (mkF m 278 #[iv p0, iv p1, iv p2, iv p3, iv p4, iv p5, iv v4, iv v14, iv v21, iv v26, rv b30, iv v92, iv v134, iv v141, iv v148, iv (3 : Int32), iv v203, .unset, iv (3 : Int32), .unset, .unset, .unset, .unset, .unset, .unset, .unset, .unset, .unset] [(.int (128 : Int32)), (.int (v134 &&& (192 : Int32)))])) (fun target kt => ?_) ?_
      · show Steps p.tables e below (Tg258.setTop (mkF m 263 #[iv p0, iv p1, iv p2, iv p3, iv p4, iv p5, iv v4, iv v14, iv v21, iv v26, rv b30, iv v92, iv v134, iv v141, iv v148, iv (3 : Int32), iv v203, .unset, iv (3 : Int32), .unset, .unset, .unset, .unset, .unset, .unset, .unset, .unset, .unset] [])) target
        refine XS.iload Xg258.here hx rfl (hb hby at_263) rfl ?_
        refine XS.iconst Xg258.here hx rfl (hb hby at_265) ?_
        refine XS.icmpNo Xg258.here hx rfl (hb hby at_266) rfl (flt (by decide : ¬ ((3 : Int32) < (2 : Int32)))).1 ?_
        refine XS.iload Xg258.here hx rfl (hb hby at_269) rfl ?_
        refine XS.sipush Xg258.here hx rfl (hb hby at_271) ?_
        refine XS.iand Xg258.here hx rfl (hb hby at_274) rfl ?_
        refine XS.sipush Xg258.here hx rfl (hb hby at_275) ?_
        exact kt
      obtain ⟨_, ⟨j322_s0, rfl, rfl⟩, st_M322⟩ : own_Lead p.tables e below (Tg258.setTop (mkF m 278 #[iv p0, iv p1, iv p2, iv p3, iv p4, iv p5, iv v4, iv v14, iv v21, iv v26, rv b30, iv v92, iv v134, iv v141, iv v148, iv (3 : Int32), iv v203, .unset, iv (3 : Int32), .unset, .unset, .unset, .unset, .unset, .unset, .unset, .unset, .unset] [(.int (128 : Int32)), (.int (v134 &&& (192 : Int32)))])) (fun B => ∃ (j322_s0 : Int32), B = Tg258.setTop (mkF m 322 #[iv p0, iv p1, iv p2, iv p3, iv p4, iv p5, iv v4, iv v14, iv v21, iv v26, rv b30, iv v92, iv v134, iv v141, iv v148, iv (3 : Int32), iv v203, .unset, iv (3 : Int32), .unset, .unset, .unset, .unset, .unset, .unset, .unset, .unset, .unset] [(.int j322_s0)]) ∧ j322_s0 = own_b ((((v134 &&& (192 : Int32)) = (128 : Int32)) ∧ ((v141 &&& (192 : Int32)) = (128 : Int32))))) := by
        by_cases c278 : (v134 &&& (192 : Int32)) = (128 : Int32)
        · refine own_st (B := Tg258.setTop (mkF m 296 #[iv p0, iv p1, iv p2, iv p3, iv p4, iv p5, iv v4, iv v14, iv v21, iv v26, rv b30, iv v92, iv v134, iv v141, iv v148, iv (3 : Int32), iv v203, .unset, iv (3 : Int32), .unset, .unset, .unset, .unset, .unset, .unset, .unset, .unset, .unset] [(.int (128 : Int32)), (.int (v141 &&& (192 : Int32)))])) (fun target kt => ?_) ?_
          · show Steps p.tables e below (Tg258.setTop (mkF m 278 #[iv p0, iv p1, iv p2, iv p3, iv p4, iv p5, iv v4, iv v14, iv v21, iv v26, rv b30, iv v92, iv v134, iv v141, iv v148, iv (3 : Int32), iv v203, .unset, iv (3 : Int32), .unset, .unset, .unset, .unset, .unset, .unset, .unset, .unset, .unset] [(.int (128 : Int32)), (.int (v134 &&& (192 : Int32)))])) target
            refine XS.icmpNo Xg258.here hx rfl (hb hby at_278) rfl (teq c278).2 ?_
            refine XS.iload Xg258.here hx rfl (hb hby at_281) rfl ?_
            refine XS.iconst Xg258.here hx rfl (hb hby at_283) ?_
            refine XS.icmpNo Xg258.here hx rfl (hb hby at_284) rfl (flt (by decide : ¬ ((3 : Int32) < (3 : Int32)))).1 ?_
            refine XS.iload Xg258.here hx rfl (hb hby at_287) rfl ?_
            refine XS.sipush Xg258.here hx rfl (hb hby at_289) ?_
            refine XS.iand Xg258.here hx rfl (hb hby at_292) rfl ?_
            refine XS.sipush Xg258.here hx rfl (hb hby at_293) ?_
            exact kt
          by_cases c296 : (v141 &&& (192 : Int32)) = (128 : Int32)
          · refine own_st (B := Tg258.setTop (mkF m 322 #[iv p0, iv p1, iv p2, iv p3, iv p4, iv p5, iv v4, iv v14, iv v21, iv v26, rv b30, iv v92, iv v134, iv v141, iv v148, iv (3 : Int32), iv v203, .unset, iv (3 : Int32), .unset, .unset, .unset, .unset, .unset, .unset, .unset, .unset, .unset] [(.int (1 : Int32))])) (fun target kt => ?_) ?_
            · show Steps p.tables e below (Tg258.setTop (mkF m 296 #[iv p0, iv p1, iv p2, iv p3, iv p4, iv p5, iv v4, iv v14, iv v21, iv v26, rv b30, iv v92, iv v134, iv v141, iv v148, iv (3 : Int32), iv v203, .unset, iv (3 : Int32), .unset, .unset, .unset, .unset, .unset, .unset, .unset, .unset, .unset] [(.int (128 : Int32)), (.int (v141 &&& (192 : Int32)))])) target
              refine XS.icmpNo Xg258.here hx rfl (hb hby at_296) rfl (teq c296).2 ?_
              refine XS.iload Xg258.here hx rfl (hb hby at_299) rfl ?_
              refine XS.iconst Xg258.here hx rfl (hb hby at_301) ?_
              refine XS.icmpYes Xg258.here hx rfl (pc0 := 302) (pc' := 317) rfl (hb hby at_302) rfl (tlt (by decide : (3 : Int32) < (4 : Int32))).1 (by decide) (by decide) ?_
              refine XS.iconst Xg258.here hx rfl (hb hby at_317) ?_
              refine XS.goto Xg258.here hx rfl (pc0 := 318) (pc' := 322) rfl (hb hby at_318) (by decide) (by decide) ?_
              exact kt
            exact ⟨_, ⟨(1 : Int32), rfl, (own_b1 ⟨c278, c296⟩).symm⟩, fun _ k => k⟩
          · refine own_st (B := Tg258.setTop (mkF m 322 #[iv p0, iv p1, iv p2, iv p3, iv p4, iv p5, iv v4, iv v14, iv v21, iv v26, rv b30, iv v92, iv v134, iv v141, iv v148, iv (3 : Int32), iv v203, .unset, iv (3 : Int32), .unset, .unset, .unset, .unset, .unset, .unset, .unset, .unset, .unset] [(.int (0 : Int32))])) (fun target kt => ?_) ?_
            · show Steps p.tables e below (Tg258.setTop (mkF m 296 #[iv p0, iv p1, iv p2, iv p3, iv p4, iv p5, iv v4, iv v14, iv v21, iv v26, rv b30, iv v92, iv v134, iv v141, iv v148, iv (3 : Int32), iv v203, .unset, iv (3 : Int32), .unset, .unset, .unset, .unset, .unset, .unset, .unset, .unset, .unset] [(.int (128 : Int32)), (.int (v141 &&& (192 : Int32)))])) target
              refine XS.icmpYes Xg258.here hx rfl (pc0 := 296) (pc' := 321) rfl (hb hby at_296) rfl (feq c296).2 (by decide) (by decide) ?_
              refine XS.iconst Xg258.here hx rfl (hb hby at_321) ?_
              exact kt
            exact ⟨_, ⟨(0 : Int32), rfl, (own_b0 (fun w => c296 w.2)).symm⟩, fun _ k => k⟩
        · refine own_st (B := Tg258.setTop (mkF m 322 #[iv p0, iv p1, iv p2, iv p3, iv p4, iv p5, iv v4, iv v14, iv v21, iv v26, rv b30, iv v92, iv v134, iv v141, iv v148, iv (3 : Int32), iv v203, .unset, iv (3 : Int32), .unset, .unset, .unset, .unset, .unset, .unset, .unset, .unset, .unset] [(.int (0 : Int32))])) (fun target kt => ?_) ?_
          · show Steps p.tables e below (Tg258.setTop (mkF m 278 #[iv p0, iv p1, iv p2, iv p3, iv p4, iv p5, iv v4, iv v14, iv v21, iv v26, rv b30, iv v92, iv v134, iv v141, iv v148, iv (3 : Int32), iv v203, .unset, iv (3 : Int32), .unset, .unset, .unset, .unset, .unset, .unset, .unset, .unset, .unset] [(.int (128 : Int32)), (.int (v134 &&& (192 : Int32)))])) target
            refine XS.icmpYes Xg258.here hx rfl (pc0 := 278) (pc' := 321) rfl (hb hby at_278) rfl (feq c278).2 (by decide) (by decide) ?_
            refine XS.iconst Xg258.here hx rfl (hb hby at_321) ?_
            exact kt
          exact ⟨_, ⟨(0 : Int32), rfl, (own_b0 (fun w => c278 w.1)).symm⟩, fun _ k => k⟩
      refine own_st st_M322 ?_
      obtain ⟨v329, hv329⟩ : ∃ z : Int32, z = (v134 &&& (63 : Int32)) := ⟨_, rfl⟩
      obtain ⟨v336, hv336⟩ : ∃ z : Int32, z = (v141 &&& (63 : Int32)) := ⟨_, rfl⟩
      obtain ⟨v343, hv343⟩ : ∃ z : Int32, z = (v148 &&& (63 : Int32)) := ⟨_, rfl⟩
      refine own_st (B := Tg258.setTop (mkF m 385 #[iv p0, iv p1, iv p2, iv p3, iv p4, iv p5, iv v4, iv v14, iv v21, iv v26, rv b30, iv v92, iv v134, iv v141, iv v148, iv (3 : Int32), iv v203, .unset, iv (3 : Int32), iv (own_b (((v134 &&& (192 : Int32)) = (128 : Int32)) ∧ ((v141 &&& (192 : Int32)) = (128 : Int32)))), iv v329, iv v336, iv v343, .unset, .unset, .unset, .unset, .unset] [(.int (0 : Int32)), (.int v336), (.int v329), (.int v203), (.int (3 : Int32))])) (fun target kt => ?_) ?_
      · show Steps p.tables e below (Tg258.setTop (mkF m 322 #[iv p0, iv p1, iv p2, iv p3, iv p4, iv p5, iv v4, iv v14, iv v21, iv v26, rv b30, iv v92, iv v134, iv v141, iv v148, iv (3 : Int32), iv v203, .unset, iv (3 : Int32), .unset, .unset, .unset, .unset, .unset, .unset, .unset, .unset, .unset] [(.int (own_b (((v134 &&& (192 : Int32)) = (128 : Int32)) ∧ ((v141 &&& (192 : Int32)) = (128 : Int32)))))])) target
        refine XS.istore Xg258.here hx rfl (hb hby at_322) rfl (l' := #[iv p0, iv p1, iv p2, iv p3, iv p4, iv p5, iv v4, iv v14, iv v21, iv v26, rv b30, iv v92, iv v134, iv v141, iv v148, iv (3 : Int32), iv v203, .unset, iv (3 : Int32), iv (own_b (((v134 &&& (192 : Int32)) = (128 : Int32)) ∧ ((v141 &&& (192 : Int32)) = (128 : Int32)))), .unset, .unset, .unset, .unset, .unset, .unset, .unset, .unset]) rfl ?_
        refine XS.iload Xg258.here hx rfl (hb hby at_324) rfl ?_
        refine XS.bipush Xg258.here hx rfl (hb hby at_326) ?_
        refine XS.iand Xg258.here hx rfl (hb hby at_328) rfl ?_
        refine XS.istore Xg258.here hx rfl (hb hby at_329) rfl (l' := #[iv p0, iv p1, iv p2, iv p3, iv p4, iv p5, iv v4, iv v14, iv v21, iv v26, rv b30, iv v92, iv v134, iv v141, iv v148, iv (3 : Int32), iv v203, .unset, iv (3 : Int32), iv (own_b (((v134 &&& (192 : Int32)) = (128 : Int32)) ∧ ((v141 &&& (192 : Int32)) = (128 : Int32)))), iv v329, .unset, .unset, .unset, .unset, .unset, .unset, .unset]) (by subst hv329; rfl) ?_
        refine XS.iload Xg258.here hx rfl (hb hby at_331) rfl ?_
        refine XS.bipush Xg258.here hx rfl (hb hby at_333) ?_
        refine XS.iand Xg258.here hx rfl (hb hby at_335) rfl ?_
        show Steps p.tables e below (Tg258.setTop (mkF m 336 #[iv p0, iv p1, iv p2, iv p3, iv p4, iv p5, iv v4, iv v14, iv v21, iv v26, rv b30, iv v92, iv v134, iv v141, iv v148, iv (3 : Int32), iv v203, .unset, iv (3 : Int32), iv (own_b (((v134 &&& (192 : Int32)) = (128 : Int32)) ∧ ((v141 &&& (192 : Int32)) = (128 : Int32)))), iv v329, .unset, .unset, .unset, .unset, .unset, .unset, .unset] [(.int (v141 &&& (63 : Int32)))])) target
        refine XS.istore Xg258.here hx rfl (hb hby at_336) rfl (l' := #[iv p0, iv p1, iv p2, iv p3, iv p4, iv p5, iv v4, iv v14, iv v21, iv v26, rv b30, iv v92, iv v134, iv v141, iv v148, iv (3 : Int32), iv v203, .unset, iv (3 : Int32), iv (own_b (((v134 &&& (192 : Int32)) = (128 : Int32)) ∧ ((v141 &&& (192 : Int32)) = (128 : Int32)))), iv v329, iv v336, .unset, .unset, .unset, .unset, .unset, .unset]) (by subst hv336; rfl) ?_
        refine XS.iload Xg258.here hx rfl (hb hby at_338) rfl ?_
        refine XS.bipush Xg258.here hx rfl (hb hby at_340) ?_
        refine XS.iand Xg258.here hx rfl (hb hby at_342) rfl ?_
        refine XS.istore Xg258.here hx rfl (hb hby at_343) rfl (l' := #[iv p0, iv p1, iv p2, iv p3, iv p4, iv p5, iv v4, iv v14, iv v21, iv v26, rv b30, iv v92, iv v134, iv v141, iv v148, iv (3 : Int32), iv v203, .unset, iv (3 : Int32), iv (own_b (((v134 &&& (192 : Int32)) = (128 : Int32)) ∧ ((v141 &&& (192 : Int32)) = (128 : Int32)))), iv v329, iv v336, iv v343, .unset, .unset, .unset, .unset, .unset]) (by subst hv343; rfl) ?_
        refine XS.iload Xg258.here hx rfl (hb hby at_345) rfl ?_
        refine XS.iload Xg258.here hx rfl (hb hby at_347) rfl ?_
        refine XS.iload Xg258.here hx rfl (hb hby at_349) rfl ?_
        show Steps p.tables e below (Tg258.setTop (mkF m 351 #[iv p0, iv p1, iv p2, iv p3, iv p4, iv p5, iv v4, iv v14, iv v21, iv v26, rv b30, iv v92, iv v134, iv v141, iv v148, iv (3 : Int32), iv v203, .unset, iv (3 : Int32), iv (own_b (((v134 &&& (192 : Int32)) = (128 : Int32)) ∧ ((v141 &&& (192 : Int32)) = (128 : Int32)))), iv v329, iv v336, iv v343, .unset, .unset, .unset, .unset, .unset] [(.int (3 : Int32)), (.int v203), (.int (3 : Int32))])) target
        refine XS.iconst Xg258.here hx rfl (hb hby at_351) ?_
        refine XS.icmpNo Xg258.here hx rfl (hb hby at_352) rfl (flt (by decide : ¬ ((3 : Int32) < (2 : Int32)))).1 ?_
        refine XS.iload Xg258.here hx rfl (hb hby at_355) rfl ?_
        refine XS.goto Xg258.here hx rfl (pc0 := 357) (pc' := 361) rfl (hb hby at_357) (by decide) (by decide) ?_
        refine XS.iload Xg258.here hx rfl (hb hby at_361) rfl ?_
        refine XS.iconst Xg258.here hx rfl (hb hby at_363) ?_
        refine XS.icmpNo Xg258.here hx rfl (hb hby at_364) rfl (flt (by decide : ¬ ((3 : Int32) < (3 : Int32)))).1 ?_
        refine XS.iload Xg258.here hx rfl (hb hby at_367) rfl ?_
        show Steps p.tables e below (Tg258.setTop (mkF m 369 #[iv p0, iv p1, iv p2, iv p3, iv p4, iv p5, iv v4, iv v14, iv v21, iv v26, rv b30, iv v92, iv v134, iv v141, iv v148, iv (3 : Int32), iv v203, .unset, iv (3 : Int32), iv (own_b (((v134 &&& (192 : Int32)) = (128 : Int32)) ∧ ((v141 &&& (192 : Int32)) = (128 : Int32)))), iv v329, iv v336, iv v343, .unset, .unset, .unset, .unset, .unset] [(.int v336), (.int v329), (.int v203), (.int (3 : Int32))])) target
        refine XS.goto Xg258.here hx rfl (pc0 := 369) (pc' := 373) rfl (hb hby at_369) (by decide) (by decide) ?_
        refine XS.iload Xg258.here hx rfl (hb hby at_373) rfl ?_
        refine XS.iconst Xg258.here hx rfl (hb hby at_375) ?_
        refine XS.icmpYes Xg258.here hx rfl (pc0 := 376) (pc' := 384) rfl (hb hby at_376) rfl (tlt (by decide : (3 : Int32) < (4 : Int32))).1 (by decide) (by decide) ?_
        refine XS.iconst Xg258.here hx rfl (hb hby at_384) ?_
        exact kt
      obtain ⟨_, _, ⟨Tg385, Lg385, kg385, ng385⟩, -, Xg385, ⟨Lcg385, hQg385, lg385, yg385, zg385⟩, stg385⟩ := Jvm.LawKit.callS Xg258 hx (y := (⟨"com/example/psyche/psyche/XmlCharsSequenceLengthPinLaw", "compose", "(IIIII)I"⟩ : MethodName)) hown (mvT hZ (hw _ (List.mem_of_getElem? (i := 9) rfl))) (mvT hZ (hw _ (List.mem_of_getElem? (i := 10) rfl))) (mvT hZ (hw _ (List.mem_of_getElem? (i := 11) rfl))) (mvT hZ (hw _ (List.mem_of_getElem? (i := 12) rfl))) (by decide) (backOf (W := 0) (own_rm3 l Z a0 hw [] (3 : Int32) v203 v329 v336 (0 : Int32) hg128 n0 Zz_12) hZ (hw _ (List.mem_of_getElem? (i := 12) rfl)) (hw _ (List.mem_of_getElem? (i := 11) rfl)) (by decide) (by decide)) (g := (mkF m 385 #[iv p0, iv p1, iv p2, iv p3, iv p4, iv p5, iv v4, iv v14, iv v21, iv v26, rv b30, iv v92, iv v134, iv v141, iv v148, iv (3 : Int32), iv v203, .unset, iv (3 : Int32), iv (own_b (((v134 &&& (192 : Int32)) = (128 : Int32)) ∧ ((v141 &&& (192 : Int32)) = (128 : Int32)))), iv v329, iv v336, iv v343, .unset, .unset, .unset, .unset, .unset] [(.int (0 : Int32)), (.int v336), (.int v329), (.int v203), (.int (3 : Int32))])) rfl (by rw [hml]; rfl) (argsL := [(.int (3 : Int32)), (.int v203), (.int v329), (.int v336), (.int (0 : Int32))]) (rest := []) (lenOf own_pd2 rfl) rfl (by show 2 * 0 + _ ≤ _; exact Nat.le_of_eq rfl) (hb hby at_385) (fun _ _ => ⟨rfl, eg258, (by decide : 1 + 0 ≤ _), (by decide : 8 + 0 ≤ _)⟩)
      dsimp only [Pt.U, Pt.locs, Pt.cells, Pt.slots] at Xg385 lg385 yg385 zg385 stg385 hQg385
      subst lg385 yg385 zg385
      obtain ⟨rfl, Ng385q, eg385⟩ := hQg385
      have Ng385 := Fr.app Ng258 Ng385q
      refine own_st (stg385) ?_
      obtain ⟨v388, hv388⟩ : ∃ z : Int32, z = (if (3 : Int32) = (2 : Int32) then ((v203 <<< ((6 : Int32) &&& 31)) ||| v329) else (if (3 : Int32) = (3 : Int32) then (((v203 <<< ((12 : Int32) &&& 31)) ||| (v329 <<< ((6 : Int32) &&& 31))) ||| v336) else ((((v203 <<< ((18 : Int32) &&& 31)) ||| (v329 <<< ((12 : Int32) &&& 31))) ||| (v336 <<< ((6 : Int32) &&& 31))) ||| (0 : Int32)))) := ⟨_, rfl⟩
      refine own_st (B := Tg385.setTop (mkF m 433 #[iv p0, iv p1, iv p2, iv p3, iv p4, iv p5, iv v4, iv v14, iv v21, iv v26, rv b30, iv v92, iv v134, iv v141, iv v148, iv (3 : Int32), iv v203, .unset, iv (3 : Int32), iv (own_b (((v134 &&& (192 : Int32)) = (128 : Int32)) ∧ ((v141 &&& (192 : Int32)) = (128 : Int32)))), iv v329, iv v336, iv v343, iv v388, .unset, .unset, .unset, .unset] [(.int (63 : Int32)), (.int v336), (.int v329), (.int v203), (.int (3 : Int32))])) (fun target kt => ?_) ?_
      · show Steps p.tables e below (Tg385.setTop (mkF m 388 #[iv p0, iv p1, iv p2, iv p3, iv p4, iv p5, iv v4, iv v14, iv v21, iv v26, rv b30, iv v92, iv v134, iv v141, iv v148, iv (3 : Int32), iv v203, .unset, iv (3 : Int32), iv (own_b (((v134 &&& (192 : Int32)) = (128 : Int32)) ∧ ((v141 &&& (192 : Int32)) = (128 : Int32)))), iv v329, iv v336, iv v343, .unset, .unset, .unset, .unset, .unset] [(.int (if (3 : Int32) = (2 : Int32) then ((v203 <<< ((6 : Int32) &&& 31)) ||| v329) else (if (3 : Int32) = (3 : Int32) then (((v203 <<< ((12 : Int32) &&& 31)) ||| (v329 <<< ((6 : Int32) &&& 31))) ||| v336) else ((((v203 <<< ((18 : Int32) &&& 31)) ||| (v329 <<< ((12 : Int32) &&& 31))) ||| (v336 <<< ((6 : Int32) &&& 31))) ||| (0 : Int32)))))])) target
        refine XS.istore Xg385.here hx rfl (hb hby at_388) rfl (l' := #[iv p0, iv p1, iv p2, iv p3, iv p4, iv p5, iv v4, iv v14, iv v21, iv v26, rv b30, iv v92, iv v134, iv v141, iv v148, iv (3 : Int32), iv v203, .unset, iv (3 : Int32), iv (own_b (((v134 &&& (192 : Int32)) = (128 : Int32)) ∧ ((v141 &&& (192 : Int32)) = (128 : Int32)))), iv v329, iv v336, iv v343, iv v388, .unset, .unset, .unset, .unset]) (by subst hv388; rfl) ?_
        refine XS.iload Xg385.here hx rfl (hb hby at_390) rfl ?_
        refine XS.iload Xg385.here hx rfl (hb hby at_392) rfl ?_
        refine XS.iload Xg385.here hx rfl (hb hby at_394) rfl ?_
        refine XS.iconst Xg385.here hx rfl (hb hby at_396) ?_
        refine XS.icmpNo Xg385.here hx rfl (hb hby at_397) rfl (flt (by decide : ¬ ((3 : Int32) < (2 : Int32)))).1 ?_
        refine XS.iload Xg385.here hx rfl (hb hby at_400) rfl ?_
        refine XS.goto Xg385.here hx rfl (pc0 := 402) (pc' := 407) rfl (hb hby at_402) (by decide) (by decide) ?_
        show Steps p.tables e below (Tg385.setTop (mkF m 407 #[iv p0, iv p1, iv p2, iv p3, iv p4, iv p5, iv v4, iv v14, iv v21, iv v26, rv b30, iv v92, iv v134, iv v141, iv v148, iv (3 : Int32), iv v203, .unset, iv (3 : Int32), iv (own_b (((v134 &&& (192 : Int32)) = (128 : Int32)) ∧ ((v141 &&& (192 : Int32)) = (128 : Int32)))), iv v329, iv v336, iv v343, iv v388, .unset, .unset, .unset, .unset] [(.int v329), (.int v203), (.int (3 : Int32))])) target
        refine XS.iload Xg385.here hx rfl (hb hby at_407) rfl ?_
        refine XS.iconst Xg385.here hx rfl (hb hby at_409) ?_
        refine XS.icmpNo Xg385.here hx rfl (hb hby at_410) rfl (flt (by decide : ¬ ((3 : Int32) < (3 : Int32)))).1 ?_
        refine XS.iload Xg385.here hx rfl (hb hby at_413) rfl ?_
        refine XS.goto Xg385.here hx rfl (pc0 := 415) (pc' := 420) rfl (hb hby at_415) (by decide) (by decide) ?_
        refine XS.iload Xg385.here hx rfl (hb hby at_420) rfl ?_
        refine XS.iconst Xg385.here hx rfl (hb hby at_422) ?_
        refine XS.icmpYes Xg385.here hx rfl (pc0 := 423) (pc' := 431) rfl (hb hby at_423) rfl (tlt (by decide : (3 : Int32) < (4 : Int32))).1 (by decide) (by decide) ?_
        show Steps p.tables e below (Tg385.setTop (mkF m 431 #[iv p0, iv p1, iv p2, iv p3, iv p4, iv p5, iv v4, iv v14, iv v21, iv v26, rv b30, iv v92, iv v134, iv v141, iv v148, iv (3 : Int32), iv v203, .unset, iv (3 : Int32), iv (own_b (((v134 &&& (192 : Int32)) = (128 : Int32)) ∧ ((v141 &&& (192 : Int32)) = (128 : Int32)))), iv v329, iv v336, iv v343, iv v388, .unset, .unset, .unset, .unset] [(.int v336), (.int v329), (.int v203), (.int (3 : Int32))])) target
        refine XS.bipush Xg385.here hx rfl (hb hby at_431) ?_
        exact kt
      obtain ⟨_, _, ⟨Tg433, Lg433, kg433, ng433⟩, -, Xg433, ⟨Lcg433, hQg433, lg433, yg433, zg433⟩, stg433⟩ := Jvm.LawKit.callS Xg385 hx (y := (⟨"com/example/psyche/psyche/XmlCharsSequenceLengthPinLaw", "compose", "(IIIII)I"⟩ : MethodName)) hown (mvT hZ (hw _ (List.mem_of_getElem? (i := 9) rfl))) (mvT hZ (hw _ (List.mem_of_getElem? (i := 10) rfl))) (mvT hZ (hw _ (List.mem_of_getElem? (i := 11) rfl))) (mvT hZ (hw _ (List.mem_of_getElem? (i := 12) rfl))) (by decide) (backOf (W := 0) (own_rm3 l Z a0 hw [] (3 : Int32) v203 v329 v336 (63 : Int32) hg128 n0 Zz_12) hZ (hw _ (List.mem_of_getElem? (i := 12) rfl)) (hw _ (List.mem_of_getElem? (i := 11) rfl)) (by decide) (by decide)) (g := (mkF m 433 #[iv p0, iv p1, iv p2, iv p3, iv p4, iv p5, iv v4, iv v14, iv v21, iv v26, rv b30, iv v92, iv v134, iv v141, iv v148, iv (3 : Int32), iv v203, .unset, iv (3 : Int32), iv (own_b (((v134 &&& (192 : Int32)) = (128 : Int32)) ∧ ((v141 &&& (192 : Int32)) = (128 : Int32)))), iv v329, iv v336, iv v343, iv v388, .unset, .unset, .unset, .unset] [(.int (63 : Int32)), (.int v336), (.int v329), (.int v203), (.int (3 : Int32))])) rfl (by rw [hml]; rfl) (argsL := [(.int (3 : Int32)), (.int v203), (.int v329), (.int v336), (.int (63 : Int32))]) (rest := []) (lenOf own_pd2 rfl) rfl (by show 2 * 0 + _ ≤ _; exact Nat.le_of_eq rfl) (hb hby at_433) (fun _ _ => ⟨rfl, eg385, (by decide : 1 + 0 ≤ _), (by decide : 8 + 0 ≤ _)⟩)
      dsimp only [Pt.U, Pt.locs, Pt.cells, Pt.slots] at Xg433 lg433 yg433 zg433 stg433 hQg433
      subst lg433 yg433 zg433
      obtain ⟨rfl, Ng433q, eg433⟩ := hQg433
      have Ng433 := Fr.app Ng385 Ng433q
      refine own_st (stg433) ?_
      obtain ⟨v436, hv436⟩ : ∃ z : Int32, z = (if (3 : Int32) = (2 : Int32) then ((v203 <<< ((6 : Int32) &&& 31)) ||| v329) else (if (3 : Int32) = (3 : Int32) then (((v203 <<< ((12 : Int32) &&& 31)) ||| (v329 <<< ((6 : Int32) &&& 31))) ||| v336) else ((((v203 <<< ((18 : Int32) &&& 31)) ||| (v329 <<< ((12 : Int32) &&& 31))) ||| (v336 <<< ((6 : Int32) &&& 31))) ||| (63 : Int32)))) := ⟨_, rfl⟩
      refine own_st (B := Tg433.setTop (mkF m 487 #[iv p0, iv p1, iv p2, iv p3, iv p4, iv p5, iv v4, iv v14, iv v21, iv v26, rv b30, iv v92, iv v134, iv v141, iv v148, iv (3 : Int32), iv v203, .unset, iv (3 : Int32), iv (own_b (((v134 &&& (192 : Int32)) = (128 : Int32)) ∧ ((v141 &&& (192 : Int32)) = (128 : Int32)))), iv v329, iv v336, iv v343, iv v388, iv v436, iv (2048 : Int32), iv (65535 : Int32), .unset] [(.int (2048 : Int32)), (.int v436)])) (fun target kt => ?_) ?_
      · show Steps p.tables e below (Tg433.setTop (mkF m 436 #[iv p0, iv p1, iv p2, iv p3, iv p4, iv p5, iv v4, iv v14, iv v21, iv v26, rv b30, iv v92, iv v134, iv v141, iv v148, iv (3 : Int32), iv v203, .unset, iv (3 : Int32), iv (own_b (((v134 &&& (192 : Int32)) = (128 : Int32)) ∧ ((v141 &&& (192 : Int32)) = (128 : Int32)))), iv v329, iv v336, iv v343, iv v388, .unset, .unset, .unset, .unset] [(.int (if (3 : Int32) = (2 : Int32) then ((v203 <<< ((6 : Int32) &&& 31)) ||| v329) else (if (3 : Int32) = (3 : Int32) then (((v203 <<< ((12 : Int32) &&& 31)) ||| (v329 <<< ((6 : Int32) &&& 31))) ||| v336) else ((((v203 <<< ((18 : Int32) &&& 31)) ||| (v329 <<< ((12 : Int32) &&& 31))) ||| (v336 <<< ((6 : Int32) &&& 31))) ||| (63 : Int32)))))])) target
        refine XS.istore Xg433.here hx rfl (hb hby at_436) rfl (l' := #[iv p0, iv p1, iv p2, iv p3, iv p4, iv p5, iv v4, iv v14, iv v21, iv v26, rv b30, iv v92, iv v134, iv v141, iv v148, iv (3 : Int32), iv v203, .unset, iv (3 : Int32), iv (own_b (((v134 &&& (192 : Int32)) = (128 : Int32)) ∧ ((v141 &&& (192 : Int32)) = (128 : Int32)))), iv v329, iv v336, iv v343, iv v388, iv v436, .unset, .unset, .unset]) (by subst hv436; rfl) ?_
        refine XS.iload Xg433.here hx rfl (hb hby at_438) rfl ?_
        refine XS.iconst Xg433.here hx rfl (hb hby at_440) ?_
        refine XS.icmpYes Xg433.here hx rfl (pc0 := 441) (pc' := 457) rfl (hb hby at_441) rfl (feq (by decide : ¬ ((3 : Int32) = (2 : Int32)))).2 (by decide) (by decide) ?_
        refine XS.iload Xg433.here hx rfl (hb hby at_457) rfl ?_
        refine XS.iconst Xg433.here hx rfl (hb hby at_459) ?_
        refine XS.icmpNo Xg433.here hx rfl (hb hby at_460) rfl (teq (by decide : (3 : Int32) = (3 : Int32))).2 ?_
        refine XS.sipush Xg433.here hx rfl (hb hby at_463) ?_
        show Steps p.tables e below (Tg433.setTop (mkF m 466 #[iv p0, iv p1, iv p2, iv p3, iv p4, iv p5, iv v4, iv v14, iv v21, iv v26, rv b30, iv v92, iv v134, iv v141, iv v148, iv (3 : Int32), iv v203, .unset, iv (3 : Int32), iv (own_b (((v134 &&& (192 : Int32)) = (128 : Int32)) ∧ ((v141 &&& (192 : Int32)) = (128 : Int32)))), iv v329, iv v336, iv v343, iv v388, iv v436, .unset, .unset, .unset] [(.int (2048 : Int32))])) target
        refine XS.istore Xg433.here hx rfl (hb hby at_466) rfl (l' := #[iv p0, iv p1, iv p2, iv p3, iv p4, iv p5, iv v4, iv v14, iv v21, iv v26, rv b30, iv v92, iv v134, iv v141, iv v148, iv (3 : Int32), iv v203, .unset, iv (3 : Int32), iv (own_b (((v134 &&& (192 : Int32)) = (128 : Int32)) ∧ ((v141 &&& (192 : Int32)) = (128 : Int32)))), iv v329, iv v336, iv v343, iv v388, iv v436, iv (2048 : Int32), .unset, .unset]) rfl ?_
        refine Xg433.ldcInt hx hown (mvT hZ (hw _ (List.mem_of_getElem? (i := 13) rfl))) (g := (mkF m 468 #[iv p0, iv p1, iv p2, iv p3, iv p4, iv p5, iv v4, iv v14, iv v21, iv v26, rv b30, iv v92, iv v134, iv v141, iv v148, iv (3 : Int32), iv v203, .unset, iv (3 : Int32), iv (own_b (((v134 &&& (192 : Int32)) = (128 : Int32)) ∧ ((v141 &&& (192 : Int32)) = (128 : Int32)))), iv v329, iv v336, iv v343, iv v388, iv v436, iv (2048 : Int32), .unset, .unset] [])) rfl (hb hby at_468) _ ?_
        refine XS.istore Xg433.here hx rfl (hb hby at_470) rfl (l' := #[iv p0, iv p1, iv p2, iv p3, iv p4, iv p5, iv v4, iv v14, iv v21, iv v26, rv b30, iv v92, iv v134, iv v141, iv v148, iv (3 : Int32), iv v203, .unset, iv (3 : Int32), iv (own_b (((v134 &&& (192 : Int32)) = (128 : Int32)) ∧ ((v141 &&& (192 : Int32)) = (128 : Int32)))), iv v329, iv v336, iv v343, iv v388, iv v436, iv (2048 : Int32), iv (65535 : Int32), .unset]) rfl ?_
        refine XS.goto Xg433.here hx rfl (pc0 := 472) (pc' := 483) rfl (hb hby at_472) (by decide) (by decide) ?_
        refine XS.iload Xg433.here hx rfl (hb hby at_483) rfl ?_
        refine XS.iload Xg433.here hx rfl (hb hby at_485) rfl ?_
        exact kt
      obtain ⟨_, ⟨j522_s0, rfl, rfl⟩, st_M522⟩ : own_Lead p.tables e below (Tg433.setTop (mkF m 487 #[iv p0, iv p1, iv p2, iv p3, iv p4, iv p5, iv v4, iv v14, iv v21, iv v26, rv b30, iv v92, iv v134, iv v141, iv v148, iv (3 : Int32), iv v203, .unset, iv (3 : Int32), iv (own_b (((v134 &&& (192 : Int32)) = (128 : Int32)) ∧ ((v141 &&& (192 : Int32)) = (128 : Int32)))), iv v329, iv v336, iv v343, iv v388, iv v436, iv (2048 : Int32), iv (65535 : Int32), .unset] [(.int (2048 : Int32)), (.int v436)])) (fun B => ∃ (j522_s0 : Int32), B = Tg433.setTop (mkF m 522 #[iv p0, iv p1, iv p2, iv p3, iv p4, iv p5, iv v4, iv v14, iv v21, iv v26, rv b30, iv v92, iv v134, iv v141, iv v148, iv (3 : Int32), iv v203, .unset, iv (3 : Int32), iv (own_b (((v134 &&& (192 : Int32)) = (128 : Int32)) ∧ ((v141 &&& (192 : Int32)) = (128 : Int32)))), iv v329, iv v336, iv v343, iv v388, iv v436, iv (2048 : Int32), iv (65535 : Int32), .unset] [(.int j522_s0)]) ∧ j522_s0 = own_b ((¬ (v436 < (2048 : Int32)) ∧ ((¬ ((65535 : Int32) < v388) ∧ (((v388 < (55296 : Int32)) ∨ ((57343 : Int32) < v436)))))))) := by
        by_cases c487 : v436 < (2048 : Int32)
        · refine own_st (B := Tg433.setTop (mkF m 522 #[iv p0, iv p1, iv p2, iv p3, iv p4, iv p5, iv v4, iv v14, iv v21, iv v26, rv b30, iv v92, iv v134, iv v141, iv v148, iv (3 : Int32), iv v203, .unset, iv (3 : Int32), iv (own_b (((v134 &&& (192 : Int32)) = (128 : Int32)) ∧ ((v141 &&& (192 : Int32)) = (128 : Int32)))), iv v329, iv v336, iv v343, iv v388, iv v436, iv (2048 : Int32), iv (65535 : Int32), .unset] [(.int (0 : Int32))])) (fun target kt => ?_) ?_
          · show Steps p.tables e below (Tg433.setTop (mkF m 487 #[iv p0, iv p1, iv p2, iv p3, iv p4, iv p5, iv v4, iv v14, iv v21, iv v26, rv b30, iv v92, iv v134, iv v141, iv v148, iv (3 : Int32), iv v203, .unset, iv (3 : Int32), iv (own_b (((v134 &&& (192 : Int32)) = (128 : Int32)) ∧ ((v141 &&& (192 : Int32)) = (128 : Int32)))), iv v329, iv v336, iv v343, iv v388, iv v436, iv (2048 : Int32), iv (65535 : Int32), .unset] [(.int (2048 : Int32)), (.int v436)])) target
            refine XS.icmpYes Xg433.here hx rfl (pc0 := 487) (pc' := 521) rfl (hb hby at_487) rfl (tlt c487).1 (by decide) (by decide) ?_
            refine XS.iconst Xg433.here hx rfl (hb hby at_521) ?_
            exact kt
          exact ⟨_, ⟨(0 : Int32), rfl, (own_b0 (fun w => w.1 c487)).symm⟩, fun _ k => k⟩
        · refine own_st (B := Tg433.setTop (mkF m 494 #[iv p0, iv p1, iv p2, iv p3, iv p4, iv p5, iv v4, iv v14, iv v21, iv v26, rv b30, iv v92, iv v134, iv v141, iv v148, iv (3 : Int32), iv v203, .unset, iv (3 : Int32), iv (own_b (((v134 &&& (192 : Int32)) = (128 : Int32)) ∧ ((v141 &&& (192 : Int32)) = (128 : Int32)))), iv v329, iv v336, iv v343, iv v388, iv v436, iv (2048 : Int32), iv (65535 : Int32), .unset] [(.int (65535 : Int32)), (.int v388)])) (fun target kt => ?_) ?_
          · show Steps p.tables e below (Tg433.setTop (mkF m 487 #[iv p0, iv p1, iv p2, iv p3, iv p4, iv p5, iv v4, iv v14, iv v21, iv v26, rv b30, iv v92, iv v134, iv v141, iv v148, iv (3 : Int32), iv v203, .unset, iv (3 : Int32), iv (own_b (((v134 &&& (192 : Int32)) = (128 : Int32)) ∧ ((v141 &&& (192 : Int32)) = (128 : Int32)))), iv v329, iv v336, iv v343, iv v388, iv v436, iv (2048 : Int32), iv (65535 : Int32), .unset] [(.int (2048 : Int32)), (.int v436)])) target
            refine XS.icmpNo Xg433.here hx rfl (hb hby at_487) rfl (flt c487).1 ?_
            refine XS.iload Xg433.here hx rfl (hb hby at_490) rfl ?_
            refine XS.iload Xg433.here hx rfl (hb hby at_492) rfl ?_
            exact kt
          by_cases c494 : (65535 : Int32) < v388
          · refine own_st (B := Tg433.setTop (mkF m 522 #[iv p0, iv p1, iv p2, iv p3, iv p4, iv p5, iv v4, iv v14, iv v21, iv v26, rv b30, iv v92, iv v134, iv v141, iv v148, iv (3 : Int32), iv v203, .unset, iv (3 : Int32), iv (own_b (((v134 &&& (192 : Int32)) = (128 : Int32)) ∧ ((v141 &&& (192 : Int32)) = (128 : Int32)))), iv v329, iv v336, iv v343, iv v388, iv v436, iv (2048 : Int32), iv (65535 : Int32), .unset] [(.int (0 : Int32))])) (fun target kt => ?_) ?_
            · show Steps p.tables e below (Tg433.setTop (mkF m 494 #[iv p0, iv p1, iv p2, iv p3, iv p4, iv p5, iv v4, iv v14, iv v21, iv v26, rv b30, iv v92, iv v134, iv v141, iv v148, iv (3 : Int32), iv v203, .unset, iv (3 : Int32), iv (own_b (((v134 &&& (192 : Int32)) = (128 : Int32)) ∧ ((v141 &&& (192 : Int32)) = (128 : Int32)))), iv v329, iv v336, iv v343, iv v388, iv v436, iv (2048 : Int32), iv (65535 : Int32), .unset] [(.int (65535 : Int32)), (.int v388)])) target
              refine XS.icmpYes Xg433.here hx rfl (pc0 := 494) (pc' := 521) rfl (hb hby at_494) rfl (tlt c494).2.2.1 (by decide) (by decide) ?_
              refine XS.iconst Xg433.here hx rfl (hb hby at_521) ?_
              exact kt
            exact ⟨_, ⟨(0 : Int32), rfl, (own_b0 (fun w => (fun w => w.1 c494) w.2)).symm⟩, fun _ k => k⟩
          · refine own_st (B := Tg433.setTop (mkF m 507 #[iv p0, iv p1, iv p2, iv p3, iv p4, iv p5, iv v4, iv v14, iv v21, iv v26, rv b30, iv v92, iv v134, iv v141, iv v148, iv (3 : Int32), iv v203, .unset, iv (3 : Int32), iv (own_b (((v134 &&& (192 : Int32)) = (128 : Int32)) ∧ ((v141 &&& (192 : Int32)) = (128 : Int32)))), iv v329, iv v336, iv v343, iv v388, iv v436, iv (2048 : Int32), iv (65535 : Int32), .unset] [(.int (55296 : Int32)), (.int v388)])) (fun target kt => ?_) ?_
            · show Steps p.tables e below (Tg433.setTop (mkF m 494 #[iv p0, iv p1, iv p2, iv p3, iv p4, iv p5, iv v4, iv v14, iv v21, iv v26, rv b30, iv v92, iv v134, iv v141, iv v148, iv (3 : Int32), iv v203, .unset, iv (3 : Int32), iv (own_b (((v134 &&& (192 : Int32)) = (128 : Int32)) ∧ ((v141 &&& (192 : Int32)) = (128 : Int32)))), iv v329, iv v336, iv v343, iv v388, iv v436, iv (2048 : Int32), iv (65535 : Int32), .unset] [(.int (65535 : Int32)), (.int v388)])) target
              refine XS.icmpNo Xg433.here hx rfl (hb hby at_494) rfl (flt c494).2.2.1 ?_
              refine XS.iload Xg433.here hx rfl (hb hby at_497) rfl ?_
              refine XS.iconst Xg433.here hx rfl (hb hby at_499) ?_
              refine XS.icmpNo Xg433.here hx rfl (hb hby at_500) rfl (teq (by decide : (3 : Int32) = (3 : Int32))).2 ?_
              refine XS.iload Xg433.here hx rfl (hb hby at_503) rfl ?_
              refine Xg433.ldcInt hx hown (mvT hZ (hw _ (List.mem_of_getElem? (i := 14) rfl))) (g := (mkF m 505 #[iv p0, iv p1, iv p2, iv p3, iv p4, iv p5, iv v4, iv v14, iv v21, iv v26, rv b30, iv v92, iv v134, iv v141, iv v148, iv (3 : Int32), iv v203, .unset, iv (3 : Int32), iv (own_b (((v134 &&& (192 : Int32)) = (128 : Int32)) ∧ ((v141 &&& (192 : Int32)) = (128 : Int32)))), iv v329, iv v336, iv v343, iv v388, iv v436, iv (2048 : Int32), iv (65535 : Int32), .unset] [(.int v388)])) rfl (hb hby at_505) _ ?_
              exact kt
            by_cases c507 : v388 < (55296 : Int32)
            · refine own_st (B := Tg433.setTop (mkF m 522 #[iv p0, iv p1, iv p2, iv p3, iv p4, iv p5, iv v4, iv v14, iv v21, iv v26, rv b30, iv v92, iv v134, iv v141, iv v148, iv (3 : Int32), iv v203, .unset, iv (3 : Int32), iv (own_b (((v134 &&& (192 : Int32)) = (128 : Int32)) ∧ ((v141 &&& (192 : Int32)) = (128 : Int32)))), iv v329, iv v336, iv v343, iv v388, iv v436, iv (2048 : Int32), iv (65535 : Int32), .unset] [(.int (1 : Int32))])) (fun target kt => ?_) ?_
              · show Steps p.tables e below (Tg433.setTop (mkF m 507 #[iv p0, iv p1, iv p2, iv p3, iv p4, iv p5, iv v4, iv v14, iv v21, iv v26, rv b30, iv v92, iv v134, iv v141, iv v148, iv (3 : Int32), iv v203, .unset, iv (3 : Int32), iv (own_b (((v134 &&& (192 : Int32)) = (128 : Int32)) ∧ ((v141 &&& (192 : Int32)) = (128 : Int32)))), iv v329, iv v336, iv v343, iv v388, iv v436, iv (2048 : Int32), iv (65535 : Int32), .unset] [(.int (55296 : Int32)), (.int v388)])) target
                refine XS.icmpYes Xg433.here hx rfl (pc0 := 507) (pc' := 517) rfl (hb hby at_507) rfl (tlt c507).1 (by decide) (by decide) ?_
                refine XS.iconst Xg433.here hx rfl (hb hby at_517) ?_
                refine XS.goto Xg433.here hx rfl (pc0 := 518) (pc' := 522) rfl (hb hby at_518) (by decide) (by decide) ?_
                exact kt
              exact ⟨_, ⟨(1 : Int32), rfl, (own_b1 ⟨c487, ⟨c494, (Or.inl c507)⟩⟩).symm⟩, fun _ k => k⟩
            · refine own_st (B := Tg433.setTop (mkF m 514 #[iv p0, iv p1, iv p2, iv p3, iv p4, iv p5, iv v4, iv v14, iv v21, iv v26, rv b30, iv v92, iv v134, iv v141, iv v148, iv (3 : Int32), iv v203, .unset, iv (3 : Int32), iv (own_b (((v134 &&& (192 : Int32)) = (128 : Int32)) ∧ ((v141 &&& (192 : Int32)) = (128 : Int32)))), iv v329, iv v336, iv v343, iv v388, iv v436, iv (2048 : Int32), iv (65535 : Int32), .unset] [(.int (57343 : Int32)), (.int v436)])) (fun target kt => ?_) ?_
              · show Steps p.tables e below (Tg433.setTop (mkF m 507 #[iv p0, iv p1, iv p2, iv p3, iv p4, iv p5, iv v4, iv v14, iv v21, iv v26, rv b30, iv v92, iv v134, iv v141, iv v148, iv (3 : Int32), iv v203, .unset, iv (3 : Int32), iv (own_b (((v134 &&& (192 : Int32)) = (128 : Int32)) ∧ ((v141 &&& (192 : Int32)) = (128 : Int32)))), iv v329, iv v336, iv v343, iv v388, iv v436, iv (2048 : Int32), iv (65535 : Int32), .unset] [(.int (55296 : Int32)), (.int v388)])) target
                refine XS.icmpNo Xg433.here hx rfl (hb hby at_507) rfl (flt c507).1 ?_
                refine XS.iload Xg433.here hx rfl (hb hby at_510) rfl ?_
                refine Xg433.ldcInt hx hown (mvT hZ (hw _ (List.mem_of_getElem? (i := 17) rfl))) (g := (mkF m 512 #[iv p0, iv p1, iv p2, iv p3, iv p4, iv p5, iv v4, iv v14, iv v21, iv v26, rv b30, iv v92, iv v134, iv v141, iv v148, iv (3 : Int32), iv v203, .unset, iv (3 : Int32), iv (own_b (((v134 &&& (192 : Int32)) = (128 : Int32)) ∧ ((v141 &&& (192 : Int32)) = (128 : Int32)))), iv v329, iv v336, iv v343, iv v388, iv v436, iv (2048 : Int32), iv (65535 : Int32), .unset] [(.int v436)])) rfl (hb hby at_512) _ ?_
                exact kt
              by_cases c514 : (57343 : Int32) < v436
              · refine own_st (B := Tg433.setTop (mkF m 522 #[iv p0, iv p1, iv p2, iv p3, iv p4, iv p5, iv v4, iv v14, iv v21, iv v26, rv b30, iv v92, iv v134, iv v141, iv v148, iv (3 : Int32), iv v203, .unset, iv (3 : Int32), iv (own_b (((v134 &&& (192 : Int32)) = (128 : Int32)) ∧ ((v141 &&& (192 : Int32)) = (128 : Int32)))), iv v329, iv v336, iv v343, iv v388, iv v436, iv (2048 : Int32), iv (65535 : Int32), .unset] [(.int (1 : Int32))])) (fun target kt => ?_) ?_
                · show Steps p.tables e below (Tg433.setTop (mkF m 514 #[iv p0, iv p1, iv p2, iv p3, iv p4, iv p5, iv v4, iv v14, iv v21, iv v26, rv b30, iv v92, iv v134, iv v141, iv v148, iv (3 : Int32), iv v203, .unset, iv (3 : Int32), iv (own_b (((v134 &&& (192 : Int32)) = (128 : Int32)) ∧ ((v141 &&& (192 : Int32)) = (128 : Int32)))), iv v329, iv v336, iv v343, iv v388, iv v436, iv (2048 : Int32), iv (65535 : Int32), .unset] [(.int (57343 : Int32)), (.int v436)])) target
                  refine XS.icmpNo Xg433.here hx rfl (hb hby at_514) rfl (tlt c514).2.2.2 ?_
                  refine XS.iconst Xg433.here hx rfl (hb hby at_517) ?_
                  refine XS.goto Xg433.here hx rfl (pc0 := 518) (pc' := 522) rfl (hb hby at_518) (by decide) (by decide) ?_
                  exact kt
                exact ⟨_, ⟨(1 : Int32), rfl, (own_b1 ⟨c487, ⟨c494, (Or.inr c514)⟩⟩).symm⟩, fun _ k => k⟩
              · refine own_st (B := Tg433.setTop (mkF m 522 #[iv p0, iv p1, iv p2, iv p3, iv p4, iv p5, iv v4, iv v14, iv v21, iv v26, rv b30, iv v92, iv v134, iv v141, iv v148, iv (3 : Int32), iv v203, .unset, iv (3 : Int32), iv (own_b (((v134 &&& (192 : Int32)) = (128 : Int32)) ∧ ((v141 &&& (192 : Int32)) = (128 : Int32)))), iv v329, iv v336, iv v343, iv v388, iv v436, iv (2048 : Int32), iv (65535 : Int32), .unset] [(.int (0 : Int32))])) (fun target kt => ?_) ?_
                · show Steps p.tables e below (Tg433.setTop (mkF m 514 #[iv p0, iv p1, iv p2, iv p3, iv p4, iv p5, iv v4, iv v14, iv v21, iv v26, rv b30, iv v92, iv v134, iv v141, iv v148, iv (3 : Int32), iv v203, .unset, iv (3 : Int32), iv (own_b (((v134 &&& (192 : Int32)) = (128 : Int32)) ∧ ((v141 &&& (192 : Int32)) = (128 : Int32)))), iv v329, iv v336, iv v343, iv v388, iv v436, iv (2048 : Int32), iv (65535 : Int32), .unset] [(.int (57343 : Int32)), (.int v436)])) target
                  refine XS.icmpYes Xg433.here hx rfl (pc0 := 514) (pc' := 521) rfl (hb hby at_514) rfl (flt c514).2.2.2 (by decide) (by decide) ?_
                  refine XS.iconst Xg433.here hx rfl (hb hby at_521) ?_
                  exact kt
                exact ⟨_, ⟨(0 : Int32), rfl, (own_b0 (fun w => (fun w => (fun w => w.elim c507 c514) w.2) w.2)).symm⟩, fun _ k => k⟩
      refine own_st st_M522 ?_
      refine own_st (B := Tg433.setTop (mkF m 526 #[iv p0, iv p1, iv p2, iv p3, iv p4, iv p5, iv v4, iv v14, iv v21, iv v26, rv b30, iv v92, iv v134, iv v141, iv v148, iv (3 : Int32), iv v203, .unset, iv (3 : Int32), iv (own_b (((v134 &&& (192 : Int32)) = (128 : Int32)) ∧ ((v141 &&& (192 : Int32)) = (128 : Int32)))), iv v329, iv v336, iv v343, iv v388, iv v436, iv (2048 : Int32), iv (65535 : Int32), iv (own_b (¬ (v436 < (2048 : Int32)) ∧ ((¬ ((65535 : Int32) < v388) ∧ (((v388 < (55296 : Int32)) ∨ ((57343 : Int32) < v436)))))))] [(.int (own_b (((v134 &&& (192 : Int32)) = (128 : Int32)) ∧ ((v141 &&& (192 : Int32)) = (128 : Int32)))))])) (fun target kt => ?_) ?_
      · show Steps p.tables e below (Tg433.setTop (mkF m 522 #[iv p0, iv p1, iv p2, iv p3, iv p4, iv p5, iv v4, iv v14, iv v21, iv v26, rv b30, iv v92, iv v134, iv v141, iv v148, iv (3 : Int32), iv v203, .unset, iv (3 : Int32), iv (own_b (((v134 &&& (192 : Int32)) = (128 : Int32)) ∧ ((v141 &&& (192 : Int32)) = (128 : Int32)))), iv v329, iv v336, iv v343, iv v388, iv v436, iv (2048 : Int32), iv (65535 : Int32), .unset] [(.int (own_b (¬ (v436 < (2048 : Int32)) ∧ ((¬ ((65535 : Int32) < v388) ∧ (((v388 < (55296 : Int32)) ∨ ((57343 : Int32) < v436))))))))])) target
        refine XS.istore Xg433.here hx rfl (hb hby at_522) rfl (l' := #[iv p0, iv p1, iv p2, iv p3, iv p4, iv p5, iv v4, iv v14, iv v21, iv v26, rv b30, iv v92, iv v134, iv v141, iv v148, iv (3 : Int32), iv v203, .unset, iv (3 : Int32), iv (own_b (((v134 &&& (192 : Int32)) = (128 : Int32)) ∧ ((v141 &&& (192 : Int32)) = (128 : Int32)))), iv v329, iv v336, iv v343, iv v388, iv v436, iv (2048 : Int32), iv (65535 : Int32), iv (own_b (¬ (v436 < (2048 : Int32)) ∧ ((¬ ((65535 : Int32) < v388) ∧ (((v388 < (55296 : Int32)) ∨ ((57343 : Int32) < v436)))))))]) rfl ?_
        refine XS.iload Xg433.here hx rfl (hb hby at_524) rfl ?_
        exact kt
      obtain ⟨_, ⟨j584_l17, rfl, hj584_l17⟩, st_M584⟩ : own_Lead p.tables e below (Tg433.setTop (mkF m 526 #[iv p0, iv p1, iv p2, iv p3, iv p4, iv p5, iv v4, iv v14, iv v21, iv v26, rv b30, iv v92, iv v134, iv v141, iv v148, iv (3 : Int32), iv v203, .unset, iv (3 : Int32), iv (own_b (((v134 &&& (192 : Int32)) = (128 : Int32)) ∧ ((v141 &&& (192 : Int32)) = (128 : Int32)))), iv v329, iv v336, iv v343, iv v388, iv v436, iv (2048 : Int32), iv (65535 : Int32), iv (own_b (¬ (v436 < (2048 : Int32)) ∧ ((¬ ((65535 : Int32) < v388) ∧ (((v388 < (55296 : Int32)) ∨ ((57343 : Int32) < v436)))))))] [(.int (own_b (((v134 &&& (192 : Int32)) = (128 : Int32)) ∧ ((v141 &&& (192 : Int32)) = (128 : Int32)))))])) (fun B => ∃ (j584_l17 : Int32), B = Tg433.setTop (mkF m 584 #[iv p0, iv p1, iv p2, iv p3, iv p4, iv p5, iv v4, iv v14, iv v21, iv v26, rv b30, iv v92, iv v134, iv v141, iv v148, iv (3 : Int32), iv v203, iv j584_l17, iv (3 : Int32), iv (own_b (((v134 &&& (192 : Int32)) = (128 : Int32)) ∧ ((v141 &&& (192 : Int32)) = (128 : Int32)))), iv v329, iv v336, iv v343, iv v388, iv v436, iv (2048 : Int32), iv (65535 : Int32), iv (own_b (¬ (v436 < (2048 : Int32)) ∧ ((¬ ((65535 : Int32) < v388) ∧ (((v388 < (55296 : Int32)) ∨ ((57343 : Int32) < v436)))))))] []) ∧ j584_l17 = (if ((v134 &&& (192 : Int32)) = (128 : Int32)) ∧ ((v141 &&& (192 : Int32)) = (128 : Int32)) then (if ¬ (v436 < (2048 : Int32)) ∧ ((¬ ((65535 : Int32) < v388) ∧ (((v388 < (55296 : Int32)) ∨ ((57343 : Int32) < v436))))) then (if v388 = (65534 : Int32) then (-2 : Int32) else (if v388 = (65535 : Int32) then (-2 : Int32) else (3 : Int32))) else (-1 : Int32)) else (-1 : Int32))) := by
        by_cases c526 : ((v134 &&& (192 : Int32)) = (128 : Int32)) ∧ ((v141 &&& (192 : Int32)) = (128 : Int32))
        · refine own_st (B := Tg433.setTop (mkF m 531 #[iv p0, iv p1, iv p2, iv p3, iv p4, iv p5, iv v4, iv v14, iv v21, iv v26, rv b30, iv v92, iv v134, iv v141, iv v148, iv (3 : Int32), iv v203, .unset, iv (3 : Int32), iv (own_b (((v134 &&& (192 : Int32)) = (128 : Int32)) ∧ ((v141 &&& (192 : Int32)) = (128 : Int32)))), iv v329, iv v336, iv v343, iv v388, iv v436, iv (2048 : Int32), iv (65535 : Int32), iv (own_b (¬ (v436 < (2048 : Int32)) ∧ ((¬ ((65535 : Int32) < v388) ∧ (((v388 < (55296 : Int32)) ∨ ((57343 : Int32) < v436)))))))] [(.int (own_b (¬ (v436 < (2048 : Int32)) ∧ ((¬ ((65535 : Int32) < v388) ∧ (((v388 < (55296 : Int32)) ∨ ((57343 : Int32) < v436))))))))])) (fun target kt => ?_) ?_
          · show Steps p.tables e below (Tg433.setTop (mkF m 526 #[iv p0, iv p1, iv p2, iv p3, iv p4, iv p5, iv v4, iv v14, iv v21, iv v26, rv b30, iv v92, iv v134, iv v141, iv v148, iv (3 : Int32), iv v203, .unset, iv (3 : Int32), iv (own_b (((v134 &&& (192 : Int32)) = (128 : Int32)) ∧ ((v141 &&& (192 : Int32)) = (128 : Int32)))), iv v329, iv v336, iv v343, iv v388, iv v436, iv (2048 : Int32), iv (65535 : Int32), iv (own_b (¬ (v436 < (2048 : Int32)) ∧ ((¬ ((65535 : Int32) < v388) ∧ (((v388 < (55296 : Int32)) ∨ ((57343 : Int32) < v436)))))))] [(.int (own_b (((v134 &&& (192 : Int32)) = (128 : Int32)) ∧ ((v141 &&& (192 : Int32)) = (128 : Int32)))))])) target
            refine XS.ifNo Xg433.here hx rfl (hb hby at_526) rfl ((if0 _ _).trans (feq (own_bn0 rfl c526)).1) ?_
            refine XS.iload Xg433.here hx rfl (hb hby at_529) rfl ?_
            exact kt
          by_cases c531 : ¬ (v436 < (2048 : Int32)) ∧ ((¬ ((65535 : Int32) < v388) ∧ (((v388 < (55296 : Int32)) ∨ ((57343 : Int32) < v436)))))
          · refine own_st (B := Tg433.setTop (mkF m 563 #[iv p0, iv p1, iv p2, iv p3, iv p4, iv p5, iv v4, iv v14, iv v21, iv v26, rv b30, iv v92, iv v134, iv v141, iv v148, iv (3 : Int32), iv v203, .unset, iv (3 : Int32), iv (own_b (((v134 &&& (192 : Int32)) = (128 : Int32)) ∧ ((v141 &&& (192 : Int32)) = (128 : Int32)))), iv v329, iv v336, iv v343, iv v388, iv v436, iv (2048 : Int32), iv (65535 : Int32), iv (own_b (¬ (v436 < (2048 : Int32)) ∧ ((¬ ((65535 : Int32) < v388) ∧ (((v388 < (55296 : Int32)) ∨ ((57343 : Int32) < v436)))))))] [(.int (65534 : Int32)), (.int v388)])) (fun target kt => ?_) ?_
            · show Steps p.tables e below (Tg433.setTop (mkF m 531 #[iv p0, iv p1, iv p2, iv p3, iv p4, iv p5, iv v4, iv v14, iv v21, iv v26, rv b30, iv v92, iv v134, iv v141, iv v148, iv (3 : Int32), iv v203, .unset, iv (3 : Int32), iv (own_b (((v134 &&& (192 : Int32)) = (128 : Int32)) ∧ ((v141 &&& (192 : Int32)) = (128 : Int32)))), iv v329, iv v336, iv v343, iv v388, iv v436, iv (2048 : Int32), iv (65535 : Int32), iv (own_b (¬ (v436 < (2048 : Int32)) ∧ ((¬ ((65535 : Int32) < v388) ∧ (((v388 < (55296 : Int32)) ∨ ((57343 : Int32) < v436)))))))] [(.int (own_b (¬ (v436 < (2048 : Int32)) ∧ ((¬ ((65535 : Int32) < v388) ∧ (((v388 < (55296 : Int32)) ∨ ((57343 : Int32) < v436))))))))])) target
              refine XS.ifYes Xg433.here hx rfl (pc0 := 531) (pc' := 540) rfl (hb hby at_531) rfl ((if0 _ _).trans (feq (own_bn0 rfl c531)).2) (by decide) (by decide) ?_
              refine XS.iload Xg433.here hx rfl (hb hby at_540) rfl ?_
              refine XS.iload Xg433.here hx rfl (hb hby at_542) rfl ?_
              refine XS.icmpYes Xg433.here hx rfl (pc0 := 544) (pc' := 553) rfl (hb hby at_544) rfl (flt (by decide : ¬ ((3 : Int32) < (3 : Int32)))).2.1 (by decide) (by decide) ?_
              refine XS.iload Xg433.here hx rfl (hb hby at_553) rfl ?_
              refine XS.iconst Xg433.here hx rfl (hb hby at_555) ?_
              refine XS.icmpNo Xg433.here hx rfl (hb hby at_556) rfl (teq (by decide : (3 : Int32) = (3 : Int32))).2 ?_
              refine XS.iload Xg433.here hx rfl (hb hby at_559) rfl ?_
              show Steps p.tables e below (Tg433.setTop (mkF m 561 #[iv p0, iv p1, iv p2, iv p3, iv p4, iv p5, iv v4, iv v14, iv v21, iv v26, rv b30, iv v92, iv v134, iv v141, iv v148, iv (3 : Int32), iv v203, .unset, iv (3 : Int32), iv (own_b (((v134 &&& (192 : Int32)) = (128 : Int32)) ∧ ((v141 &&& (192 : Int32)) = (128 : Int32)))), iv v329, iv v336, iv v343, iv v388, iv v436, iv (2048 : Int32), iv (65535 : Int32), iv (own_b (¬ (v436 < (2048 : Int32)) ∧ ((¬ ((65535 : Int32) < v388) ∧ (((v388 < (55296 : Int32)) ∨ ((57343 : Int32) < v436)))))))] [(.int v388)])) target
              refine Xg433.ldcInt hx hown (mvT hZ (hw _ (List.mem_of_getElem? (i := 18) rfl))) (g := (mkF m 561 #[iv p0, iv p1, iv p2, iv p3, iv p4, iv p5, iv v4, iv v14, iv v21, iv v26, rv b30, iv v92, iv v134, iv v141, iv v148, iv (3 : Int32), iv v203, .unset, iv (3 : Int32), iv (own_b (((v134 &&& (192 : Int32)) = (128 : Int32)) ∧ ((v141 &&& (192 : Int32)) = (128 : Int32)))), iv v329, iv v336, iv v343, iv v388, iv v436, iv (2048 : Int32), iv (65535 : Int32), iv (own_b (¬ (v436 < (2048 : Int32)) ∧ ((¬ ((65535 : Int32) < v388) ∧ (((v388 < (55296 : Int32)) ∨ ((57343 : Int32) < v436)))))))] [(.int v388)])) rfl (hb hby at_561) _ ?_
              exact kt
            by_cases c563 : v388 = (65534 : Int32)
            · refine own_st (B := Tg433.setTop (mkF m 584 #[iv p0, iv p1, iv p2, iv p3, iv p4, iv p5, iv v4, iv v14, iv v21, iv v26, rv b30, iv v92, iv v134, iv v141, iv v148, iv (3 : Int32), iv v203, iv (-2 : Int32), iv (3 : Int32), iv (own_b (((v134 &&& (192 : Int32)) = (128 : Int32)) ∧ ((v141 &&& (192 : Int32)) = (128 : Int32)))), iv v329, iv v336, iv v343, iv v388, iv v436, iv (2048 : Int32), iv (65535 : Int32), iv (own_b (¬ (v436 < (2048 : Int32)) ∧ ((¬ ((65535 : Int32) < v388) ∧ (((v388 < (55296 : Int32)) ∨ ((57343 : Int32) < v436)))))))] [])) (fun target kt => ?_) ?_
              · show Steps p.tables e below (Tg433.setTop (mkF m 563 #[iv p0, iv p1, iv p2, iv p3, iv p4, iv p5, iv v4, iv v14, iv v21, iv v26, rv b30, iv v92, iv v134, iv v141, iv v148, iv (3 : Int32), iv v203, .unset, iv (3 : Int32), iv (own_b (((v134 &&& (192 : Int32)) = (128 : Int32)) ∧ ((v141 &&& (192 : Int32)) = (128 : Int32)))), iv v329, iv v336, iv v343, iv v388, iv v436, iv (2048 : Int32), iv (65535 : Int32), iv (own_b (¬ (v436 < (2048 : Int32)) ∧ ((¬ ((65535 : Int32) < v388) ∧ (((v388 < (55296 : Int32)) ∨ ((57343 : Int32) < v436)))))))] [(.int (65534 : Int32)), (.int v388)])) target
                refine XS.icmpYes Xg433.here hx rfl (pc0 := 563) (pc' := 573) rfl (hb hby at_563) rfl (teq c563).1 (by decide) (by decide) ?_
                refine XS.bipush Xg433.here hx rfl (hb hby at_573) ?_
                refine XS.istore Xg433.here hx rfl (hb hby at_575) rfl (l' := #[iv p0, iv p1, iv p2, iv p3, iv p4, iv p5, iv v4, iv v14, iv v21, iv v26, rv b30, iv v92, iv v134, iv v141, iv v148, iv (3 : Int32), iv v203, iv (-2 : Int32), iv (3 : Int32), iv (own_b (((v134 &&& (192 : Int32)) = (128 : Int32)) ∧ ((v141 &&& (192 : Int32)) = (128 : Int32)))), iv v329, iv v336, iv v343, iv v388, iv v436, iv (2048 : Int32), iv (65535 : Int32), iv (own_b (¬ (v436 < (2048 : Int32)) ∧ ((¬ ((65535 : Int32) < v388) ∧ (((v388 < (55296 : Int32)) ∨ ((57343 : Int32) < v436)))))))]) rfl ?_
                refine XS.goto Xg433.here hx rfl (pc0 := 577) (pc' := 584) rfl (hb hby at_577) (by decide) (by decide) ?_
                exact kt
              exact ⟨_, ⟨(-2 : Int32), rfl, (Eq.trans (Eq.trans (if_pos c563).symm (if_pos c531).symm) (if_pos c526).symm)⟩, fun _ k => k⟩
            · refine own_st (B := Tg433.setTop (mkF m 570 #[iv p0, iv p1, iv p2, iv p3, iv p4, iv p5, iv v4, iv v14, iv v21, iv v26, rv b30, iv v92, iv v134, iv v141, iv v148, iv (3 : Int32), iv v203, .unset, iv (3 : Int32), iv (own_b (((v134 &&& (192 : Int32)) = (128 : Int32)) ∧ ((v141 &&& (192 : Int32)) = (128 : Int32)))), iv v329, iv v336, iv v343, iv v388, iv v436, iv (2048 : Int32), iv (65535 : Int32), iv (own_b (¬ (v436 < (2048 : Int32)) ∧ ((¬ ((65535 : Int32) < v388) ∧ (((v388 < (55296 : Int32)) ∨ ((57343 : Int32) < v436)))))))] [(.int (65535 : Int32)), (.int v388)])) (fun target kt => ?_) ?_
              · show Steps p.tables e below (Tg433.setTop (mkF m 563 #[iv p0, iv p1, iv p2, iv p3, iv p4, iv p5, iv v4, iv v14, iv v21, iv v26, rv b30, iv v92, iv v134, iv v141, iv v148, iv (3 : Int32), iv v203, .unset, iv (3 : Int32), iv (own_b (((v134 &&& (192 : Int32)) = (128 : Int32)) ∧ ((v141 &&& (192 : Int32)) = (128 : Int32)))), iv v329, iv v336, iv v343, iv v388, iv v436, iv (2048 : Int32), iv (65535 : Int32), iv (own_b (¬ (v436 < (2048 : Int32)) ∧ ((¬ ((65535 : Int32) < v388) ∧ (((v388 < (55296 : Int32)) ∨ ((57343 : Int32) < v436)))))))] [(.int (65534 : Int32)), (.int v388)])) target
                refine XS.icmpNo Xg433.here hx rfl (hb hby at_563) rfl (feq c563).1 ?_
                refine XS.iload Xg433.here hx rfl (hb hby at_566) rfl ?_
                refine Xg433.ldcInt hx hown (mvT hZ (hw _ (List.mem_of_getElem? (i := 13) rfl))) (g := (mkF m 568 #[iv p0, iv p1, iv p2, iv p3, iv p4, iv p5, iv v4, iv v14, iv v21, iv v26, rv b30, iv v92, iv v134, iv v141, iv v148, iv (3 : Int32), iv v203, .unset, iv (3 : Int32), iv (own_b (((v134 &&& (192 : Int32)) = (128 : Int32)) ∧ ((v141 &&& (192 : Int32)) = (128 : Int32)))), iv v329, iv v336, iv v343, iv v388, iv v436, iv (2048 : Int32), iv (65535 : Int32), iv (own_b (¬ (v436 < (2048 : Int32)) ∧ ((¬ ((65535 : Int32) < v388) ∧ (((v388 < (55296 : Int32)) ∨ ((57343 : Int32) < v436)))))))] [(.int v388)])) rfl (hb hby at_568) _ ?_
                exact kt
              by_cases c570 : v388 = (65535 : Int32)
              · refine own_st (B := Tg433.setTop (mkF m 584 #[iv p0, iv p1, iv p2, iv p3, iv p4, iv p5, iv v4, iv v14, iv v21, iv v26, rv b30, iv v92, iv v134, iv v141, iv v148, iv (3 : Int32), iv v203, iv (-2 : Int32), iv (3 : Int32), iv (own_b (((v134 &&& (192 : Int32)) = (128 : Int32)) ∧ ((v141 &&& (192 : Int32)) = (128 : Int32)))), iv v329, iv v336, iv v343, iv v388, iv v436, iv (2048 : Int32), iv (65535 : Int32), iv (own_b (¬ (v436 < (2048 : Int32)) ∧ ((¬ ((65535 : Int32) < v388) ∧ (((v388 < (55296 : Int32)) ∨ ((57343 : Int32) < v436)))))))] [])) (fun target kt => ?_) ?_
                · show Steps p.tables e below (Tg433.setTop (mkF m 570 #[iv p0, iv p1, iv p2, iv p3, iv p4, iv p5, iv v4, iv v14, iv v21, iv v26, rv b30, iv v92, iv v134, iv v141, iv v148, iv (3 : Int32), iv v203, .unset, iv (3 : Int32), iv (own_b (((v134 &&& (192 : Int32)) = (128 : Int32)) ∧ ((v141 &&& (192 : Int32)) = (128 : Int32)))), iv v329, iv v336, iv v343, iv v388, iv v436, iv (2048 : Int32), iv (65535 : Int32), iv (own_b (¬ (v436 < (2048 : Int32)) ∧ ((¬ ((65535 : Int32) < v388) ∧ (((v388 < (55296 : Int32)) ∨ ((57343 : Int32) < v436)))))))] [(.int (65535 : Int32)), (.int v388)])) target
                  refine XS.icmpNo Xg433.here hx rfl (hb hby at_570) rfl (teq c570).2 ?_
                  refine XS.bipush Xg433.here hx rfl (hb hby at_573) ?_
                  refine XS.istore Xg433.here hx rfl (hb hby at_575) rfl (l' := #[iv p0, iv p1, iv p2, iv p3, iv p4, iv p5, iv v4, iv v14, iv v21, iv v26, rv b30, iv v92, iv v134, iv v141, iv v148, iv (3 : Int32), iv v203, iv (-2 : Int32), iv (3 : Int32), iv (own_b (((v134 &&& (192 : Int32)) = (128 : Int32)) ∧ ((v141 &&& (192 : Int32)) = (128 : Int32)))), iv v329, iv v336, iv v343, iv v388, iv v436, iv (2048 : Int32), iv (65535 : Int32), iv (own_b (¬ (v436 < (2048 : Int32)) ∧ ((¬ ((65535 : Int32) < v388) ∧ (((v388 < (55296 : Int32)) ∨ ((57343 : Int32) < v436)))))))]) rfl ?_
                  refine XS.goto Xg433.here hx rfl (pc0 := 577) (pc' := 584) rfl (hb hby at_577) (by decide) (by decide) ?_
                  exact kt
                exact ⟨_, ⟨(-2 : Int32), rfl, (Eq.trans (Eq.trans (Eq.trans (if_pos c570).symm (if_neg c563).symm) (if_pos c531).symm) (if_pos c526).symm)⟩, fun _ k => k⟩
              · refine own_st (B := Tg433.setTop (mkF m 584 #[iv p0, iv p1, iv p2, iv p3, iv p4, iv p5, iv v4, iv v14, iv v21, iv v26, rv b30, iv v92, iv v134, iv v141, iv v148, iv (3 : Int32), iv v203, iv (3 : Int32), iv (3 : Int32), iv (own_b (((v134 &&& (192 : Int32)) = (128 : Int32)) ∧ ((v141 &&& (192 : Int32)) = (128 : Int32)))), iv v329, iv v336, iv v343, iv v388, iv v436, iv (2048 : Int32), iv (65535 : Int32), iv (own_b (¬ (v436 < (2048 : Int32)) ∧ ((¬ ((65535 : Int32) < v388) ∧ (((v388 < (55296 : Int32)) ∨ ((57343 : Int32) < v436)))))))] [])) (fun target kt => ?_) ?_
                · show Steps p.tables e below (Tg433.setTop (mkF m 570 #[iv p0, iv p1, iv p2, iv p3, iv p4, iv p5, iv v4, iv v14, iv v21, iv v26, rv b30, iv v92, iv v134, iv v141, iv v148, iv (3 : Int32), iv v203, .unset, iv (3 : Int32), iv (own_b (((v134 &&& (192 : Int32)) = (128 : Int32)) ∧ ((v141 &&& (192 : Int32)) = (128 : Int32)))), iv v329, iv v336, iv v343, iv v388, iv v436, iv (2048 : Int32), iv (65535 : Int32), iv (own_b (¬ (v436 < (2048 : Int32)) ∧ ((¬ ((65535 : Int32) < v388) ∧ (((v388 < (55296 : Int32)) ∨ ((57343 : Int32) < v436)))))))] [(.int (65535 : Int32)), (.int v388)])) target
                  refine XS.icmpYes Xg433.here hx rfl (pc0 := 570) (pc' := 580) rfl (hb hby at_570) rfl (feq c570).2 (by decide) (by decide) ?_
                  refine XS.iload Xg433.here hx rfl (hb hby at_580) rfl ?_
                  refine XS.istore Xg433.here hx rfl (hb hby at_582) rfl (l' := #[iv p0, iv p1, iv p2, iv p3, iv p4, iv p5, iv v4, iv v14, iv v21, iv v26, rv b30, iv v92, iv v134, iv v141, iv v148, iv (3 : Int32), iv v203, iv (3 : Int32), iv (3 : Int32), iv (own_b (((v134 &&& (192 : Int32)) = (128 : Int32)) ∧ ((v141 &&& (192 : Int32)) = (128 : Int32)))), iv v329, iv v336, iv v343, iv v388, iv v436, iv (2048 : Int32), iv (65535 : Int32), iv (own_b (¬ (v436 < (2048 : Int32)) ∧ ((¬ ((65535 : Int32) < v388) ∧ (((v388 < (55296 : Int32)) ∨ ((57343 : Int32) < v436)))))))]) rfl ?_
                  exact kt
                exact ⟨_, ⟨(3 : Int32), rfl, (Eq.trans (Eq.trans (Eq.trans (if_neg c570).symm (if_neg c563).symm) (if_pos c531).symm) (if_pos c526).symm)⟩, fun _ k => k⟩
          · refine own_st (B := Tg433.setTop (mkF m 584 #[iv p0, iv p1, iv p2, iv p3, iv p4, iv p5, iv v4, iv v14, iv v21, iv v26, rv b30, iv v92, iv v134, iv v141, iv v148, iv (3 : Int32), iv v203, iv (-1 : Int32), iv (3 : Int32), iv (own_b (((v134 &&& (192 : Int32)) = (128 : Int32)) ∧ ((v141 &&& (192 : Int32)) = (128 : Int32)))), iv v329, iv v336, iv v343, iv v388, iv v436, iv (2048 : Int32), iv (65535 : Int32), iv (own_b (¬ (v436 < (2048 : Int32)) ∧ ((¬ ((65535 : Int32) < v388) ∧ (((v388 < (55296 : Int32)) ∨ ((57343 : Int32) < v436)))))))] [])) (fun target kt => ?_) ?_
            · show Steps p.tables e below (Tg433.setTop (mkF m 531 #[iv p0, iv p1, iv p2, iv p3, iv p4, iv p5, iv v4, iv v14, iv v21, iv v26, rv b30, iv v92, iv v134, iv v141, iv v148, iv (3 : Int32), iv v203, .unset, iv (3 : Int32), iv (own_b (((v134 &&& (192 : Int32)) = (128 : Int32)) ∧ ((v141 &&& (192 : Int32)) = (128 : Int32)))), iv v329, iv v336, iv v343, iv v388, iv v436, iv (2048 : Int32), iv (65535 : Int32), iv (own_b (¬ (v436 < (2048 : Int32)) ∧ ((¬ ((65535 : Int32) < v388) ∧ (((v388 < (55296 : Int32)) ∨ ((57343 : Int32) < v436)))))))] [(.int (own_b (¬ (v436 < (2048 : Int32)) ∧ ((¬ ((65535 : Int32) < v388) ∧ (((v388 < (55296 : Int32)) ∨ ((57343 : Int32) < v436))))))))])) target
              refine XS.ifNo Xg433.here hx rfl (hb hby at_531) rfl ((if0 _ _).trans (teq (own_b00 rfl c531)).2) ?_
              refine XS.iconst Xg433.here hx rfl (hb hby at_534) ?_
              refine XS.istore Xg433.here hx rfl (hb hby at_535) rfl (l' := #[iv p0, iv p1, iv p2, iv p3, iv p4, iv p5, iv v4, iv v14, iv v21, iv v26, rv b30, iv v92, iv v134, iv v141, iv v148, iv (3 : Int32), iv v203, iv (-1 : Int32), iv (3 : Int32), iv (own_b (((v134 &&& (192 : Int32)) = (128 : Int32)) ∧ ((v141 &&& (192 : Int32)) = (128 : Int32)))), iv v329, iv v336, iv v343, iv v388, iv v436, iv (2048 : Int32), iv (65535 : Int32), iv (own_b (¬ (v436 < (2048 : Int32)) ∧ ((¬ ((65535 : Int32) < v388) ∧ (((v388 < (55296 : Int32)) ∨ ((57343 : Int32) < v436)))))))]) rfl ?_
              refine XS.goto Xg433.here hx rfl (pc0 := 537) (pc' := 584) rfl (hb hby at_537) (by decide) (by decide) ?_
              exact kt
            exact ⟨_, ⟨(-1 : Int32), rfl, (Eq.trans (if_neg c531).symm (if_pos c526).symm)⟩, fun _ k => k⟩
        · refine own_st (B := Tg433.setTop (mkF m 584 #[iv p0, iv p1, iv p2, iv p3, iv p4, iv p5, iv v4, iv v14, iv v21, iv v26, rv b30, iv v92, iv v134, iv v141, iv v148, iv (3 : Int32), iv v203, iv (-1 : Int32), iv (3 : Int32), iv (own_b (((v134 &&& (192 : Int32)) = (128 : Int32)) ∧ ((v141 &&& (192 : Int32)) = (128 : Int32)))), iv v329, iv v336, iv v343, iv v388, iv v436, iv (2048 : Int32), iv (65535 : Int32), iv (own_b (¬ (v436 < (2048 : Int32)) ∧ ((¬ ((65535 : Int32) < v388) ∧ (((v388 < (55296 : Int32)) ∨ ((57343 : Int32) < v436)))))))] [])) (fun target kt => ?_) ?_
          · show Steps p.tables e below (Tg433.setTop (mkF m 526 #[iv p0, iv p1, iv p2, iv p3, iv p4, iv p5, iv v4, iv v14, iv v21, iv v26, rv b30, iv v92, iv v134, iv v141, iv v148, iv (3 : Int32), iv v203, .unset, iv (3 : Int32), iv (own_b (((v134 &&& (192 : Int32)) = (128 : Int32)) ∧ ((v141 &&& (192 : Int32)) = (128 : Int32)))), iv v329, iv v336, iv v343, iv v388, iv v436, iv (2048 : Int32), iv (65535 : Int32), iv (own_b (¬ (v436 < (2048 : Int32)) ∧ ((¬ ((65535 : Int32) < v388) ∧ (((v388 < (55296 : Int32)) ∨ ((57343 : Int32) < v436)))))))] [(.int (own_b (((v134 &&& (192 : Int32)) = (128 : Int32)) ∧ ((v141 &&& (192 : Int32)) = (128 : Int32)))))])) target
            refine XS.ifYes Xg433.here hx rfl (pc0 := 526) (pc' := 534) rfl (hb hby at_526) rfl ((if0 _ _).trans (teq (own_b00 rfl c526)).1) (by decide) (by decide) ?_
            refine XS.iconst Xg433.here hx rfl (hb hby at_534) ?_
            refine XS.istore Xg433.here hx rfl (hb hby at_535) rfl (l' := #[iv p0, iv p1, iv p2, iv p3, iv p4, iv p5, iv v4, iv v14, iv v21, iv v26, rv b30, iv v92, iv v134, iv v141, iv v148, iv (3 : Int32), iv v203, iv (-1 : Int32), iv (3 : Int32), iv (own_b (((v134 &&& (192 : Int32)) = (128 : Int32)) ∧ ((v141 &&& (192 : Int32)) = (128 : Int32)))), iv v329, iv v336, iv v343, iv v388, iv v436, iv (2048 : Int32), iv (65535 : Int32), iv (own_b (¬ (v436 < (2048 : Int32)) ∧ ((¬ ((65535 : Int32) < v388) ∧ (((v388 < (55296 : Int32)) ∨ ((57343 : Int32) < v436)))))))]) rfl ?_
            refine XS.goto Xg433.here hx rfl (pc0 := 537) (pc' := 584) rfl (hb hby at_537) (by decide) (by decide) ?_
            exact kt
          exact ⟨_, ⟨(-1 : Int32), rfl, (if_neg c526).symm⟩, fun _ k => k⟩
      refine own_st st_M584 ?_
      refine own_st (B := Tg433.setTop (mkF m 590 #[iv p0, iv p1, iv p2, iv p3, iv p4, iv p5, iv v4, iv v14, iv v21, iv v26, rv b30, iv v92, iv v134, iv v141, iv v148, iv (3 : Int32), iv v203, iv j584_l17, iv (3 : Int32), iv (own_b (((v134 &&& (192 : Int32)) = (128 : Int32)) ∧ ((v141 &&& (192 : Int32)) = (128 : Int32)))), iv v329, iv v336, iv v343, iv v388, iv v436, iv (2048 : Int32), iv (65535 : Int32), iv (own_b (¬ (v436 < (2048 : Int32)) ∧ ((¬ ((65535 : Int32) < v388) ∧ (((v388 < (55296 : Int32)) ∨ ((57343 : Int32) < v436)))))))] [(.int v21), (.int v4), (.ref b30)])) (fun target kt => ?_) ?_
      · show Steps p.tables e below (Tg433.setTop (mkF m 584 #[iv p0, iv p1, iv p2, iv p3, iv p4, iv p5, iv v4, iv v14, iv v21, iv v26, rv b30, iv v92, iv v134, iv v141, iv v148, iv (3 : Int32), iv v203, iv j584_l17, iv (3 : Int32), iv (own_b (((v134 &&& (192 : Int32)) = (128 : Int32)) ∧ ((v141 &&& (192 : Int32)) = (128 : Int32)))), iv v329, iv v336, iv v343, iv v388, iv v436, iv (2048 : Int32), iv (65535 : Int32), iv (own_b (¬ (v436 < (2048 : Int32)) ∧ ((¬ ((65535 : Int32) < v388) ∧ (((v388 < (55296 : Int32)) ∨ ((57343 : Int32) < v436)))))))] [])) target
        refine XS.aload Xg433.here hx rfl (hb hby at_584) rfl rfl ?_
        refine XS.iload Xg433.here hx rfl (hb hby at_586) rfl ?_
        refine XS.iload Xg433.here hx rfl (hb hby at_588) rfl ?_
        exact kt
      obtain ⟨_, _, ⟨Tg590, Lg590, kg590, ng590⟩, -, Xg590, ⟨Lcg590, hQg590, lg590, yg590, zg590⟩, stg590⟩ := Jvm.LawKit.callS Xg433 hx (y := (⟨"com/example/psyche/psyche/XmlChars", "sequenceLength", "([BII)I"⟩ : MethodName)) hown (mvT hZ (hw _ (List.mem_of_getElem? (i := 1) rfl))) (mvT hZ (hw _ (List.mem_of_getElem? (i := 2) rfl))) (mvT hZ (hw _ (List.mem_of_getElem? (i := 3) rfl))) (mvT hZ (hw _ (List.mem_of_getElem? (i := 4) rfl))) (by decide) (backOf (W := 0) (own_rm1_C l Z a0 hw [] b30 v4 v21 a128 hg128 n0 Zz_12 F_24 (show v4 = (0 : Int32) ∨ v4 = (1 : Int32) ∨ v4 = (2 : Int32) ∨ v4 = (3 : Int32) from hat) (show ¬ ((a128 (v4).toNatClampNeg) &&& (255 : Int32)) < (194 : Int32) from (by rw [hLD, Int32.lt_iff_toInt_lt, show (194 : Int32).toInt = 194 by decide]; omega)) (show ¬ ((a128 (v4).toNatClampNeg) &&& (255 : Int32)) < (224 : Int32) from (by rw [hLD, Int32.lt_iff_toInt_lt, show (224 : Int32).toInt = 224 by decide]; omega)) (show ((a128 (v4).toNatClampNeg) &&& (255 : Int32)) < (240 : Int32) from (by rw [hLD, Int32.lt_iff_toInt_lt, show (240 : Int32).toInt = 240 by decide]; omega))) hZ (hw _ (List.mem_of_getElem? (i := 4) rfl)) (hw _ (List.mem_of_getElem? (i := 3) rfl)) (by decide) (by decide)) (g := (mkF m 590 #[iv p0, iv p1, iv p2, iv p3, iv p4, iv p5, iv v4, iv v14, iv v21, iv v26, rv b30, iv v92, iv v134, iv v141, iv v148, iv (3 : Int32), iv v203, iv j584_l17, iv (3 : Int32), iv (own_b (((v134 &&& (192 : Int32)) = (128 : Int32)) ∧ ((v141 &&& (192 : Int32)) = (128 : Int32)))), iv v329, iv v336, iv v343, iv v388, iv v436, iv (2048 : Int32), iv (65535 : Int32), iv (own_b (¬ (v436 < (2048 : Int32)) ∧ ((¬ ((65535 : Int32) < v388) ∧ (((v388 < (55296 : Int32)) ∨ ((57343 : Int32) < v436)))))))] [(.int v21), (.int v4), (.ref b30)])) rfl (by rw [hml]; rfl) (argsL := [(.ref b30), (.int v4), (.int v21)]) (rest := []) (lenOf own_pd0 rfl) rfl (by show 2 * 0 + _ ≤ _; exact Nat.le_of_eq rfl) (hb hby at_590) (fun _ _ => ⟨rfl, eg433, (by decide : 1 + 0 ≤ _), (by decide : 8 + 0 ≤ _)⟩)
      dsimp only [Pt.U, Pt.locs, Pt.cells, Pt.slots] at Xg590 lg590 yg590 zg590 stg590 hQg590
      subst lg590 yg590 zg590
      obtain ⟨rfl, Ng590q, eg590⟩ := hQg590
      have Ng590 := Fr.app Ng433 Ng590q
      refine own_st (stg590) ?_
      refine own_st (B := Tg590.setTop (mkF m 595 #[iv p0, iv p1, iv p2, iv p3, iv p4, iv p5, iv v4, iv v14, iv v21, iv v26, rv b30, iv v92, iv v134, iv v141, iv v148, iv (3 : Int32), iv v203, iv j584_l17, iv (3 : Int32), iv (own_b (((v134 &&& (192 : Int32)) = (128 : Int32)) ∧ ((v141 &&& (192 : Int32)) = (128 : Int32)))), iv v329, iv v336, iv v343, iv v388, iv v436, iv (2048 : Int32), iv (65535 : Int32), iv (own_b (¬ (v436 < (2048 : Int32)) ∧ ((¬ ((65535 : Int32) < v388) ∧ (((v388 < (55296 : Int32)) ∨ ((57343 : Int32) < v436)))))))] [(.int j584_l17), (.int (if (v4 + (1 : Int32)) < v21 then (if ((a128 (v4 + (1 : Int32)).toNatClampNeg) &&& (255 : Int32)) < (if ((a128 (v4).toNatClampNeg) &&& (255 : Int32)) = (224 : Int32) then (160 : Int32) else (128 : Int32)) then (-1 : Int32) else (if (if ((a128 (v4).toNatClampNeg) &&& (255 : Int32)) = (224 : Int32) then (191 : Int32) else (if ((a128 (v4).toNatClampNeg) &&& (255 : Int32)) = (237 : Int32) then (159 : Int32) else (191 : Int32))) < ((a128 (v4 + (1 : Int32)).toNatClampNeg) &&& (255 : Int32)) then (-1 : Int32) else (if (v4 + (2 : Int32)) < v21 then (if ((a128 (v4 + (2 : Int32)).toNatClampNeg) &&& (255 : Int32)) < (128 : Int32) then (-1 : Int32) else (if (191 : Int32) < ((a128 (v4 + (2 : Int32)).toNatClampNeg) &&& (255 : Int32)) then (-1 : Int32) else (if ((a128 (v4).toNatClampNeg) &&& (255 : Int32)) = (239 : Int32) then (if (a128 (v4 + (1 : Int32)).toNatClampNeg) = (-65 : Int32) then (if ((a128 (v4 + (2 : Int32)).toNatClampNeg) &&& (254 : Int32)) = (190 : Int32) then (-2 : Int32) else (3 : Int32)) else (3 : Int32)) else (3 : Int32)))) else (0 : Int32)))) else (0 : Int32)))])) (fun target kt => ?_) ?_
      · show Steps p.tables e below (Tg590.setTop (mkF m 593 #[iv p0, iv p1, iv p2, iv p3, iv p4, iv p5, iv v4, iv v14, iv v21, iv v26, rv b30, iv v92, iv v134, iv v141, iv v148, iv (3 : Int32), iv v203, iv j584_l17, iv (3 : Int32), iv (own_b (((v134 &&& (192 : Int32)) = (128 : Int32)) ∧ ((v141 &&& (192 : Int32)) = (128 : Int32)))), iv v329, iv v336, iv v343, iv v388, iv v436, iv (2048 : Int32), iv (65535 : Int32), iv (own_b (¬ (v436 < (2048 : Int32)) ∧ ((¬ ((65535 : Int32) < v388) ∧ (((v388 < (55296 : Int32)) ∨ ((57343 : Int32) < v436)))))))] [(.int (if (v4 + (1 : Int32)) < v21 then (if ((a128 (v4 + (1 : Int32)).toNatClampNeg) &&& (255 : Int32)) < (if ((a128 (v4).toNatClampNeg) &&& (255 : Int32)) = (224 : Int32) then (160 : Int32) else (128 : Int32)) then (-1 : Int32) else (if (if ((a128 (v4).toNatClampNeg) &&& (255 : Int32)) = (224 : Int32) then (191 : Int32) else (if ((a128 (v4).toNatClampNeg) &&& (255 : Int32)) = (237 : Int32) then (159 : Int32) else (191 : Int32))) < ((a128 (v4 + (1 : Int32)).toNatClampNeg) &&& (255 : Int32)) then (-1 : Int32) else (if (v4 + (2 : Int32)) < v21 then (if ((a128 (v4 + (2 : Int32)).toNatClampNeg) &&& (255 : Int32)) < (128 : Int32) then (-1 : Int32) else (if (191 : Int32) < ((a128 (v4 + (2 : Int32)).toNatClampNeg) &&& (255 : Int32)) then (-1 : Int32) else (if ((a128 (v4).toNatClampNeg) &&& (255 : Int32)) = (239 : Int32) then (if (a128 (v4 + (1 : Int32)).toNatClampNeg) = (-65 : Int32) then (if ((a128 (v4 + (2 : Int32)).toNatClampNeg) &&& (254 : Int32)) = (190 : Int32) then (-2 : Int32) else (3 : Int32)) else (3 : Int32)) else (3 : Int32)))) else (0 : Int32)))) else (0 : Int32)))])) target
        refine XS.iload Xg590.here hx rfl (hb hby at_593) rfl ?_
        exact kt
      have c595 : (if (v4 + (1 : Int32)) < v21 then (if ((a128 (v4 + (1 : Int32)).toNatClampNeg) &&& (255 : Int32)) < (if ((a128 (v4).toNatClampNeg) &&& (255 : Int32)) = (224 : Int32) then (160 : Int32) else (128 : Int32)) then (-1 : Int32) else (if (if ((a128 (v4).toNatClampNeg) &&& (255 : Int32)) = (224 : Int32) then (191 : Int32) else (if ((a128 (v4).toNatClampNeg) &&& (255 : Int32)) = (237 : Int32) then (159 : Int32) else (191 : Int32))) < ((a128 (v4 + (1 : Int32)).toNatClampNeg) &&& (255 : Int32)) then (-1 : Int32) else (if (v4 + (2 : Int32)) < v21 then (if ((a128 (v4 + (2 : Int32)).toNatClampNeg) &&& (255 : Int32)) < (128 : Int32) then (-1 : Int32) else (if (191 : Int32) < ((a128 (v4 + (2 : Int32)).toNatClampNeg) &&& (255 : Int32)) then (-1 : Int32) else (if ((a128 (v4).toNatClampNeg) &&& (255 : Int32)) = (239 : Int32) then (if (a128 (v4 + (1 : Int32)).toNatClampNeg) = (-65 : Int32) then (if ((a128 (v4 + (2 : Int32)).toNatClampNeg) &&& (254 : Int32)) = (190 : Int32) then (-2 : Int32) else (3 : Int32)) else (3 : Int32)) else (3 : Int32)))) else (0 : Int32)))) else (0 : Int32)) = j584_l17 := by
        have hc1 : 0 ≤ v134.toInt ∧ v134.toInt < 256 := by rw [hv134, own_m255]; omega
        have hc2 : 0 ≤ v141.toInt ∧ v141.toInt < 256 := by rw [hv141, own_m255]; omega
        have hc3 : 0 ≤ v148.toInt ∧ v148.toInt < 256 := by rw [hv148, own_m255]; omega
        have hbits : v203.toInt = v92.toInt % 16 := by rw [hv203]; exact own_m15 v92
        have hq1 : v329.toInt = v134.toInt % 64 := by rw [hv329]; exact own_m63 v134
        have hq2 : v336.toInt = v141.toInt % 64 := by rw [hv336]; exact own_m63 v141
        have hq3 : v343.toInt = v148.toInt % 64 := by rw [hv343]; exact own_m63 v148
        have hz0 : (0 : Int32).toInt = 0 := by decide
        have hz63 : (63 : Int32).toInt = 63 := by decide
        have hmn : v388.toInt = (v92.toInt % 16) * 4096 + (v134.toInt % 64) * 64 + (v141.toInt % 64) * 1 := by
          rw [hv388, if_neg (by decide), if_pos rfl, own_p3 _ _ _ (by omega) (by omega) (by omega) (by omega) (by omega) (by omega)]
          omega
        have hmx : v436.toInt = (v92.toInt % 16) * 4096 + (v134.toInt % 64) * 64 + (v141.toInt % 64) * 1 := by
          rw [hv436, if_neg (by decide), if_pos rfl, own_p3 _ _ _ (by omega) (by omega) (by omega) (by omega) (by omega) (by omega)]
          omega
        have hkv := own_kv v14 (3 : Int32) (3 : Int32) hv261
        rw [show (3 : Int32).toInt = 3 by decide] at hkv
        rw [hj584_l17]
        simp only [hLD, hA1, hA2, hA3, hM1, hM2, own_c192 v134 hc1.1 hc1.2, own_c192 v141 hc2.1 hc2.2, own_c192 v148 hc3.1 hc3.2, own_lim1 v4 v14 hat hav v21 hv21, own_lim2 v4 v14 hat hav v21 hv21, own_lim3 v4 v14 hat hav v21 hv21]
        exact own_F2_3 v92 v134 v141 v148 v14 v388 v436 (by omega) hc1 hc2 hc3 hav (hkv.2 rfl) hmn hmx
      refine own_st (B := Tg590.setTop (mkF m 603 #[iv p0, iv p1, iv p2, iv p3, iv p4, iv p5, iv v4, iv v14, iv v21, iv v26, rv b30, iv v92, iv v134, iv v141, iv v148, iv (3 : Int32), iv v203, iv j584_l17, iv (3 : Int32), iv (own_b (((v134 &&& (192 : Int32)) = (128 : Int32)) ∧ ((v141 &&& (192 : Int32)) = (128 : Int32)))), iv v329, iv v336, iv v343, iv v388, iv v436, iv (2048 : Int32), iv (65535 : Int32), iv (own_b (¬ (v436 < (2048 : Int32)) ∧ ((¬ ((65535 : Int32) < v388) ∧ (((v388 < (55296 : Int32)) ∨ ((57343 : Int32) < v436)))))))] [(.int (1 : Int32))])) (fun target kt => ?_) ?_
      · show Steps p.tables e below (Tg590.setTop (mkF m 595 #[iv p0, iv p1, iv p2, iv p3, iv p4, iv p5, iv v4, iv v14, iv v21, iv v26, rv b30, iv v92, iv v134, iv v141, iv v148, iv (3 : Int32), iv v203, iv j584_l17, iv (3 : Int32), iv (own_b (((v134 &&& (192 : Int32)) = (128 : Int32)) ∧ ((v141 &&& (192 : Int32)) = (128 : Int32)))), iv v329, iv v336, iv v343, iv v388, iv v436, iv (2048 : Int32), iv (65535 : Int32), iv (own_b (¬ (v436 < (2048 : Int32)) ∧ ((¬ ((65535 : Int32) < v388) ∧ (((v388 < (55296 : Int32)) ∨ ((57343 : Int32) < v436)))))))] [(.int j584_l17), (.int (if (v4 + (1 : Int32)) < v21 then (if ((a128 (v4 + (1 : Int32)).toNatClampNeg) &&& (255 : Int32)) < (if ((a128 (v4).toNatClampNeg) &&& (255 : Int32)) = (224 : Int32) then (160 : Int32) else (128 : Int32)) then (-1 : Int32) else (if (if ((a128 (v4).toNatClampNeg) &&& (255 : Int32)) = (224 : Int32) then (191 : Int32) else (if ((a128 (v4).toNatClampNeg) &&& (255 : Int32)) = (237 : Int32) then (159 : Int32) else (191 : Int32))) < ((a128 (v4 + (1 : Int32)).toNatClampNeg) &&& (255 : Int32)) then (-1 : Int32) else (if (v4 + (2 : Int32)) < v21 then (if ((a128 (v4 + (2 : Int32)).toNatClampNeg) &&& (255 : Int32)) < (128 : Int32) then (-1 : Int32) else (if (191 : Int32) < ((a128 (v4 + (2 : Int32)).toNatClampNeg) &&& (255 : Int32)) then (-1 : Int32) else (if ((a128 (v4).toNatClampNeg) &&& (255 : Int32)) = (239 : Int32) then (if (a128 (v4 + (1 : Int32)).toNatClampNeg) = (-65 : Int32) then (if ((a128 (v4 + (2 : Int32)).toNatClampNeg) &&& (254 : Int32)) = (190 : Int32) then (-2 : Int32) else (3 : Int32)) else (3 : Int32)) else (3 : Int32)))) else (0 : Int32)))) else (0 : Int32)))])) target
        refine XS.icmpNo Xg590.here hx rfl (hb hby at_595) rfl (teq c595).2 ?_
        refine XS.iconst Xg590.here hx rfl (hb hby at_598) ?_
        refine XS.goto Xg590.here hx rfl (pc0 := 599) (pc' := 603) rfl (hb hby at_599) (by decide) (by decide) ?_
        exact kt
      obtain ⟨fs, hr, hrun, hended, hW, hsame⟩ := Xg590.leave (v := some (.int (1 : Int32))) (fun h => by rw [Bd.returns] at h; cases h)
      have hend : Steps p.tables e below (Tg590.setTop (mkF m 603 #[iv p0, iv p1, iv p2, iv p3, iv p4, iv p5, iv v4, iv v14, iv v21, iv v26, rv b30, iv v92, iv v134, iv v141, iv v148, iv (3 : Int32), iv v203, iv j584_l17, iv (3 : Int32), iv (own_b (((v134 &&& (192 : Int32)) = (128 : Int32)) ∧ ((v141 &&& (192 : Int32)) = (128 : Int32)))), iv v329, iv v336, iv v343, iv v388, iv v436, iv (2048 : Int32), iv (65535 : Int32), iv (own_b (¬ (v436 < (2048 : Int32)) ∧ ((¬ ((65535 : Int32) < v388) ∧ (((v388 < (55296 : Int32)) ∨ ((57343 : Int32) < v436)))))))] [(.int (1 : Int32))])) (Tg590.setFrames fs) := by
        exact retN Xg590 hx (t := .boolean) Bd.returns (by simp) (hb hby at_603) hr
      refine own_fin hend ⟨_, hrun, hended, _, _, rfl, ?_, ⟨_, rfl⟩, hW, hsame.mono (by decide) (by decide)⟩
      show own_Q0 Z p0 p1 p2 p3 p4 p5 h0 n0 _ Tg590.heap _
      rw [eg590]
      exact ⟨rfl, Ng590⟩
  · skip
    refine own_st (B := Tg128.setTop (mkF m 155 #[iv p0, iv p1, iv p2, iv p3, iv p4, iv p5, iv v4, iv v14, iv v21, iv v26, rv b30, iv v92, iv v134, iv v141, iv v148, .unset, .unset, .unset, .unset, .unset, .unset, .unset, .unset, .unset, .unset, .unset, .unset, .unset] [(.int (192 : Int32)), (.int v92)])) (fun target kt => ?_) ?_
    · show Steps p.tables e below (Tg128.setTop (mkF m 152 #[iv p0, iv p1, iv p2, iv p3, iv p4, iv p5, iv v4, iv v14, iv v21, iv v26, rv b30, iv v92, iv v134, iv v141, iv v148, .unset, .unset, .unset, .unset, .unset, .unset, .unset, .unset, .unset, .unset, .unset, .unset, .unset] [(.int v92)])) target
      refine XS.sipush Xg128.here hx rfl (hb hby at_152) ?_
      exact kt
    have c155 : ¬ (v92 < (192 : Int32)) := by
      rw [Int32.lt_iff_toInt_lt, show (192 : Int32).toInt = 192 by decide]
      omega
    refine own_st (B := Tg128.setTop (mkF m 163 #[iv p0, iv p1, iv p2, iv p3, iv p4, iv p5, iv v4, iv v14, iv v21, iv v26, rv b30, iv v92, iv v134, iv v141, iv v148, .unset, .unset, .unset, .unset, .unset, .unset, .unset, .unset, .unset, .unset, .unset, .unset, .unset] [(.int (224 : Int32)), (.int v92)])) (fun target kt => ?_) ?_
    · show Steps p.tables e below (Tg128.setTop (mkF m 155 #[iv p0, iv p1, iv p2, iv p3, iv p4, iv p5, iv v4, iv v14, iv v21, iv v26, rv b30, iv v92, iv v134, iv v141, iv v148, .unset, .unset, .unset, .unset, .unset, .unset, .unset, .unset, .unset, .unset, .unset, .unset, .unset] [(.int (192 : Int32)), (.int v92)])) target
      refine XS.icmpNo Xg128.here hx rfl (hb hby at_155) rfl (flt c155).1 ?_
      refine XS.iload Xg128.here hx rfl (hb hby at_158) rfl ?_
      refine XS.sipush Xg128.here hx rfl (hb hby at_160) ?_
      exact kt
    have c163 : ¬ (v92 < (224 : Int32)) := by
      rw [Int32.lt_iff_toInt_lt, show (224 : Int32).toInt = 224 by decide]
      omega
    refine own_st (B := Tg128.setTop (mkF m 184 #[iv p0, iv p1, iv p2, iv p3, iv p4, iv p5, iv v4, iv v14, iv v21, iv v26, rv b30, iv v92, iv v134, iv v141, iv v148, .unset, .unset, .unset, .unset, .unset, .unset, .unset, .unset, .unset, .unset, .unset, .unset, .unset] [(.int (224 : Int32)), (.int v92)])) (fun target kt => ?_) ?_
    · show Steps p.tables e below (Tg128.setTop (mkF m 163 #[iv p0, iv p1, iv p2, iv p3, iv p4, iv p5, iv v4, iv v14, iv v21, iv v26, rv b30, iv v92, iv v134, iv v141, iv v148, .unset, .unset, .unset, .unset, .unset, .unset, .unset, .unset, .unset, .unset, .unset, .unset, .unset] [(.int (224 : Int32)), (.int v92)])) target
      refine XS.icmpYes Xg128.here hx rfl (pc0 := 163) (pc' := 179) rfl (hb hby at_163) rfl (flt c163).2.1 (by decide) (by decide) ?_
      refine XS.iload Xg128.here hx rfl (hb hby at_179) rfl ?_
      refine XS.sipush Xg128.here hx rfl (hb hby at_181) ?_
      exact kt
    have c184 : ¬ (v92 < (224 : Int32)) := by
      rw [Int32.lt_iff_toInt_lt, show (224 : Int32).toInt = 224 by decide]
      omega
    refine own_st (B := Tg128.setTop (mkF m 192 #[iv p0, iv p1, iv p2, iv p3, iv p4, iv p5, iv v4, iv v14, iv v21, iv v26, rv b30, iv v92, iv v134, iv v141, iv v148, .unset, .unset, .unset, .unset, .unset, .unset, .unset, .unset, .unset, .unset, .unset, .unset, .unset] [(.int (240 : Int32)), (.int v92)])) (fun target kt => ?_) ?_
    · show Steps p.tables e below (Tg128.setTop (mkF m 184 #[iv p0, iv p1, iv p2, iv p3, iv p4, iv p5, iv v4, iv v14, iv v21, iv v26, rv b30, iv v92, iv v134, iv v141, iv v148, .unset, .unset, .unset, .unset, .unset, .unset, .unset, .unset, .unset, .unset, .unset, .unset, .unset] [(.int (224 : Int32)), (.int v92)])) target
      refine XS.icmpNo Xg128.here hx rfl (hb hby at_184) rfl (flt c184).1 ?_
      refine XS.iload Xg128.here hx rfl (hb hby at_187) rfl ?_
      refine XS.sipush Xg128.here hx rfl (hb hby at_189) ?_
      exact kt
    have c192 : ¬ (v92 < (240 : Int32)) := by
      rw [Int32.lt_iff_toInt_lt, show (240 : Int32).toInt = 240 by decide]
      omega
    refine own_st (B := Tg128.setTop (mkF m 213 #[iv p0, iv p1, iv p2, iv p3, iv p4, iv p5, iv v4, iv v14, iv v21, iv v26, rv b30, iv v92, iv v134, iv v141, iv v148, .unset, .unset, .unset, .unset, .unset, .unset, .unset, .unset, .unset, .unset, .unset, .unset, .unset] [(.int (240 : Int32)), (.int v92)])) (fun target kt => ?_) ?_
    · show Steps p.tables e below (Tg128.setTop (mkF m 192 #[iv p0, iv p1, iv p2, iv p3, iv p4, iv p5, iv v4, iv v14, iv v21, iv v26, rv b30, iv v92, iv v134, iv v141, iv v148, .unset, .unset, .unset, .unset, .unset, .unset, .unset, .unset, .unset, .unset, .unset, .unset, .unset] [(.int (240 : Int32)), (.int v92)])) target
      refine XS.icmpYes Xg128.here hx rfl (pc0 := 192) (pc' := 208) rfl (hb hby at_192) rfl (flt c192).2.1 (by decide) (by decide) ?_
      refine XS.iload Xg128.here hx rfl (hb hby at_208) rfl ?_
      refine XS.sipush Xg128.here hx rfl (hb hby at_210) ?_
      exact kt
    have c213 : ¬ (v92 < (240 : Int32)) := by
      rw [Int32.lt_iff_toInt_lt, show (240 : Int32).toInt = 240 by decide]
      omega
    refine own_st (B := Tg128.setTop (mkF m 221 #[iv p0, iv p1, iv p2, iv p3, iv p4, iv p5, iv v4, iv v14, iv v21, iv v26, rv b30, iv v92, iv v134, iv v141, iv v148, .unset, .unset, .unset, .unset, .unset, .unset, .unset, .unset, .unset, .unset, .unset, .unset, .unset] [(.int (248 : Int32)), (.int v92)])) (fun target kt => ?_) ?_
    · show Steps p.tables e below (Tg128.setTop (mkF m 213 #[iv p0, iv p1, iv p2, iv p3, iv p4, iv p5, iv v4, iv v14, iv v21, iv v26, rv b30, iv v92, iv v134, iv v141, iv v148, .unset, .unset, .unset, .unset, .unset, .unset, .unset, .unset, .unset, .unset, .unset, .unset, .unset] [(.int (240 : Int32)), (.int v92)])) target
      refine XS.icmpNo Xg128.here hx rfl (hb hby at_213) rfl (flt c213).1 ?_
      refine XS.iload Xg128.here hx rfl (hb hby at_216) rfl ?_
      refine XS.sipush Xg128.here hx rfl (hb hby at_218) ?_
      exact kt
    have c221 : v92 < (248 : Int32) := by
      rw [Int32.lt_iff_toInt_lt, show (248 : Int32).toInt = 248 by decide]
      omega
    obtain ⟨v232, hv232⟩ : ∃ z : Int32, z = (v92 &&& (7 : Int32)) := ⟨_, rfl⟩
    refine own_st (B := Tg128.setTop (mkF m 258 #[iv p0, iv p1, iv p2, iv p3, iv p4, iv p5, iv v4, iv v14, iv v21, iv v26, rv b30, iv v92, iv v134, iv v141, iv v148, iv (4 : Int32), iv v232, .unset, .unset, .unset, .unset, .unset, .unset, .unset, .unset, .unset, .unset, .unset] [(.int v14), (.int (4 : Int32))])) (fun target kt => ?_) ?_
    · show Steps p.tables e below (Tg128.setTop (mkF m 221 #[iv p0, iv p1, iv p2, iv p3, iv p4, iv p5, iv v4, iv v14, iv v21, iv v26, rv b30, iv v92, iv v134, iv v141, iv v148, .unset, .unset, .unset, .unset, .unset, .unset, .unset, .unset, .unset, .unset, .unset, .unset, .unset] [(.int (248 : Int32)), (.int v92)])) target
      refine XS.icmpNo Xg128.here hx rfl (hb hby at_221) rfl (tlt c221).2.1 ?_
      refine XS.iconst Xg128.here hx rfl (hb hby at_224) ?_
      refine XS.istore Xg128.here hx rfl (hb hby at_225) rfl (l' := #[iv p0, iv p1, iv p2, iv p3, iv p4, iv p5, iv v4, iv v14, iv v21, iv v26, rv b30, iv v92, iv v134, iv v141, iv v148, iv (4 : Int32), .unset, .unset, .unset, .unset, .unset, .unset, .unset, .unset, .unset, .unset, .unset, .unset]) rfl ?_
      refine XS.iload Xg128.here hx rfl (hb hby at_227) rfl ?_
      refine XS.bipush Xg128.here hx rfl (hb hby at_229) ?_
      refine XS.iand Xg128.here hx rfl (hb hby at_231) rfl ?_
      refine XS.istore Xg128.here hx rfl (hb hby at_232) rfl (l' := #[iv p0, iv p1, iv p2, iv p3, iv p4, iv p5, iv v4, iv v14, iv v21, iv v26, rv b30, iv v92, iv v134, iv v141, iv v148, iv (4 : Int32), iv v232, .unset, .unset, .unset, .unset, .unset, .unset, .unset, .unset, .unset, .unset, .unset]) (by subst hv232; rfl) ?_
      refine XS.goto Xg128.here hx rfl (pc0 := 234) (pc' := 243) rfl (hb hby at_234) (by decide) (by decide) ?_
      show Steps p.tables e below (Tg128.setTop (mkF m 243 #[iv p0, iv p1, iv p2, iv p3, iv p4, iv p5, iv v4, iv v14, iv v21, iv v26, rv b30, iv v92, iv v134, iv v141, iv v148, iv (4 : Int32), iv v232, .unset, .unset, .unset, .unset, .unset, .unset, .unset, .unset, .unset, .unset, .unset] [])) target
      refine XS.iload Xg128.here hx rfl (hb hby at_243) rfl ?_
      refine XS.ifYes Xg128.here hx rfl (pc0 := 245) (pc' := 254) rfl (hb hby at_245) rfl ((if0 _ _).trans (feq (by decide : ¬ ((4 : Int32) = (0 : Int32)))).2) (by decide) (by decide) ?_
      refine XS.iload Xg128.here hx rfl (hb hby at_254) rfl ?_
      refine XS.iload Xg128.here hx rfl (hb hby at_256) rfl ?_
      exact kt
    obtain ⟨_, _, ⟨Tg258, Lg258, kg258, ng258⟩, -, Xg258, ⟨Lcg258, hQg258, lg258, yg258, zg258⟩, stg258⟩ := Jvm.LawKit.callS Xg128 hx (y := (⟨"java/lang/Math", "min", "(II)I"⟩ : MethodName)) hown (mvT hZ (hw _ (List.mem_of_getElem? (i := 5) rfl))) (mvT hZ (hw _ (List.mem_of_getElem? (i := 6) rfl))) (mvT hZ (hw _ (List.mem_of_getElem? (i := 7) rfl))) (mvT hZ (hw _ (List.mem_of_getElem? (i := 8) rfl))) (by decide) (backOf (W := 0) (own_rm2 l Z a0 hw [] (4 : Int32) v14 hg128 n0 Zz_12) hZ (hw _ (List.mem_of_getElem? (i := 8) rfl)) (hw _ (List.mem_of_getElem? (i := 7) rfl)) (by decide) (by decide)) (g := (mkF m 258 #[iv p0, iv p1, iv p2, iv p3, iv p4, iv p5, iv v4, iv v14, iv v21, iv v26, rv b30, iv v92, iv v134, iv v141, iv v148, iv (4 : Int32), iv v232, .unset, .unset, .unset, .unset, .unset, .unset, .unset, .unset, .unset, .unset, .unset] [(.int v14), (.int (4 : Int32))])) rfl (by rw [hml]; rfl) (argsL := [(.int (4 : Int32)), (.int v14)]) (rest := []) (lenOf own_pd1 rfl) rfl (by show 2 * 0 + _ ≤ _; exact Nat.le_of_eq rfl) (hb hby at_258) (fun _ _ => ⟨rfl, eg128, (by decide : 1 + 0 ≤ _), (by decide : 8 + 0 ≤ _)⟩)
    dsimp only [Pt.U, Pt.locs, Pt.cells, Pt.slots] at Xg258 lg258 yg258 zg258 stg258 hQg258
    subst lg258 yg258 zg258
    obtain ⟨rfl, Ng258q, eg258⟩ := hQg258
    have Ng258 := Fr.app Ng128 Ng258q
    refine own_st (stg258) ?_
    obtain ⟨v261, hv261⟩ : ∃ z : Int32, z = (if v14 < (4 : Int32) then v14 else (4 : Int32)) := ⟨_, rfl⟩
    refine own_st (B := Tg258.setTop (mkF m 263 #[iv p0, iv p1, iv p2, iv p3, iv p4, iv p5, iv v4, iv v14, iv v21, iv v26, rv b30, iv v92, iv v134, iv v141, iv v148, iv (4 : Int32), iv v232, .unset, iv v261, .unset, .unset, .unset, .unset, .unset, .unset, .unset, .unset, .unset] [])) (fun target kt => ?_) ?_
    · show Steps p.tables e below (Tg258.setTop (mkF m 261 #[iv p0, iv p1, iv p2, iv p3, iv p4, iv p5, iv v4, iv v14, iv v21, iv v26, rv b30, iv v92, iv v134, iv v141, iv v148, iv (4 : Int32), iv v232, .unset, .unset, .unset, .unset, .unset, .unset, .unset, .unset, .unset, .unset, .unset] [(.int (if v14 < (4 : Int32) then v14 else (4 : Int32)))])) target
      refine XS.istore Xg258.here hx rfl (hb hby at_261) rfl (l' := #[iv p0, iv p1, iv p2, iv p3, iv p4, iv p5, iv v4, iv v14, iv v21, iv v26, rv b30, iv v92, iv v134, iv v141, iv v148, iv (4 : Int32), iv v232, .unset, iv v261, .unset, .unset, .unset, .unset, .unset, .unset, .unset, .unset, .unset]) (by subst hv261; rfl) ?_
      exact kt
    rcases own_k4 v14 v261 hv261 hav with hs263 | hs263 | hs263 | hs263
    · subst hs263
      obtain ⟨v329, hv329⟩ : ∃ z : Int32, z = (v134 &&& (63 : Int32)) := ⟨_, rfl⟩
      obtain ⟨v336, hv336⟩ : ∃ z : Int32, z = (v141 &&& (63 : Int32)) := ⟨_, rfl⟩
      obtain ⟨v343, hv343⟩ : ∃ z : Int32, z = (v148 &&& (63 : Int32)) := ⟨_, rfl⟩
      refine own_st (B := Tg258.setTop (mkF m 385 #[iv p0, iv p1, iv p2, iv p3, iv p4, iv p5, iv v4, iv v14, iv v21, iv v26, rv b30, iv v92, iv v134, iv v141, iv v148, iv (4 : Int32), iv v232, .unset, iv (1 : Int32), iv (1 : Int32), iv v329, iv v336, iv v343, .unset, .unset, .unset, .unset, .unset] [(.int (0 : Int32)), (.int (0 : Int32)), (.int (0 : Int32)), (.int v232), (.int (4 : Int32))])) (fun target kt => ?_) ?_
      · show Steps p.tables e below (Tg258.setTop (mkF m 263 #[iv p0, iv p1, iv p2, iv p3, iv p4, iv p5, iv v4, iv v14, iv v21, iv v26, rv b30, iv v92, iv v134, iv v141, iv v148, iv (4 : Int32), iv v232, .unset, iv (1 : Int32), .unset, .unset, .unset, .unset, .unset, .unset, .unset, .unset, .unset] [])) target
        refine XS.iload Xg258.here hx rfl (hb hby at_263) rfl ?_
        refine XS.iconst Xg258.here hx rfl (hb hby at_265) ?_
        refine XS.icmpYes Xg258.here hx rfl (pc0 := 266) (pc' := 281) rfl (hb hby at_266) rfl (tlt (by decide : (1 : Int32) < (2 : Int32))).1 (by decide) (by decide) ?_
        refine XS.iload Xg258.here hx rfl (hb hby at_281) rfl ?_
        refine XS.iconst Xg258.here hx rfl (hb hby at_283) ?_
        refine XS.icmpYes Xg258.here hx rfl (pc0 := 284) (pc' := 299) rfl (hb hby at_284) rfl (tlt (by decide : (1 : Int32) < (3 : Int32))).1 (by decide) (by decide) ?_
        refine XS.iload Xg258.here hx rfl (hb hby at_299) rfl ?_
        refine XS.iconst Xg258.here hx rfl (hb hby at_301) ?_
        show Steps p.tables e below (Tg258.setTop (mkF m 302 #[iv p0, iv p1, iv p2, iv p3, iv p4, iv p5, iv v4, iv v14, iv v21, iv v26, rv b30, iv v92, iv v134, iv v141, iv v148, iv (4 : Int32), iv v232, .unset, iv (1 : Int32), .unset, .unset, .unset, .unset, .unset, .unset, .unset, .unset, .unset] [(.int (4 : Int32)), (.int (1 : Int32))])) target
        refine XS.icmpYes Xg258.here hx rfl (pc0 := 302) (pc' := 317) rfl (hb hby at_302) rfl (tlt (by decide : (1 : Int32) < (4 : Int32))).1 (by decide) (by decide) ?_
        refine XS.iconst Xg258.here hx rfl (hb hby at_317) ?_
        refine XS.goto Xg258.here hx rfl (pc0 := 318) (pc' := 322) rfl (hb hby at_318) (by decide) (by decide) ?_
        refine XS.istore Xg258.here hx rfl (hb hby at_322) rfl (l' := #[iv p0, iv p1, iv p2, iv p3, iv p4, iv p5, iv v4, iv v14, iv v21, iv v26, rv b30, iv v92, iv v134, iv v141, iv v148, iv (4 : Int32), iv v232, .unset, iv (1 : Int32), iv (1 : Int32), .unset, .unset, .unset, .unset, .unset, .unset, .unset, .unset]) rfl ?_
        refine XS.iload Xg258.here hx rfl (hb hby at_324) rfl ?_
        refine XS.bipush Xg258.here hx rfl (hb hby at_326) ?_
        refine XS.iand Xg258.here hx rfl (hb hby at_328) rfl ?_
        refine XS.istore Xg258.here hx rfl (hb hby at_329) rfl (l' := #[iv p0, iv p1, iv p2, iv p3, iv p4, iv p5, iv v4, iv v14, iv v21, iv v26, rv b30, iv v92, iv v134, iv v141, iv v148, iv (4 : Int32), iv v232, .unset, iv (1 : Int32), iv (1 : Int32), iv v329, .unset, .unset, .unset, .unset, .unset, .unset, .unset]) (by subst hv329; rfl) ?_
        show Steps p.tables e below (Tg258.setTop (mkF m 331 #[iv p0, iv p1, iv p2, iv p3, iv p4, iv p5, iv v4, iv v14, iv v21, iv v26, rv b30, iv v92, iv v134, iv v141, iv v148, iv (4 : Int32), iv v232, .unset, iv (1 : Int32), iv (1 : Int32), iv v329, .unset, .unset, .unset, .unset, .unset, .unset, .unset] [])) target
        refine XS.iload Xg258.here hx rfl (hb hby at_331) rfl ?_
        refine XS.bipush Xg258.here hx rfl (hb hby at_333) ?_
        refine XS.iand Xg258.here hx rfl (hb hby at_335) rfl ?_
        refine XS.istore Xg258.here hx rfl (hb hby at_336) rfl (l' := #[iv p0, iv p1, iv p2, iv p3, iv p4, iv p5, iv v4, iv v14, iv v21, iv v26, rv b30, iv v92, iv v134, iv v141, iv v148, iv (4 : Int32), iv v232, .unset, iv (1 : Int32), iv (1 : Int32), iv v329, iv v336, .unset, .unset, .unset, .unset, .unset, .unset]) (by subst hv336; rfl) ?_
        refine XS.iload Xg258.here hx rfl (hb hby at_338) rfl ?_
        refine XS.bipush Xg258.here hx rfl (hb hby at_340) ?_
        refine XS.iand Xg258.here hx rfl (hb hby at_342) rfl ?_
        refine XS.istore Xg258.here hx rfl (hb hby at_343) rfl (l' := #[iv p0, iv p1, iv p2, iv p3, iv p4, iv p5, iv v4, iv v14, iv v21, iv v26, rv b30, iv v92, iv v134, iv v141, iv v148, iv (4 : Int32), iv v232, .unset, iv (1 : Int32), iv (1 : Int32), iv v329, iv v336, iv v343, .unset, .unset, .unset, .unset, .unset]) (by subst hv343; rfl) ?_
        show Steps p.tables e below (Tg258.setTop (mkF m 345 #[iv p0, iv p1, iv p2, iv p3, iv p4, iv p5, iv v4, iv v14, iv v21, iv v26, rv b30, iv v92, iv v134, iv v141, iv v148, iv (4 : Int32), iv v232, .unset, iv (1 : Int32), iv (1 : Int32), iv v329, iv v336, iv v343, .unset, .unset, .unset, .unset, .unset] [])) target
        refine XS.iload Xg258.here hx rfl (hb hby at_345) rfl ?_
        refine XS.iload Xg258.here hx rfl (hb hby at_347) rfl ?_
        refine XS.iload Xg258.here hx rfl (hb hby at_349) rfl ?_
        refine XS.iconst Xg258.here hx rfl (hb hby at_351) ?_
        refine XS.icmpYes Xg258.here hx rfl (pc0 := 352) (pc' := 360) rfl (hb hby at_352) rfl (tlt (by decide : (1 : Int32) < (2 : Int32))).1 (by decide) (by decide) ?_
        refine XS.iconst Xg258.here hx rfl (hb hby at_360) ?_
        refine XS.iload Xg258.here hx rfl (hb hby at_361) rfl ?_
        refine XS.iconst Xg258.here hx rfl (hb hby at_363) ?_
        show Steps p.tables e below (Tg258.setTop (mkF m 364 #[iv p0, iv p1, iv p2, iv p3, iv p4, iv p5, iv v4, iv v14, iv v21, iv v26, rv b30, iv v92, iv v134, iv v141, iv v148, iv (4 : Int32), iv v232, .unset, iv (1 : Int32), iv (1 : Int32), iv v329, iv v336, iv v343, .unset, .unset, .unset, .unset, .unset] [(.int (3 : Int32)), (.int (1 : Int32)), (.int (0 : Int32)), (.int v232), (.int (4 : Int32))])) target
        refine XS.icmpYes Xg258.here hx rfl (pc0 := 364) (pc' := 372) rfl (hb hby at_364) rfl (tlt (by decide : (1 : Int32) < (3 : Int32))).1 (by decide) (by decide) ?_
        refine XS.iconst Xg258.here hx rfl (hb hby at_372) ?_
        refine XS.iload Xg258.here hx rfl (hb hby at_373) rfl ?_
        refine XS.iconst Xg258.here hx rfl (hb hby at_375) ?_
        refine XS.icmpYes Xg258.here hx rfl (pc0 := 376) (pc' := 384) rfl (hb hby at_376) rfl (tlt (by decide : (1 : Int32) < (4 : Int32))).1 (by decide) (by decide) ?_
        refine XS.iconst Xg258.here hx rfl (hb hby at_384) ?_
        exact kt
      obtain ⟨_, _, ⟨Tg385, Lg385, kg385, ng385⟩, -, Xg385, ⟨Lcg385, hQg385, lg385, yg385, zg385⟩, stg385⟩ := Jvm.LawKit.callS Xg258 hx (y := (⟨"com/example/psyche/psyche/XmlCharsSequenceLengthPinLaw", "compose", "(IIIII)I"⟩ : MethodName)) hown (mvT hZ (hw _ (List.mem_of_getElem? (i := 9) rfl))) (mvT hZ (hw _ (List.mem_of_getElem? (i := 10) rfl))) (mvT hZ (hw _ (List.mem_of_getElem? (i := 11) rfl))) (mvT hZ (hw _ (List.mem_of_getElem? (i := 12) rfl))) (by decide) (backOf (W := 0) (own_rm3 l Z a0 hw [] (4 : Int32) v232 (0 : Int32) (0 : Int32) (0 : Int32) hg128 n0 Zz_12) hZ (hw _ (List.mem_of_getElem? (i := 12) rfl)) (hw _ (List.mem_of_getElem? (i := 11) rfl)) (by decide) (by decide)) (g := (mkF m 385 #[iv p0, iv p1, iv p2, iv p3, iv p4, iv p5, iv v4, iv v14, iv v21, iv v26, rv b30, iv v92, iv v134, iv v141, iv v148, iv (4 : Int32), iv v232, .unset, iv (1 : Int32), iv (1 : Int32), iv v329, iv v336, iv v343, .unset, .unset, .unset, .unset, .unset] [(.int (0 : Int32)), (.int (0 : Int32)), (.int (0 : Int32)), (.int v232), (.int (4 : Int32))])) rfl (by rw [hml]; rfl) (argsL := [(.int (4 : Int32)), (.int v232), (.int (0 : Int32)), (.int (0 : Int32)), (.int (0 : Int32))]) (rest := []) (lenOf own_pd2 rfl) rfl (by show 2 * 0 + _ ≤ _; exact Nat.le_of_eq rfl) (hb hby at_385) (fun _ _ => ⟨rfl, eg258, (by decide : 1 + 0 ≤ _), (by decide : 8 + 0 ≤ _)⟩)
      dsimp only [Pt.U, Pt.locs, Pt.cells, Pt.slots] at Xg385 lg385 yg385 zg385 stg385 hQg385
      subst lg385 yg385 zg385
      obtain ⟨rfl, Ng385q, eg385⟩ := hQg385
      have Ng385 := Fr.app Ng258 Ng385q
      refine own_st (stg385) ?_
      obtain ⟨v388, hv388⟩ : ∃ z : Int32, z = (if (4 : Int32) = (2 : Int32) then ((v232 <<< ((6 : Int32) &&& 31)) ||| (0 : Int32)) else (if (4 : Int32) = (3 : Int32) then (((v232 <<< ((12 : Int32) &&& 31)) ||| ((0 : Int32) <<< ((6 : Int32) &&& 31))) ||| (0 : Int32)) else ((((v232 <<< ((18 : Int32) &&& 31)) ||| ((0 : Int32) <<< ((12 : Int32) &&& 31))) ||| ((0 : Int32) <<< ((6 : Int32) &&& 31))) ||| (0 : Int32)))) := ⟨_, rfl⟩
      refine own_st (B := Tg385.setTop (mkF m 433 #[iv p0, iv p1, iv p2, iv p3, iv p4, iv p5, iv v4, iv v14, iv v21, iv v26, rv b30, iv v92, iv v134, iv v141, iv v148, iv (4 : Int32), iv v232, .unset, iv (1 : Int32), iv (1 : Int32), iv v329, iv v336, iv v343, iv v388, .unset, .unset, .unset, .unset] [(.int (63 : Int32)), (.int (63 : Int32)), (.int (63 : Int32)), (.int v232), (.int (4 : Int32))])) (fun target kt => ?_) ?_
      · show Steps p.tables e below (Tg385.setTop (mkF m 388 #[iv p0, iv p1, iv p2, iv p3, iv p4, iv p5, iv v4, iv v14, iv v21, iv v26, rv b30, iv v92, iv v134, iv v141, iv v148, iv (4 : Int32), iv v232, .unset, iv (1 : Int32), iv (1 : Int32), iv v329, iv v336, iv v343, .unset, .unset, .unset, .unset, .unset] [(.int (if (4 : Int32) = (2 : Int32) then ((v232 <<< ((6 : Int32) &&& 31)) ||| (0 : Int32)) else (if (4 : Int32) = (3 : Int32) then (((v232 <<< ((12 : Int32) &&& 31)) ||| ((0 : Int32) <<< ((6 : Int32) &&& 31))) ||| (0 : Int32)) else ((((v232 <<< ((18 : Int32) &&& 31)) ||| ((0 : Int32) <<< ((12 : Int32) &&& 31))) ||| ((0 : Int32) <<< ((6 : Int32) &&& 31))) ||| (0 : Int32)))))])) target
        refine XS.istore Xg385.here hx rfl (hb hby at_388) rfl (l' := #[iv p0, iv p1, iv p2, iv p3, iv p4, iv p5, iv v4, iv v14, iv v21, iv v26, rv b30, iv v92, iv v134, iv v141, iv v148, iv (4 : Int32), iv v232, .unset, iv (1 : Int32), iv (1 : Int32), iv v329, iv v336, iv v343, iv v388, .unset, .unset, .unset, .unset]) (by subst hv388; rfl) ?_
        refine XS.iload Xg385.here hx rfl (hb hby at_390) rfl ?_
        refine XS.iload Xg385.here hx rfl (hb hby at_392) rfl ?_
        refine XS.iload Xg385.here hx rfl (hb hby at_394) rfl ?_
        refine XS.iconst Xg385.here hx rfl (hb hby at_396) ?_
        refine XS.icmpYes Xg385.here hx rfl (pc0 := 397) (pc' := 405) rfl (hb hby at_397) rfl (tlt (by decide : (1 : Int32) < (2 : Int32))).1 (by decide) (by decide) ?_
        refine XS.bipush Xg385.here hx rfl (hb hby at_405) ?_
        refine XS.iload Xg385.here hx rfl (hb hby at_407) rfl ?_
        show Steps p.tables e below (Tg385.setTop (mkF m 409 #[iv p0, iv p1, iv p2, iv p3, iv p4, iv p5, iv v4, iv v14, iv v21, iv v26, rv b30, iv v92, iv v134, iv v141, iv v148, iv (4 : Int32), iv v232, .unset, iv (1 : Int32), iv (1 : Int32), iv v329, iv v336, iv v343, iv v388, .unset, .unset, .unset, .unset] [(.int (1 : Int32)), (.int (63 : Int32)), (.int v232), (.int (4 : Int32))])) target
        refine XS.iconst Xg385.here hx rfl (hb hby at_409) ?_
        refine XS.icmpYes Xg385.here hx rfl (pc0 := 410) (pc' := 418) rfl (hb hby at_410) rfl (tlt (by decide : (1 : Int32) < (3 : Int32))).1 (by decide) (by decide) ?_
        refine XS.bipush Xg385.here hx rfl (hb hby at_418) ?_
        refine XS.iload Xg385.here hx rfl (hb hby at_420) rfl ?_
        refine XS.iconst Xg385.here hx rfl (hb hby at_422) ?_
        refine XS.icmpYes Xg385.here hx rfl (pc0 := 423) (pc' := 431) rfl (hb hby at_423) rfl (tlt (by decide : (1 : Int32) < (4 : Int32))).1 (by decide) (by decide) ?_
        refine XS.bipush Xg385.here hx rfl (hb hby at_431) ?_
        exact kt
      obtain ⟨_, _, ⟨Tg433, Lg433, kg433, ng433⟩, -, Xg433, ⟨Lcg433, hQg433, lg433, yg433, zg433⟩, stg433⟩ := Jvm.LawKit.callS Xg385 hx (y := (⟨"com/example/psyche/psyche/XmlCharsSequenceLengthPinLaw", "compose", "(IIIII)I"⟩ : MethodName)) hown (mvT hZ (hw _ (List.mem_of_getElem? (i := 9) rfl))) (mvT hZ (hw _ (List.mem_of_getElem? (i := 10) rfl))) (mvT hZ (hw _ (List.mem_of_getElem? (i := 11) rfl))) (mvT hZ (hw _ (List.mem_of_getElem? (i := 12) rfl))) (by decide) (backOf (W := 0) (own_rm3 l Z a0 hw [] (4 : Int32) v232 (63 : Int32) (63 : Int32) (63 : Int32) hg128 n0 Zz_12) hZ (hw _ (List.mem_of_getElem? (i := 12) rfl)) (hw _ (List.mem_of_getElem? (i := 11) rfl)) (by decide) (by decide)) (g := (mkF m 433 #[iv p0, iv p1, iv p2, iv p3, iv p4, iv p5, iv v4, iv v14, iv v21, iv v26, rv b30, iv v92, iv v134, iv v141, iv v148, iv (4 : Int32), iv v232, .unset, iv (1 : Int32), iv (1 : Int32), iv v329, iv v336, iv v343, iv v388, .unset, .unset, .unset, .unset] [(.int (63 : Int32)), (.int (63 : Int32)), (.int (63 : Int32)), (.int v232), (.int (4 : Int32))])) rfl (by rw [hml]; rfl) (argsL := [(.int (4 : Int32)), (.int v232), (.int (63 : Int32)), (.int (63 : Int32)), (.int (63 : Int32))]) (rest := []) (lenOf own_pd2 rfl) rfl (by show 2 * 0 + _ ≤ _; exact Nat.le_of_eq rfl) (hb hby at_433) (fun _ _ => ⟨rfl, eg385, (by decide : 1 + 0 ≤ _), (by decide : 8 + 0 ≤ _)⟩)
      dsimp only [Pt.U, Pt.locs, Pt.cells, Pt.slots] at Xg433 lg433 yg433 zg433 stg433 hQg433
      subst lg433 yg433 zg433
      obtain ⟨rfl, Ng433q, eg433⟩ := hQg433
      have Ng433 := Fr.app Ng385 Ng433q
      refine own_st (stg433) ?_
      obtain ⟨v436, hv436⟩ : ∃ z : Int32, z = (if (4 : Int32) = (2 : Int32) then ((v232 <<< ((6 : Int32) &&& 31)) ||| (63 : Int32)) else (if (4 : Int32) = (3 : Int32) then (((v232 <<< ((12 : Int32) &&& 31)) ||| ((63 : Int32) <<< ((6 : Int32) &&& 31))) ||| (63 : Int32)) else ((((v232 <<< ((18 : Int32) &&& 31)) ||| ((63 : Int32) <<< ((12 : Int32) &&& 31))) ||| ((63 : Int32) <<< ((6 : Int32) &&& 31))) ||| (63 : Int32)))) := ⟨_, rfl⟩
      refine own_st (B := Tg433.setTop (mkF m 487 #[iv p0, iv p1, iv p2, iv p3, iv p4, iv p5, iv v4, iv v14, iv v21, iv v26, rv b30, iv v92, iv v134, iv v141, iv v148, iv (4 : Int32), iv v232, .unset, iv (1 : Int32), iv (1 : Int32), iv v329, iv v336, iv v343, iv v388, iv v436, iv (65536 : Int32), iv (1114111 : Int32), .unset] [(.int (65536 : Int32)), (.int v436)])) (fun target kt => ?_) ?_
      · show Steps p.tables e below (Tg433.setTop (mkF m 436 #[iv p0, iv p1, iv p2, iv p3, iv p4, iv p5, iv v4, iv v14, iv v21, iv v26, rv b30, iv v92, iv v134, iv v141, iv v148, iv (4 : Int32), iv v232, .unset, iv (1 : Int32), iv (1 : Int32), iv v329, iv v336, iv v343, iv v388, .unset, .unset, .unset, .unset] [(.int (if (4 : Int32) = (2 : Int32) then ((v232 <<< ((6 : Int32) &&& 31)) ||| (63 : Int32)) else (if (4 : Int32) = (3 : Int32) then (((v232 <<< ((12 : Int32) &&& 31)) ||| ((63 : Int32) <<< ((6 : Int32) &&& 31))) ||| (63 : Int32)) else ((((v232 <<< ((18 : Int32) &&& 31)) ||| ((63 : Int32) <<< ((12 : Int32) &&& 31))) ||| ((63 : Int32) <<< ((6 : Int32) &&& 31))) ||| (63 : Int32)))))])) target
        refine XS.istore Xg433.here hx rfl (hb hby at_436) rfl (l' := #[iv p0, iv p1, iv p2, iv p3, iv p4, iv p5, iv v4, iv v14, iv v21, iv v26, rv b30, iv v92, iv v134, iv v141, iv v148, iv (4 : Int32), iv v232, .unset, iv (1 : Int32), iv (1 : Int32), iv v329, iv v336, iv v343, iv v388, iv v436, .unset, .unset, .unset]) (by subst hv436; rfl) ?_
        refine XS.iload Xg433.here hx rfl (hb hby at_438) rfl ?_
        refine XS.iconst Xg433.here hx rfl (hb hby at_440) ?_
        refine XS.icmpYes Xg433.here hx rfl (pc0 := 441) (pc' := 457) rfl (hb hby at_441) rfl (feq (by decide : ¬ ((4 : Int32) = (2 : Int32)))).2 (by decide) (by decide) ?_
        refine XS.iload Xg433.here hx rfl (hb hby at_457) rfl ?_
        refine XS.iconst Xg433.here hx rfl (hb hby at_459) ?_
        refine XS.icmpYes Xg433.here hx rfl (pc0 := 460) (pc' := 475) rfl (hb hby at_460) rfl (feq (by decide : ¬ ((4 : Int32) = (3 : Int32)))).2 (by decide) (by decide) ?_
        refine Xg433.ldcInt hx hown (mvT hZ (hw _ (List.mem_of_getElem? (i := 15) rfl))) (g := (mkF m 475 #[iv p0, iv p1, iv p2, iv p3, iv p4, iv p5, iv v4, iv v14, iv v21, iv v26, rv b30, iv v92, iv v134, iv v141, iv v148, iv (4 : Int32), iv v232, .unset, iv (1 : Int32), iv (1 : Int32), iv v329, iv v336, iv v343, iv v388, iv v436, .unset, .unset, .unset] [])) rfl (hb hby at_475) _ ?_
        show Steps p.tables e below (Tg433.setTop (mkF m 477 #[iv p0, iv p1, iv p2, iv p3, iv p4, iv p5, iv v4, iv v14, iv v21, iv v26, rv b30, iv v92, iv v134, iv v141, iv v148, iv (4 : Int32), iv v232, .unset, iv (1 : Int32), iv (1 : Int32), iv v329, iv v336, iv v343, iv v388, iv v436, .unset, .unset, .unset] [(.int (65536 : Int32))])) target
        refine XS.istore Xg433.here hx rfl (hb hby at_477) rfl (l' := #[iv p0, iv p1, iv p2, iv p3, iv p4, iv p5, iv v4, iv v14, iv v21, iv v26, rv b30, iv v92, iv v134, iv v141, iv v148, iv (4 : Int32), iv v232, .unset, iv (1 : Int32), iv (1 : Int32), iv v329, iv v336, iv v343, iv v388, iv v436, iv (65536 : Int32), .unset, .unset]) rfl ?_
        refine Xg433.ldcInt hx hown (mvT hZ (hw _ (List.mem_of_getElem? (i := 16) rfl))) (g := (mkF m 479 #[iv p0, iv p1, iv p2, iv p3, iv p4, iv p5, iv v4, iv v14, iv v21, iv v26, rv b30, iv v92, iv v134, iv v141, iv v148, iv (4 : Int32), iv v232, .unset, iv (1 : Int32), iv (1 : Int32), iv v329, iv v336, iv v343, iv v388, iv v436, iv (65536 : Int32), .unset, .unset] [])) rfl (hb hby at_479) _ ?_
        refine XS.istore Xg433.here hx rfl (hb hby at_481) rfl (l' := #[iv p0, iv p1, iv p2, iv p3, iv p4, iv p5, iv v4, iv v14, iv v21, iv v26, rv b30, iv v92, iv v134, iv v141, iv v148, iv (4 : Int32), iv v232, .unset, iv (1 : Int32), iv (1 : Int32), iv v329, iv v336, iv v343, iv v388, iv v436, iv (65536 : Int32), iv (1114111 : Int32), .unset]) rfl ?_
        refine XS.iload Xg433.here hx rfl (hb hby at_483) rfl ?_
        refine XS.iload Xg433.here hx rfl (hb hby at_485) rfl ?_
        exact kt
      obtain ⟨_, ⟨j522_s0, rfl, rfl⟩, st_M522⟩ : own_Lead p.tables e below (Tg433.setTop (mkF m 487 #[iv p0, iv p1, iv p2, iv p3, iv p4, iv p5, iv v4, iv v14, iv v21, iv v26, rv b30, iv v92, iv v134, iv v141, iv v148, iv (4 : Int32), iv v232, .unset, iv (1 : Int32), iv (1 : Int32), iv v329, iv v336, iv v343, iv v388, iv v436, iv (65536 : Int32), iv (1114111 : Int32), .unset] [(.int (65536 : Int32)), (.int v436)])) (fun B => ∃ (j522_s0 : Int32), B = Tg433.setTop (mkF m 522 #[iv p0, iv p1, iv p2, iv p3, iv p4, iv p5, iv v4, iv v14, iv v21, iv v26, rv b30, iv v92, iv v134, iv v141, iv v148, iv (4 : Int32), iv v232, .unset, iv (1 : Int32), iv (1 : Int32), iv v329, iv v336, iv v343, iv v388, iv v436, iv (65536 : Int32), iv (1114111 : Int32), .unset] [(.int j522_s0)]) ∧ j522_s0 = own_b ((¬ (v436 < (65536 : Int32)) ∧ (¬ ((1114111 : Int32) < v388))))) := by
        by_cases c487 : v436 < (65536 : Int32)
        · refine own_st (B := Tg433.setTop (mkF m 522 #[iv p0, iv p1, iv p2, iv p3, iv p4, iv p5, iv v4, iv v14, iv v21, iv v26, rv b30, iv v92, iv v134, iv v141, iv v148, iv (4 : Int32), iv v232, .unset, iv (1 : Int32), iv (1 : Int32), iv v329, iv v336, iv v343, iv v388, iv v436, iv (65536 : Int32), iv (1114111 : Int32), .unset] [(.int (0 : Int32))])) (fun target kt => ?_) ?_
          · show Steps p.tables e below (Tg433.setTop (mkF m 487 #[iv p0, iv p1, iv p2, iv p3, iv p4, iv p5, iv v4, iv v14, iv v21, iv v26, rv b30, iv v92, iv v134, iv v141, iv v148, iv (4 : Int32), iv v232, .unset, iv (1 : Int32), iv (1 : Int32), iv v329, iv v336, iv v343, iv v388, iv v436, iv (65536 : Int32), iv (1114111 : Int32), .unset] [(.int (65536 : Int32)), (.int v436)])) target
            refine XS.icmpYes Xg433.here hx rfl (pc0 := 487) (pc' := 521) rfl (hb hby at_487) rfl (tlt c487).1 (by decide) (by decide) ?_
            refine XS.iconst Xg433.here hx rfl (hb hby at_521) ?_
            exact kt
          exact ⟨_, ⟨(0 : Int32), rfl, (own_b0 (fun w => w.1 c487)).symm⟩, fun _ k => k⟩
        · refine own_st (B := Tg433.setTop (mkF m 494 #[iv p0, iv p1, iv p2, iv p3, iv p4, iv p5, iv v4, iv v14, iv v21, iv v26, rv b30, iv v92, iv v134, iv v141, iv v148, iv (4 : Int32), iv v232, .unset, iv (1 : Int32), iv (1 : Int32), iv v329, iv v336, iv v343, iv v388, iv v436, iv (65536 : Int32), iv (1114111 : Int32), .unset] [(.int (1114111 : Int32)), (.int v388)])) (fun target kt => ?_) ?_
          · show Steps p.tables e below (Tg433.setTop (mkF m 487 #[iv p0, iv p1, iv p2, iv p3, iv p4, iv p5, iv v4, iv v14, iv v21, iv v26, rv b30, iv v92, iv v134, iv v141, iv v148, iv (4 : Int32), iv v232, .unset, iv (1 : Int32), iv (1 : Int32), iv v329, iv v336, iv v343, iv v388, iv v436, iv (65536 : Int32), iv (1114111 : Int32), .unset] [(.int (65536 : Int32)), (.int v436)])) target
            refine XS.icmpNo Xg433.here hx rfl (hb hby at_487) rfl (flt c487).1 ?_
            refine XS.iload Xg433.here hx rfl (hb hby at_490) rfl ?_
            refine XS.iload Xg433.here hx rfl (hb hby at_492) rfl ?_
            exact kt
          by_cases c494 : (1114111 : Int32) < v388
          · refine own_st (B := Tg433.setTop (mkF m 522 #[iv p0, iv p1, iv p2, iv p3, iv p4, iv p5, iv v4, iv v14, iv v21, iv v26, rv b30, iv v92, iv v134, iv v141, iv v148, iv (4 : Int32), iv v232, .unset, iv (1 : Int32), iv (1 : Int32), iv v329, iv v336, iv v343, iv v388, iv v436, iv (65536 : Int32), iv (1114111 : Int32), .unset] [(.int (0 : Int32))])) (fun target kt => ?_) ?_
            · show Steps p.tables e below (Tg433.setTop (mkF m 494 #[iv p0, iv p1, iv p2, iv p3, iv p4, iv p5, iv v4, iv v14, iv v21, iv v26, rv b30, iv v92, iv v134, iv v141, iv v148, iv (4 : Int32), iv v232, .unset, iv (1 : Int32), iv (1 : Int32), iv v329, iv v336, iv v343, iv v388, iv v436, iv (65536 : Int32), iv (1114111 : Int32), .unset] [(.int (1114111 : Int32)), (.int v388)])) target
              refine XS.icmpYes Xg433.here hx rfl (pc0 := 494) (pc' := 521) rfl (hb hby at_494) rfl (tlt c494).2.2.1 (by decide) (by decide) ?_
              refine XS.iconst Xg433.here hx rfl (hb hby at_521) ?_
              exact kt
            exact ⟨_, ⟨(0 : Int32), rfl, (own_b0 (fun w => (fun w => w c494) w.2)).symm⟩, fun _ k => k⟩
          · refine own_st (B := Tg433.setTop (mkF m 522 #[iv p0, iv p1, iv p2, iv p3, iv p4, iv p5, iv v4, iv v14, iv v21, iv v26, rv b30, iv v92, iv v134, iv v141, iv v148, iv (4 : Int32), iv v232, .unset, iv (1 : Int32), iv (1 : Int32), iv v329, iv v336, iv v343, iv v388, iv v436, iv (65536 : Int32), iv (1114111 : Int32), .unset] [(.int (1 : Int32))])) (fun target kt => ?_) ?_
            · show Steps p.tables e below (Tg433.setTop (mkF m 494 #[iv p0, iv p1, iv p2, iv p3, iv p4, iv p5, iv v4, iv v14, iv v21, iv v26, rv b30, iv v92, iv v134, iv v141, iv v148, iv (4 : Int32), iv v232, .unset, iv (1 : Int32), iv (1 : Int32), iv v329, iv v336, iv v343, iv v388, iv v436, iv (65536 : Int32), iv (1114111 : Int32), .unset] [(.int (1114111 : Int32)), (.int v388)])) target
              refine XS.icmpNo Xg433.here hx rfl (hb hby at_494) rfl (flt c494).2.2.1 ?_
              refine XS.iload Xg433.here hx rfl (hb hby at_497) rfl ?_
              refine XS.iconst Xg433.here hx rfl (hb hby at_499) ?_
              refine XS.icmpYes Xg433.here hx rfl (pc0 := 500) (pc' := 517) rfl (hb hby at_500) rfl (feq (by decide : ¬ ((4 : Int32) = (3 : Int32)))).2 (by decide) (by decide) ?_
              refine XS.iconst Xg433.here hx rfl (hb hby at_517) ?_
              refine XS.goto Xg433.here hx rfl (pc0 := 518) (pc' := 522) rfl (hb hby at_518) (by decide) (by decide) ?_
              exact kt
            exact ⟨_, ⟨(1 : Int32), rfl, (own_b1 ⟨c487, c494⟩).symm⟩, fun _ k => k⟩
      refine own_st st_M522 ?_
      refine own_st (B := Tg433.setTop (mkF m 531 #[iv p0, iv p1, iv p2, iv p3, iv p4, iv p5, iv v4, iv v14, iv v21, iv v26, rv b30, iv v92, iv v134, iv v141, iv v148, iv (4 : Int32), iv v232, .unset, iv (1 : Int32), iv (1 : Int32), iv v329, iv v336, iv v343, iv v388, iv v436, iv (65536 : Int32), iv (1114111 : Int32), iv (own_b (¬ (v436 < (65536 : Int32)) ∧ (¬ ((1114111 : Int32) < v388))))] [(.int (own_b (¬ (v436 < (65536 : Int32)) ∧ (¬ ((1114111 : Int32) < v388)))))])) (fun target kt => ?_) ?_
      · show Steps p.tables e below (Tg433.setTop (mkF m 522 #[iv p0, iv p1, iv p2, iv p3, iv p4, iv p5, iv v4, iv v14, iv v21, iv v26, rv b30, iv v92, iv v134, iv v141, iv v148, iv (4 : Int32), iv v232, .unset, iv (1 : Int32), iv (1 : Int32), iv v329, iv v336, iv v343, iv v388, iv v436, iv (65536 : Int32), iv (1114111 : Int32), .unset] [(.int (own_b (¬ (v436 < (65536 : Int32)) ∧ (¬ ((1114111 : Int32) < v388)))))])) target
        refine XS.istore Xg433.here hx rfl (hb hby at_522) rfl (l' := #[iv p0, iv p1, iv p2, iv p3, iv p4, iv p5, iv v4, iv v14, iv v21, iv v26, rv b30, iv v92, iv v134, iv v141, iv v148, iv (4 : Int32), iv v232, .unset, iv (1 : Int32), iv (1 : Int32), iv v329, iv v336, iv v343, iv v388, iv v436, iv (65536 : Int32), iv (1114111 : Int32), iv (own_b (¬ (v436 < (65536 : Int32)) ∧ (¬ ((1114111 : Int32) < v388))))]) rfl ?_
        refine XS.iload Xg433.here hx rfl (hb hby at_524) rfl ?_
        refine XS.ifNo Xg433.here hx rfl (hb hby at_526) rfl ((if0 _ _).trans (feq (by decide : ¬ ((1 : Int32) = (0 : Int32)))).1) ?_
        refine XS.iload Xg433.here hx rfl (hb hby at_529) rfl ?_
        exact kt
      obtain ⟨_, ⟨j584_l17, rfl, hj584_l17⟩, st_M584⟩ : own_Lead p.tables e below (Tg433.setTop (mkF m 531 #[iv p0, iv p1, iv p2, iv p3, iv p4, iv p5, iv v4, iv v14, iv v21, iv v26, rv b30, iv v92, iv v134, iv v141, iv v148, iv (4 : Int32), iv v232, .unset, iv (1 : Int32), iv (1 : Int32), iv v329, iv v336, iv v343, iv v388, iv v436, iv (65536 : Int32), iv (1114111 : Int32), iv (own_b (¬ (v436 < (65536 : Int32)) ∧ (¬ ((1114111 : Int32) < v388))))] [(.int (own_b (¬ (v436 < (65536 : Int32)) ∧ (¬ ((1114111 : Int32) < v388)))))])) (fun B => ∃ (j584_l17 : Int32), B = Tg433.setTop (mkF m 584 #[iv p0, iv p1, iv p2, iv p3, iv p4, iv p5, iv v4, iv v14, iv v21, iv v26, rv b30, iv v92, iv v134, iv v141, iv v148, iv (4 : Int32), iv v232, iv j584_l17, iv (1 : Int32), iv (1 : Int32), iv v329, iv v336, iv v343, iv v388, iv v436, iv (65536 : Int32), iv (1114111 : Int32), iv (own_b (¬ (v436 < (65536 : Int32)) ∧ (¬ ((1114111 : Int32) < v388))))] []) ∧ j584_l17 = (if ¬ (v436 < (65536 : Int32)) ∧ (¬ ((1114111 : Int32) < v388)) then (0 : Int32) else (-1 : Int32))) := by
        by_cases c531 : ¬ (v436 < (65536 : Int32)) ∧ (¬ ((1114111 : Int32) < v388))
        · refine own_st (B := Tg433.setTop (mkF m 584 #[iv p0, iv p1, iv p2, iv p3, iv p4, iv p5, iv v4, iv v14, iv v21, iv v26, rv b30, iv v92, iv v134, iv v141, iv v148, iv (4 : Int32), iv v232, iv (0 : Int32), iv (1 : Int32), iv (1 : Int32), iv v329, iv v336, iv v343, iv v388, iv v436, iv (65536 : Int32), iv (1114111 : Int32), iv (own_b (¬ (v436 < (65536 : Int32)) ∧ (¬ ((1114111 : Int32) < v388))))] [])) (fun target kt => ?_) ?_
          · show Steps p.tables e below (Tg433.setTop (mkF m 531 #[iv p0, iv p1, iv p2, iv p3, iv p4, iv p5, iv v4, iv v14, iv v21, iv v26, rv b30, iv v92, iv v134, iv v141, iv v148, iv (4 : Int32), iv v232, .unset, iv (1 : Int32), iv (1 : Int32), iv v329, iv v336, iv v343, iv v388, iv v436, iv (65536 : Int32), iv (1114111 : Int32), iv (own_b (¬ (v436 < (65536 : Int32)) ∧ (¬ ((1114111 : Int32) < v388))))] [(.int (own_b (¬ (v436 < (65536 : Int32)) ∧ (¬ ((1114111 : Int32) < v388)))))])) target
            refine XS.ifYes Xg433.here hx rfl (pc0 := 531) (pc' := 540) rfl (hb hby at_531) rfl ((if0 _ _).trans (feq (own_bn0 rfl c531)).2) (by decide) (by decide) ?_
            refine XS.iload Xg433.here hx rfl (hb hby at_540) rfl ?_
            refine XS.iload Xg433.here hx rfl (hb hby at_542) rfl ?_
            refine XS.icmpNo Xg433.here hx rfl (hb hby at_544) rfl (tlt (by decide : (1 : Int32) < (4 : Int32))).2.1 ?_
            refine XS.iconst Xg433.here hx rfl (hb hby at_547) ?_
            refine XS.istore Xg433.here hx rfl (hb hby at_548) rfl (l' := #[iv p0, iv p1, iv p2, iv p3, iv p4, iv p5, iv v4, iv v14, iv v21, iv v26, rv b30, iv v92, iv v134, iv v141, iv v148, iv (4 : Int32), iv v232, iv (0 : Int32), iv (1 : Int32), iv (1 : Int32), iv v329, iv v336, iv v343, iv v388, iv v436, iv (65536 : Int32), iv (1114111 : Int32), iv (own_b (¬ (v436 < (65536 : Int32)) ∧ (¬ ((1114111 : Int32) < v388))))]) rfl ?_
            refine XS.goto Xg433.here hx rfl (pc0 := 550) (pc' := 584) rfl (hb hby at_550) (by decide) (by decide) ?_
            exact kt
          exact ⟨_, ⟨(0 : Int32), rfl, (if_pos c531).symm⟩, fun _ k => k⟩
        · refine own_st (B := Tg433.setTop (mkF m 584 #[iv p0, iv p1, iv p2, iv p3, iv p4, iv p5, iv v4, iv v14, iv v21, iv v26, rv b30, iv v92, iv v134, iv v141, iv v148, iv (4 : Int32), iv v232, iv (-1 : Int32), iv (1 : Int32), iv (1 : Int32), iv v329, iv v336, iv v343, iv v388, iv v436, iv (65536 : Int32), iv (1114111 : Int32), iv (own_b (¬ (v436 < (65536 : Int32)) ∧ (¬ ((1114111 : Int32) < v388))))] [])) (fun target kt => ?_) ?_
          · show Steps p.tables e below (Tg433.setTop (mkF m 531 #[iv p0, iv p1, iv p2, iv p3, iv p4, iv p5, iv v4, iv v14, iv v21, iv v26, rv b30, iv v92, iv v134, iv v141, iv v148, iv (4 : Int32), iv v232, .unset, iv (1 : Int32), iv (1 : Int32), iv v329, iv v336, iv v343, iv v388, iv v436, iv (65536 : Int32), iv (1114111 : Int32), iv (own_b (¬ (v436 < (65536 : Int32)) ∧ (¬ ((1114111 : Int32) < v388))))] [(.int (own_b (¬ (v436 < (65536 : Int32)) ∧ (¬ ((1114111 : Int32) < v388)))))])) target
            refine XS.ifNo Xg433.here hx rfl (hb hby at_531) rfl ((if0 _ _).trans (teq (own_b00 rfl c531)).2) ?_
            refine XS.iconst Xg433.here hx rfl (hb hby at_534) ?_
            refine XS.istore Xg433.here hx rfl (hb hby at_535) rfl (l' := #[iv p0, iv p1, iv p2, iv p3, iv p4, iv p5, iv v4, iv v14, iv v21, iv v26, rv b30, iv v92, iv v134, iv v141, iv v148, iv (4 : Int32), iv v232, iv (-1 : Int32), iv (1 : Int32), iv (1 : Int32), iv v329, iv v336, iv v343, iv v388, iv v436, iv (65536 : Int32), iv (1114111 : Int32), iv (own_b (¬ (v436 < (65536 : Int32)) ∧ (¬ ((1114111 : Int32) < v388))))]) rfl ?_
            refine XS.goto Xg433.here hx rfl (pc0 := 537) (pc' := 584) rfl (hb hby at_537) (by decide) (by decide) ?_
            exact kt
          exact ⟨_, ⟨(-1 : Int32), rfl, (if_neg c531).symm⟩, fun _ k => k⟩
      refine own_st st_M584 ?_
      refine own_st (B := Tg433.setTop (mkF m 590 #[iv p0, iv p1, iv p2, iv p3, iv p4, iv p5, iv v4, iv v14, iv v21, iv v26, rv b30, iv v92, iv v134, iv v141, iv v148, iv (4 : Int32), iv v232, iv j584_l17, iv (1 : Int32), iv (1 : Int32), iv v329, iv v336, iv v343, iv v388, iv v436, iv (65536 : Int32), iv (1114111 : Int32), iv (own_b (¬ (v436 < (65536 : Int32)) ∧ (¬ ((1114111 : Int32) < v388))))] [(.int v21), (.int v4), (.ref b30)])) (fun target kt => ?_) ?_
      · show Steps p.tables e below (Tg433.setTop (mkF m 584 #[iv p0, iv p1, iv p2, iv p3, iv p4, iv p5, iv v4, iv v14, iv v21, iv v26, rv b30, iv v92, iv v134, iv v141, iv v148, iv (4 : Int32), iv v232, iv j584_l17, iv (1 : Int32), iv (1 : Int32), iv v329, iv v336, iv v343, iv v388, iv v436, iv (65536 : Int32), iv (1114111 : Int32), iv (own_b (¬ (v436 < (65536 : Int32)) ∧ (¬ ((1114111 : Int32) < v388))))] [])) target
        refine XS.aload Xg433.here hx rfl (hb hby at_584) rfl rfl ?_
        refine XS.iload Xg433.here hx rfl (hb hby at_586) rfl ?_
        refine XS.iload Xg433.here hx rfl (hb hby at_588) rfl ?_
        exact kt
      obtain ⟨_, _, ⟨Tg590, Lg590, kg590, ng590⟩, -, Xg590, ⟨Lcg590, hQg590, lg590, yg590, zg590⟩, stg590⟩ := Jvm.LawKit.callS Xg433 hx (y := (⟨"com/example/psyche/psyche/XmlChars", "sequenceLength", "([BII)I"⟩ : MethodName)) hown (mvT hZ (hw _ (List.mem_of_getElem? (i := 1) rfl))) (mvT hZ (hw _ (List.mem_of_getElem? (i := 2) rfl))) (mvT hZ (hw _ (List.mem_of_getElem? (i := 3) rfl))) (mvT hZ (hw _ (List.mem_of_getElem? (i := 4) rfl))) (by decide) (backOf (W := 0) (own_rm1_D l Z a0 hw [] b30 v4 v21 a128 hg128 n0 Zz_12 F_24 (show v4 = (0 : Int32) ∨ v4 = (1 : Int32) ∨ v4 = (2 : Int32) ∨ v4 = (3 : Int32) from hat) (show ¬ ((a128 (v4).toNatClampNeg) &&& (255 : Int32)) < (194 : Int32) from (by rw [hLD, Int32.lt_iff_toInt_lt, show (194 : Int32).toInt = 194 by decide]; omega)) (show ¬ ((a128 (v4).toNatClampNeg) &&& (255 : Int32)) < (224 : Int32) from (by rw [hLD, Int32.lt_iff_toInt_lt, show (224 : Int32).toInt = 224 by decide]; omega)) (show ¬ ((a128 (v4).toNatClampNeg) &&& (255 : Int32)) < (240 : Int32) from (by rw [hLD, Int32.lt_iff_toInt_lt, show (240 : Int32).toInt = 240 by decide]; omega))) hZ (hw _ (List.mem_of_getElem? (i := 4) rfl)) (hw _ (List.mem_of_getElem? (i := 3) rfl)) (by decide) (by decide)) (g := (mkF m 590 #[iv p0, iv p1, iv p2, iv p3, iv p4, iv p5, iv v4, iv v14, iv v21, iv v26, rv b30, iv v92, iv v134, iv v141, iv v148, iv (4 : Int32), iv v232, iv j584_l17, iv (1 : Int32), iv (1 : Int32), iv v329, iv v336, iv v343, iv v388, iv v436, iv (65536 : Int32), iv (1114111 : Int32), iv (own_b (¬ (v436 < (65536 : Int32)) ∧ (¬ ((1114111 : Int32) < v388))))] [(.int v21), (.int v4), (.ref b30)])) rfl (by rw [hml]; rfl) (argsL := [(.ref b30), (.int v4), (.int v21)]) (rest := []) (lenOf own_pd0 rfl) rfl (by show 2 * 0 + _ ≤ _; exact Nat.le_of_eq rfl) (hb hby at_590) (fun _ _ => ⟨rfl, eg433, (by decide : 1 + 0 ≤ _), (by decide : 8 + 0 ≤ _)⟩)
      dsimp only [Pt.U, Pt.locs, Pt.cells, Pt.slots] at Xg590 lg590 yg590 zg590 stg590 hQg590
      subst lg590 yg590 zg590
      obtain ⟨rfl, Ng590q, eg590⟩ := hQg590
      have Ng590 := Fr.app Ng433 Ng590q
      refine own_st (stg590) ?_
      refine own_st (B := Tg590.setTop (mkF m 595 #[iv p0, iv p1, iv p2, iv p3, iv p4, iv p5, iv v4, iv v14, iv v21, iv v26, rv b30, iv v92, iv v134, iv v141, iv v148, iv (4 : Int32), iv v232, iv j584_l17, iv (1 : Int32), iv (1 : Int32), iv v329, iv v336, iv v343, iv v388, iv v436, iv (65536 : Int32), iv (1114111 : Int32), iv (own_b (¬ (v436 < (65536 : Int32)) ∧ (¬ ((1114111 : Int32) < v388))))] [(.int j584_l17), (.int (if ((a128 (v4).toNatClampNeg) &&& (255 : Int32)) < (245 : Int32) then (if (v4 + (1 : Int32)) < v21 then (if ((a128 (v4 + (1 : Int32)).toNatClampNeg) &&& (255 : Int32)) < (if ((a128 (v4).toNatClampNeg) &&& (255 : Int32)) = (240 : Int32) then (144 : Int32) else (128 : Int32)) then (-1 : Int32) else (if (if ((a128 (v4).toNatClampNeg) &&& (255 : Int32)) = (240 : Int32) then (191 : Int32) else (if ((a128 (v4).toNatClampNeg) &&& (255 : Int32)) = (244 : Int32) then (143 : Int32) else (191 : Int32))) < ((a128 (v4 + (1 : Int32)).toNatClampNeg) &&& (255 : Int32)) then (-1 : Int32) else (if (v4 + (2 : Int32)) < v21 then (if ((a128 (v4 + (2 : Int32)).toNatClampNeg) &&& (255 : Int32)) < (128 : Int32) then (-1 : Int32) else (if (191 : Int32) < ((a128 (v4 + (2 : Int32)).toNatClampNeg) &&& (255 : Int32)) then (-1 : Int32) else (if (v4 + (3 : Int32)) < v21 then (if ((a128 (v4 + (3 : Int32)).toNatClampNeg) &&& (255 : Int32)) < (128 : Int32) then (-1 : Int32) else (if (191 : Int32) < ((a128 (v4 + (3 : Int32)).toNatClampNeg) &&& (255 : Int32)) then (-1 : Int32) else (if ((a128 (v4).toNatClampNeg) &&& (255 : Int32)) = (239 : Int32) then (if (a128 (v4 + (1 : Int32)).toNatClampNeg) = (-65 : Int32) then (if ((a128 (v4 + (2 : Int32)).toNatClampNeg) &&& (254 : Int32)) = (190 : Int32) then (-2 : Int32) else (4 : Int32)) else (4 : Int32)) else (4 : Int32)))) else (0 : Int32)))) else (0 : Int32)))) else (0 : Int32)) else (-1 : Int32)))])) (fun target kt => ?_) ?_
      · show Steps p.tables e below (Tg590.setTop (mkF m 593 #[iv p0, iv p1, iv p2, iv p3, iv p4, iv p5, iv v4, iv v14, iv v21, iv v26, rv b30, iv v92, iv v134, iv v141, iv v148, iv (4 : Int32), iv v232, iv j584_l17, iv (1 : Int32), iv (1 : Int32), iv v329, iv v336, iv v343, iv v388, iv v436, iv (65536 : Int32), iv (1114111 : Int32), iv (own_b (¬ (v436 < (65536 : Int32)) ∧ (¬ ((1114111 : Int32) < v388))))] [(.int (if ((a128 (v4).toNatClampNeg) &&& (255 : Int32)) < (245 : Int32) then (if (v4 + (1 : Int32)) < v21 then (if ((a128 (v4 + (1 : Int32)).toNatClampNeg) &&& (255 : Int32)) < (if ((a128 (v4).toNatClampNeg) &&& (255 : Int32)) = (240 : Int32) then (144 : Int32) else (128 : Int32)) then (-1 : Int32) else (if (if ((a128 (v4).toNatClampNeg) &&& (255 : Int32)) = (240 : Int32) then (191 : Int32) else (if ((a128 (v4).toNatClampNeg) &&& (255 : Int32)) = (244 : Int32) then (143 : Int32) else (191 : Int32))) < ((a128 (v4 + (1 : Int32)).toNatClampNeg) &&& (255 : Int32)) then (-1 : Int32) else (if (v4 + (2 : Int32)) < v21 then (if ((a128 (v4 + (2 : Int32)).toNatClampNeg) &&& (255 : Int32)) < (128 : Int32) then (-1 : Int32) else (if (191 : Int32) < ((a128 (v4 + (2 : Int32)).toNatClampNeg) &&& (255 : Int32)) then (-1 : Int32) else (if (v4 + (3 : Int32)) < v21 then (if ((a128 (v4 + (3 : Int32)).toNatClampNeg) &&& (255 : Int32)) < (128 : Int32) then (-1 : Int32) else (if (191 : Int32) < ((a128 (v4 + (3 : Int32)).toNatClampNeg) &&& (255 : Int32)) then (-1 : Int32) else (if ((a128 (v4).toNatClampNeg) &&& (255 : Int32)) = (239 : Int32) then (if (a128 (v4 + (1 : Int32)).toNatClampNeg) = (-65 : Int32) then (if ((a128 (v4 + (2 : Int32)).toNatClampNeg) &&& (254 : Int32)) = (190 : Int32) then (-2 : Int32) else (4 : Int32)) else (4 : Int32)) else (4 : Int32)))) else (0 : Int32)))) else (0 : Int32)))) else (0 : Int32)) else (-1 : Int32)))])) target
        refine XS.iload Xg590.here hx rfl (hb hby at_593) rfl ?_
        exact kt
      have c595 : (if ((a128 (v4).toNatClampNeg) &&& (255 : Int32)) < (245 : Int32) then (if (v4 + (1 : Int32)) < v21 then (if ((a128 (v4 + (1 : Int32)).toNatClampNeg) &&& (255 : Int32)) < (if ((a128 (v4).toNatClampNeg) &&& (255 : Int32)) = (240 : Int32) then (144 : Int32) else (128 : Int32)) then (-1 : Int32) else (if (if ((a128 (v4).toNatClampNeg) &&& (255 : Int32)) = (240 : Int32) then (191 : Int32) else (if ((a128 (v4).toNatClampNeg) &&& (255 : Int32)) = (244 : Int32) then (143 : Int32) else (191 : Int32))) < ((a128 (v4 + (1 : Int32)).toNatClampNeg) &&& (255 : Int32)) then (-1 : Int32) else (if (v4 + (2 : Int32)) < v21 then (if ((a128 (v4 + (2 : Int32)).toNatClampNeg) &&& (255 : Int32)) < (128 : Int32) then (-1 : Int32) else (if (191 : Int32) < ((a128 (v4 + (2 : Int32)).toNatClampNeg) &&& (255 : Int32)) then (-1 : Int32) else (if (v4 + (3 : Int32)) < v21 then (if ((a128 (v4 + (3 : Int32)).toNatClampNeg) &&& (255 : Int32)) < (128 : Int32) then (-1 : Int32) else (if (191 : Int32) < ((a128 (v4 + (3 : Int32)).toNatClampNeg) &&& (255 : Int32)) then (-1 : Int32) else (if ((a128 (v4).toNatClampNeg) &&& (255 : Int32)) = (239 : Int32) then (if (a128 (v4 + (1 : Int32)).toNatClampNeg) = (-65 : Int32) then (if ((a128 (v4 + (2 : Int32)).toNatClampNeg) &&& (254 : Int32)) = (190 : Int32) then (-2 : Int32) else (4 : Int32)) else (4 : Int32)) else (4 : Int32)))) else (0 : Int32)))) else (0 : Int32)))) else (0 : Int32)) else (-1 : Int32)) = j584_l17 := by
        have hc1 : 0 ≤ v134.toInt ∧ v134.toInt < 256 := by rw [hv134, own_m255]; omega
        have hc2 : 0 ≤ v141.toInt ∧ v141.toInt < 256 := by rw [hv141, own_m255]; omega
        have hc3 : 0 ≤ v148.toInt ∧ v148.toInt < 256 := by rw [hv148, own_m255]; omega
        have hbits : v232.toInt = v92.toInt % 8 := by rw [hv232]; exact own_m7 v92
        have hq1 : v329.toInt = v134.toInt % 64 := by rw [hv329]; exact own_m63 v134
        have hq2 : v336.toInt = v141.toInt % 64 := by rw [hv336]; exact own_m63 v141
        have hq3 : v343.toInt = v148.toInt % 64 := by rw [hv343]; exact own_m63 v148
        have hz0 : (0 : Int32).toInt = 0 := by decide
        have hz63 : (63 : Int32).toInt = 63 := by decide
        have hmn : v388.toInt = (v92.toInt % 8) * 262144 + (0) * 4096 + (0) * 64 + (0) * 1 := by
          rw [hv388, if_neg (by decide), if_neg (by decide), own_p4 _ _ _ _ (by omega) (by omega) (by omega) (by omega) (by omega) (by omega) (by omega) (by omega)]
          omega
        have hmx : v436.toInt = (v92.toInt % 8) * 262144 + (63) * 4096 + (63) * 64 + (63) * 1 := by
          rw [hv436, if_neg (by decide), if_neg (by decide), own_p4 _ _ _ _ (by omega) (by omega) (by omega) (by omega) (by omega) (by omega) (by omega) (by omega)]
          omega
        have hkv := own_kv v14 (4 : Int32) (1 : Int32) hv261
        rw [show (4 : Int32).toInt = 4 by decide, show (1 : Int32).toInt = 1 by decide] at hkv
        rw [hj584_l17]
        simp only [hLD, hA1, hA2, hA3, hM1, hM2, own_c192 v134 hc1.1 hc1.2, own_c192 v141 hc2.1 hc2.2, own_c192 v148 hc3.1 hc3.2, own_lim1 v4 v14 hat hav v21 hv21, own_lim2 v4 v14 hat hav v21 hv21, own_lim3 v4 v14 hat hav v21 hv21]
        exact own_F3_1 v92 v134 v141 v148 v14 v388 v436 (by omega) hc1 hc2 hc3 hav (hkv.1 (by decide)) hmn hmx
      refine own_st (B := Tg590.setTop (mkF m 603 #[iv p0, iv p1, iv p2, iv p3, iv p4, iv p5, iv v4, iv v14, iv v21, iv v26, rv b30, iv v92, iv v134, iv v141, iv v148, iv (4 : Int32), iv v232, iv j584_l17, iv (1 : Int32), iv (1 : Int32), iv v329, iv v336, iv v343, iv v388, iv v436, iv (65536 : Int32), iv (1114111 : Int32), iv (own_b (¬ (v436 < (65536 : Int32)) ∧ (¬ ((1114111 : Int32) < v388))))] [(.int (1 : Int32))])) (fun target kt => ?_) ?_
      · show Steps p.tables e below (Tg590.setTop (mkF m 595 #[iv p0, iv p1, iv p2, iv p3, iv p4, iv p5, iv v4, iv v14, iv v21, iv v26, rv b30, iv v92, iv v134, iv v141, iv v148, iv (4 : Int32), iv v232, iv j584_l17, iv (1 : Int32), iv (1 : Int32), iv v329, iv v336, iv v343, iv v388, iv v436, iv (65536 : Int32), iv (1114111 : Int32), iv (own_b (¬ (v436 < (65536 : Int32)) ∧ (¬ ((1114111 : Int32) < v388))))] [(.int j584_l17), (.int (if ((a128 (v4).toNatClampNeg) &&& (255 : Int32)) < (245 : Int32) then (if (v4 + (1 : Int32)) < v21 then (if ((a128 (v4 + (1 : Int32)).toNatClampNeg) &&& (255 : Int32)) < (if ((a128 (v4).toNatClampNeg) &&& (255 : Int32)) = (240 : Int32) then (144 : Int32) else (128 : Int32)) then (-1 : Int32) else (if (if ((a128 (v4).toNatClampNeg) &&& (255 : Int32)) = (240 : Int32) then (191 : Int32) else (if ((a128 (v4).toNatClampNeg) &&& (255 : Int32)) = (244 : Int32) then (143 : Int32) else (191 : Int32))) < ((a128 (v4 + (1 : Int32)).toNatClampNeg) &&& (255 : Int32)) then (-1 : Int32) else (if (v4 + (2 : Int32)) < v21 then (if ((a128 (v4 + (2 : Int32)).toNatClampNeg) &&& (255 : Int32)) < (128 : Int32) then (-1 : Int32) else (if (191 : Int32) < ((a128 (v4 + (2 : Int32)).toNatClampNeg) &&& (255 : Int32)) then (-1 : Int32) else (if (v4 + (3 : Int32)) < v21 then (if ((a128 (v4 + (3 : Int32)).toNatClampNeg) &&& (255 : Int32)) < (128 : Int32) then (-1 : Int32) else (if (191 : Int32) < ((a128 (v4 + (3 : Int32)).toNatClampNeg) &&& (255 : Int32)) then (-1 : Int32) else (if ((a128 (v4).toNatClampNeg) &&& (255 : Int32)) = (239 : Int32) then (if (a128 (v4 + (1 : Int32)).toNatClampNeg) = (-65 : Int32) then (if ((a128 (v4 + (2 : Int32)).toNatClampNeg) &&& (254 : Int32)) = (190 : Int32) then (-2 : Int32) else (4 : Int32)) else (4 : Int32)) else (4 : Int32)))) else (0 : Int32)))) else (0 : Int32)))) else (0 : Int32)) else (-1 : Int32)))])) target
        refine XS.icmpNo Xg590.here hx rfl (hb hby at_595) rfl (teq c595).2 ?_
        refine XS.iconst Xg590.here hx rfl (hb hby at_598) ?_
        refine XS.goto Xg590.here hx rfl (pc0 := 599) (pc' := 603) rfl (hb hby at_599) (by decide) (by decide) ?_
        exact kt
      obtain ⟨fs, hr, hrun, hended, hW, hsame⟩ := Xg590.leave (v := some (.int (1 : Int32))) (fun h => by rw [Bd.returns] at h; cases h)
      have hend : Steps p.tables e below (Tg590.setTop (mkF m 603 #[iv p0, iv p1, iv p2, iv p3, iv p4, iv p5, iv v4, iv v14, iv v21, iv v26, rv b30, iv v92, iv v134, iv v141, iv v148, iv (4 : Int32), iv v232, iv j584_l17, iv (1 : Int32), iv (1 : Int32), iv v329, iv v336, iv v343, iv v388, iv v436, iv (65536 : Int32), iv (1114111 : Int32), iv (own_b (¬ (v436 < (65536 : Int32)) ∧ (¬ ((1114111 : Int32) < v388))))] [(.int (1 : Int32))])) (Tg590.setFrames fs) := by
        exact retN Xg590 hx (t := .boolean) Bd.returns (by simp) (hb hby at_603) hr
      refine own_fin hend ⟨_, hrun, hended, _, _, rfl, ?_, ⟨_, rfl⟩, hW, hsame.mono (by decide) (by decide)⟩
      show own_Q0 Z p0 p1 p2 p3 p4 p5 h0 n0 _ Tg590.heap _
      rw [eg590]
      exact ⟨rfl, Ng590⟩
    · subst hs263
      refine own_st (B := Tg258.setTop (mkF m 278 #[iv p0, iv p1, iv p2, iv p3, iv p4, iv p5, iv v4, iv v14, iv v21, iv v26, rv b30, iv v92, iv v134, iv v141, iv v148, iv (4 : Int32), iv v232, .unset, iv (2 : Int32), .unset, .unset, .unset, .unset, .unset, .unset, .unset, .unset, .unset] [(.int (128 : Int32)), (.int (v134 &&& (192 : Int32)))])) (fun target kt => ?_) ?_
      · show Steps p.tables e below (Tg258.setTop (mkF m 263 #[iv p0, iv p1, iv p2, iv p3, iv p4, iv p5, iv v4, iv v14, iv v21, iv v26, rv b30, iv v92, iv v134, iv v141, iv v148, iv (4 : Int32), iv v232, .unset, iv (2 : Int32), .unset, .unset, .unset, .unset, .unset, .unset, .unset, .unset, .unset] [])) target
        refine XS.iload Xg258.here hx rfl (hb hby at_263) rfl ?_
        refine XS.iconst Xg258.here hx rfl (hb hby at_265) ?_
        refine XS.icmpNo Xg258.here hx rfl (hb hby at_266) rfl (flt (by decide : ¬ ((2 : Int32) < (2 : Int32)))).1 ?_
        refine XS.iload Xg258.here hx rfl (hb hby at_269) rfl ?_
        refine XS.sipush Xg258.here hx rfl (hb hby at_271) ?_
        refine XS.iand Xg258.here hx rfl (hb hby at_274) rfl ?_
        refine XS.sipush Xg258.here hx rfl (hb hby at_275) ?_
        exact kt
      obtain ⟨_, ⟨j322_s0, rfl, rfl⟩, st_M322⟩ : own_Lead p.tables e below (Tg258.setTop (mkF m 278 #[iv p0, iv p1, iv p2, iv p3, iv p4, iv p5, iv v4, iv v14, iv v21, iv v26, rv b30, iv v92, iv v134, iv v141, iv v148, iv (4 : Int32), iv v232, .unset, iv (2 : Int32), .unset, .unset, .unset, .unset, .unset, .unset, .unset, .unset, .unset] [(.int (128 : Int32)), (.int (v134 &&& (192 : Int32)))])) (fun B => ∃ (j322_s0 : Int32), B = Tg258.setTop (mkF m 322 #[iv p0, iv p1, iv p2, iv p3, iv p4, iv p5, iv v4, iv v14, iv v21, iv v26, rv b30, iv v92, iv v134, iv v141, iv v148, iv (4 : Int32), iv v232, .unset, iv (2 : Int32), .unset, .unset, .unset, .unset, .unset, .unset, .unset, .unset, .unset] [(.int j322_s0)]) ∧ j322_s0 = own_b ((v134 &&& (192 : Int32)) = (128 : Int32))) := by
        by_cases c278 : (v134 &&& (192 : Int32)) = (128 : Int32)
        · refine own_st (B := Tg258.setTop (mkF m 322 #[iv p0, iv p1, iv p2, iv p3, iv p4, iv p5, iv v4, iv v14, iv v21, iv v26, rv b30, iv v92, iv v134, iv v141, iv v148, iv (4 : Int32), iv v232, .unset, iv (2 : Int32), .unset, .unset, .unset, .unset, .unset, .unset, .unset, .unset, .unset] [(.int (1 : Int32))])) (fun target kt => ?_) ?_
          · show Steps p.tables e below (Tg258.setTop (mkF m 278 #[iv p0, iv p1, iv p2, iv p3, iv p4, iv p5, iv v4, iv v14, iv v21, iv v26, rv b30, iv v92, iv v134, iv v141, iv v148, iv (4 : Int32), iv v232, .unset, iv (2 : Int32), .unset, .unset, .unset, .unset, .unset, .unset, .unset, .unset, .unset] [(.int (128 : Int32)), (.int (v134 &&& (192 : Int32)))])) target
            refine XS.icmpNo Xg258.here hx rfl (hb hby at_278) rfl (teq c278).2 ?_
            refine XS.iload Xg258.here hx rfl (hb hby at_281) rfl ?_
            refine XS.iconst Xg258.here hx rfl (hb hby at_283) ?_
            refine XS.icmpYes Xg258.here hx rfl (pc0 := 284) (pc' := 299) rfl (hb hby at_284) rfl (tlt (by decide : (2 : Int32) < (3 : Int32))).1 (by decide) (by decide) ?_
            refine XS.iload Xg258.here hx rfl (hb hby at_299) rfl ?_
            refine XS.iconst Xg258.here hx rfl (hb hby at_301) ?_
            refine XS.icmpYes Xg258.here hx rfl (pc0 := 302) (pc' := 317) rfl (hb hby at_302) rfl (tlt (by decide : (2 : Int32) < (4 : Int32))).1 (by decide) (by decide) ?_
            refine XS.iconst Xg258.here hx rfl (hb hby at_317) ?_
            show Steps p.tables e below (Tg258.setTop (mkF m 318 #[iv p0, iv p1, iv p2, iv p3, iv p4, iv p5, iv v4, iv v14, iv v21, iv v26, rv b30, iv v92, iv v134, iv v141, iv v148, iv (4 : Int32), iv v232, .unset, iv (2 : Int32), .unset, .unset, .unset, .unset, .unset, .unset, .unset, .unset, .unset] [(.int (1 : Int32))])) target
            refine XS.goto Xg258.here hx rfl (pc0 := 318) (pc' := 322) rfl (hb hby at_318) (by decide) (by decide) ?_
            exact kt
          exact ⟨_, ⟨(1 : Int32), rfl, (own_b1 c278).symm⟩, fun _ k => k⟩
        · refine own_st (B := Tg258.setTop (mkF m 322 #[iv p0, iv p1, iv p2, iv p3, iv p4, iv p5, iv v4, iv v14, iv v21, iv v26, rv b30, iv v92, iv v134, iv v141, iv v148, iv (4 : Int32), iv v232, .unset, iv (2 : Int32), .unset, .unset, .unset, .unset, .unset, .unset, .unset, .unset, .unset] [(.int (0 : Int32))])) (fun target kt => ?_) ?_
          · show Steps p.tables e below (Tg258.setTop (mkF m 278 #[iv p0, iv p1, iv p2, iv p3, iv p4, iv p5, iv v4, iv v14, iv v21, iv v26, rv b30, iv v92, iv v134, iv v141, iv v148, iv (4 : Int32), iv v232, .unset, iv (2 : Int32), .unset, .unset, .unset, .unset, .unset, .unset, .unset, .unset, .unset] [(.int (128 : Int32)), (.int (v134 &&& (192 : Int32)))])) target
            refine XS.icmpYes Xg258.here hx rfl (pc0 := 278) (pc' := 321) rfl (hb hby at_278) rfl (feq c278).2 (by decide) (by decide) ?_
            refine XS.iconst Xg258.here hx rfl (hb hby at_321) ?_
            exact kt
          exact ⟨_, ⟨(0 : Int32), rfl, (own_b0 c278).symm⟩, fun _ k => k⟩
      refine own_st st_M322 ?_
      obtain ⟨v329, hv329⟩ : ∃ z : Int32, z = (v134 &&& (63 : Int32)) := ⟨_, rfl⟩
      obtain ⟨v336, hv336⟩ : ∃ z : Int32, z = (v141 &&& (63 : Int32)) := ⟨_, rfl⟩
      obtain ⟨v343, hv343⟩ : ∃ z : Int32, z = (v148 &&& (63 : Int32)) := ⟨_, rfl⟩
      refine own_st (B := Tg258.setTop (mkF m 385 #[iv p0, iv p1, iv p2, iv p3, iv p4, iv p5, iv v4, iv v14, iv v21, iv v26, rv b30, iv v92, iv v134, iv v141, iv v148, iv (4 : Int32), iv v232, .unset, iv (2 : Int32), iv (own_b ((v134 &&& (192 : Int32)) = (128 : Int32))), iv v329, iv v336, iv v343, .unset, .unset, .unset, .unset, .unset] [(.int (0 : Int32)), (.int (0 : Int32)), (.int v329), (.int v232), (.int (4 : Int32))])) (fun target kt => ?_) ?_
      · show Steps p.tables e below (Tg258.setTop (mkF m 322 #[iv p0, iv p1, iv p2, iv p3, iv p4, iv p5, iv v4, iv v14, iv v21, iv v26, rv b30, iv v92, iv v134, iv v141, iv v148, iv (4 : Int32), iv v232, .unset, iv (2 : Int32), .unset, .unset, .unset, .unset, .unset, .unset, .unset, .unset, .unset] [(.int (own_b ((v134 &&& (192 : Int32)) = (128 : Int32))))])) target
        refine XS.istore Xg258.here hx rfl (hb hby at_322) rfl (l' := #[iv p0, iv p1, iv p2, iv p3, iv p4, iv p5, iv v4, iv v14, iv v21, iv v26, rv b30, iv v92, iv v134, iv v141, iv v148, iv (4 : Int32), iv v232, .unset, iv (2 : Int32), iv (own_b ((v134 &&& (192 : Int32)) = (128 : Int32))), .unset, .unset, .unset, .unset, .unset, .unset, .unset, .unset]) rfl ?_
        refine XS.iload Xg258.here hx rfl (hb hby at_324) rfl ?_
        refine XS.bipush Xg258.here hx rfl (hb hby at_326) ?_
        refine XS.iand Xg258.here hx rfl (hb hby at_328) rfl ?_
        refine XS.istore Xg258.here hx rfl (hb hby at_329) rfl (l' := #[iv p0, iv p1, iv p2, iv p3, iv p4, iv p5, iv v4, iv v14, iv v21, iv v26, rv b30, iv v92, iv v134, iv v141, iv v148, iv (4 : Int32), iv v232, .unset, iv (2 : Int32), iv (own_b ((v134 &&& (192 : Int32)) = (128 : Int32))), iv v329, .unset, .unset, .unset, .unset, .unset, .unset, .unset]) (by subst hv329; rfl) ?_
        refine XS.iload Xg258.here hx rfl (hb hby at_331) rfl ?_
        refine XS.bipush Xg258.here hx rfl (hb hby at_333) ?_
        refine XS.iand Xg258.here hx rfl (hb hby at_335) rfl ?_
        show Steps p.tables e below (Tg258.setTop (mkF m 336 #[iv p0, iv p1, iv p2, iv p3, iv p4, iv p5, iv v4, iv v14, iv v21, iv v26, rv b30, iv v92, iv v134, iv v141, iv v148, iv (4 : Int32), iv v232, .unset, iv (2 : Int32), iv (own_b ((v134 &&& (192 : Int32)) = (128 : Int32))), iv v329, .unset, .unset, .unset, .unset, .unset, .unset, .unset] [(.int (v141 &&& (63 : Int32)))])) target
        refine XS.istore Xg258.here hx rfl (hb hby at_336) rfl (l' := #[iv p0, iv p1, iv p2, iv p3, iv p4, iv p5, iv v4, iv v14, iv v21, iv v26, rv b30, iv v92, iv v134, iv v141, iv v148, iv (4 : Int32), iv v232, .unset, iv (2 : Int32), iv (own_b ((v134 &&& (192 : Int32)) = (128 : Int32))), iv v329, iv v336, .unset, .unset, .unset, .unset, .unset, .unset]) (by subst hv336; rfl) ?_
        refine XS.iload Xg258.here hx rfl (hb hby at_338) rfl ?_
        refine XS.bipush Xg258.here hx rfl (hb hby at_340) ?_
        refine XS.iand Xg258.here hx rfl (hb hby at_342) rfl ?_
        refine XS.istore Xg258.here hx rfl (hb hby at_343) rfl (l' := #[iv p0, iv p1, iv p2, iv p3, iv p4, iv p5, iv v4, iv v14, iv v21, iv v26, rv b30, iv v92, iv v134, iv v141, iv v148, iv (4 : Int32), iv v232, .unset, iv (2 : Int32), iv (own_b ((v134 &&& (192 : Int32)) = (128 : Int32))), iv v329, iv v336, iv v343, .unset, .unset, .unset, .unset, .unset]) (by subst hv343; rfl) ?_
        refine XS.iload Xg258.here hx rfl (hb hby at_345) rfl ?_
        refine XS.iload Xg258.here hx rfl (hb hby at_347) rfl ?_
        refine XS.iload Xg258.here hx rfl (hb hby at_349) rfl ?_
        show Steps p.tables e below (Tg258.setTop (mkF m 351 #[iv p0, iv p1, iv p2, iv p3, iv p4, iv p5, iv v4, iv v14, iv v21, iv v26, rv b30, iv v92, iv v134, iv v141, iv v148, iv (4 : Int32), iv v232, .unset, iv (2 : Int32), iv (own_b ((v134 &&& (192 : Int32)) = (128 : Int32))), iv v329, iv v336, iv v343, .unset, .unset, .unset, .unset, .unset] [(.int (2 : Int32)), (.int v232), (.int (4 : Int32))])) target
        refine XS.iconst Xg258.here hx rfl (hb hby at_351) ?_
        refine XS.icmpNo Xg258.here hx rfl (hb hby at_352) rfl (flt (by decide : ¬ ((2 : Int32) < (2 : Int32)))).1 ?_
        refine XS.iload Xg258.here hx rfl (hb hby at_355) rfl ?_
        refine XS.goto Xg258.here hx rfl (pc0 := 357) (pc' := 361) rfl (hb hby at_357) (by decide) (by decide) ?_
        refine XS.iload Xg258.here hx rfl (hb hby at_361) rfl ?_
        refine XS.iconst Xg258.here hx rfl (hb hby at_363) ?_
        refine XS.icmpYes Xg258.here hx rfl (pc0 := 364) (pc' := 372) rfl (hb hby at_364) rfl (tlt (by decide : (2 : Int32) < (3 : Int32))).1 (by decide) (by decide) ?_
        refine XS.iconst Xg258.here hx rfl (hb hby at_372) ?_
        show Steps p.tables e below (Tg258.setTop (mkF m 373 #[iv p0, iv p1, iv p2, iv p3, iv p4, iv p5, iv v4, iv v14, iv v21, iv v26, rv b30, iv v92, iv v134, iv v141, iv v148, iv (4 : Int32), iv v232, .unset, iv (2 : Int32), iv (own_b ((v134 &&& (192 : Int32)) = (128 : Int32))), iv v329, iv v336, iv v343, .unset, .unset, .unset, .unset, .unset] [(.int (0 : Int32)), (.int v329), (.int v232), (.int (4 : Int32))])) target
        refine XS.iload Xg258.here hx rfl (hb hby at_373) rfl ?_
        refine XS.iconst Xg258.here hx rfl (hb hby at_375) ?_
        refine XS.icmpYes Xg258.here hx rfl (pc0 := 376) (pc' := 384) rfl (hb hby at_376) rfl (tlt (by decide : (2 : Int32) < (4 : Int32))).1 (by decide) (by decide) ?_
        refine XS.iconst Xg258.here hx rfl (hb hby at_384) ?_
        exact kt
      obtain ⟨_, _, ⟨Tg385, Lg385, kg385, ng385⟩, -, Xg385, ⟨Lcg385, hQg385, lg385, yg385, zg385⟩, stg385⟩ := Jvm.LawKit.callS Xg258 hx (y := (⟨"com/example/psyche/psyche/XmlCharsSequenceLengthPinLaw", "compose", "(IIIII)I"⟩ : MethodName)) hown (mvT hZ (hw _ (List.mem_of_getElem? (i := 9) rfl))) (mvT hZ (hw _ (List.mem_of_getElem? (i := 10) rfl))) (mvT hZ (hw _ (List.mem_of_getElem? (i := 11) rfl))) (mvT hZ (hw _ (List.mem_of_getElem? (i := 12) rfl))) (by decide) (backOf (W := 0) (own_rm3 l Z a0 hw [] (4 : Int32) v232 v329 (0 : Int32) (0 : Int32) hg128 n0 Zz_12) hZ (hw _ (List.mem_of_getElem? (i := 12) rfl)) (hw _ (List.mem_of_getElem? (i := 11) rfl)) (by decide) (by decide)) (g := (mkF m 385 #[iv p0, iv p1, iv p2, iv p3, iv p4, iv p5, iv v4, iv v14, iv v21, iv v26, rv b30, iv v92, iv v134, iv v141, iv v148, iv (4 : Int32), iv v232, .unset, iv (2 : Int32), iv (own_b ((v134 &&& (192 : Int32)) = (128 : Int32))), iv v329, iv v336, iv v343, .unset, .unset, .unset, .unset, .unset] [(.int (0 : Int32)), (.int (0 : Int32)), (.int v329), (.int v232), (.int (4 : Int32))])) rfl (by rw [hml]; rfl) (argsL := [(.int (4 : Int32)), (.int v232), (.int v329), (.int (0 : Int32)), (.int (0 : Int32))]) (rest := []) (lenOf own_pd2 rfl) rfl (by show 2 * 0 + _ ≤ _; exact Nat.le_of_eq rfl) (hb hby at_385) (fun _ _ => ⟨rfl, eg258, (by decide : 1 + 0 ≤ _), (by decide : 8 + 0 ≤ _)⟩)
      dsimp only [Pt.U, Pt.locs, Pt.cells, Pt.slots] at Xg385 lg385 yg385 zg385 stg385 hQg385
      subst lg385 yg385 zg385
      obtain ⟨rfl, Ng385q, eg385⟩ := hQg385
      have Ng385 := Fr.app Ng258 Ng385q
      refine own_st (stg385) ?_
      obtain ⟨v388, hv388⟩ : ∃ z : Int32, z = (if (4 : Int32) = (2 : Int32) then ((v232 <<< ((6 : Int32) &&& 31)) ||| v329) else (if (4 : Int32) = (3 : Int32) then (((v232 <<< ((12 : Int32) &&& 31)) ||| (v329 <<< ((6 : Int32) &&& 31))) ||| (0 : Int32)) else ((((v232 <<< ((18 : Int32) &&& 31)) ||| (v329 <<< ((12 : Int32) &&& 31))) ||| ((0 : Int32) <<< ((6 : Int32) &&& 31))) ||| (0 : Int32)))) := ⟨_, rfl⟩
      refine own_st (B := Tg385.setTop (mkF m 433 #[iv p0, iv p1, iv p2, iv p3, iv p4, iv p5, iv v4, iv v14, iv v21, iv v26, rv b30, iv v92, iv v134, iv v141, iv v148, iv (4 : Int32), iv v232, .unset, iv (2 : Int32), iv (own_b ((v134 &&& (192 : Int32)) = (128 : Int32))), iv v329, iv v336, iv v343, iv v388, .unset, .unset, .unset, .unset] [(.int (63 : Int32)), (.int (63 : Int32)), (.int v329), (.int v232), (.int (4 : Int32))])) (fun target kt => ?_) ?_
      · show Steps p.tables e below (Tg385.setTop (mkF m 388 #[iv p0, iv p1, iv p2, iv p3, iv p4, iv p5, iv v4, iv v14, iv v21, iv v26, rv b30, iv v92, iv v134, iv v141, iv v148, iv (4 : Int32), iv v232, .unset, iv (2 : Int32), iv (own_b ((v134 &&& (192 : Int32)) = (128 : Int32))), iv v329, iv v336, iv v343, .unset, .unset, .unset, .unset, .unset] [(.int (if (4 : Int32) = (2 : Int32) then ((v232 <<< ((6 : Int32) &&& 31)) ||| v329) else (if (4 : Int32) = (3 : Int32) then (((v232 <<< ((12 : Int32) &&& 31)) ||| (v329 <<< ((6 : Int32) &&& 31))) ||| (0 : Int32)) else ((((v232 <<< ((18 : Int32) &&& 31)) ||| (v329 <<< ((12 : Int32) &&& 31))) ||| ((0 : Int32) <<< ((6 : Int32) &&& 31))) ||| (0 : Int32)))))])) target
        refine XS.istore Xg385.here hx rfl (hb hby at_388) rfl (l' := #[iv p0, iv p1, iv p2, iv p3, iv p4, iv p5, iv v4, iv v14, iv v21, iv v26, rv b30, iv v92, iv v134, iv v141, iv v148, iv (4 : Int32), iv v232, .unset, iv (2 : Int32), iv (own_b ((v134 &&& (192 : Int32)) = (128 : Int32))), iv v329, iv v336, iv v343, iv v388, .unset, .unset, .unset, .unset]) (by subst hv388; rfl) ?_
        refine XS.iload Xg385.here hx rfl (hb hby at_390) rfl ?_
        refine XS.iload Xg385.here hx rfl (hb hby at_392) rfl ?_
        refine XS.iload Xg385.here hx rfl (hb hby at_394) rfl ?_
        refine XS.iconst Xg385.here hx rfl (hb hby at_396) ?_
        refine XS.icmpNo Xg385.here hx rfl (hb hby at_397) rfl (flt (by decide : ¬ ((2 : Int32) < (2 : Int32)))).1 ?_
        refine XS.iload Xg385.here hx rfl (hb hby at_400) rfl ?_
        refine XS.goto Xg385.here hx rfl (pc0 := 402) (pc' := 407) rfl (hb hby at_402) (by decide) (by decide) ?_
        show Steps p.tables e below (Tg385.setTop (mkF m 407 #[iv p0, iv p1, iv p2, iv p3, iv p4, iv p5, iv v4, iv v14, iv v21, iv v26, rv b30, iv v92, iv v134, iv v141, iv v148, iv (4 : Int32), iv v232, .unset, iv (2 : Int32), iv (own_b ((v134 &&& (192 : Int32)) = (128 : Int32))), iv v329, iv v336, iv v343, iv v388, .unset, .unset, .unset, .unset] [(.int v329), (.int v232), (.int (4 : Int32))])) target
        refine XS.iload Xg385.here hx rfl (hb hby at_407) rfl ?_
        refine XS.iconst Xg385.here hx rfl (hb hby at_409) ?_
        refine XS.icmpYes Xg385.here hx rfl (pc0 := 410) (pc' := 418) rfl (hb hby at_410) rfl (tlt (by decide : (2 : Int32) < (3 : Int32))).1 (by decide) (by decide) ?_
        refine XS.bipush Xg385.here hx rfl (hb hby at_418) ?_
        refine XS.iload Xg385.here hx rfl (hb hby at_420) rfl ?_
        refine XS.iconst Xg385.here hx rfl (hb hby at_422) ?_
        refine XS.icmpYes Xg385.here hx rfl (pc0 := 423) (pc' := 431) rfl (hb hby at_423) rfl (tlt (by decide : (2 : Int32) < (4 : Int32))).1 (by decide) (by decide) ?_
        refine XS.bipush Xg385.here hx rfl (hb hby at_431) ?_
        exact kt
      obtain ⟨_, _, ⟨Tg433, Lg433, kg433, ng433⟩, -, Xg433, ⟨Lcg433, hQg433, lg433, yg433, zg433⟩, stg433⟩ := Jvm.LawKit.callS Xg385 hx (y := (⟨"com/example/psyche/psyche/XmlCharsSequenceLengthPinLaw", "compose", "(IIIII)I"⟩ : MethodName)) hown (mvT hZ (hw _ (List.mem_of_getElem? (i := 9) rfl))) (mvT hZ (hw _ (List.mem_of_getElem? (i := 10) rfl))) (mvT hZ (hw _ (List.mem_of_getElem? (i := 11) rfl))) (mvT hZ (hw _ (List.mem_of_getElem? (i := 12) rfl))) (by decide) (backOf (W := 0) (own_rm3 l Z a0 hw [] (4 : Int32) v232 v329 (63 : Int32) (63 : Int32) hg128 n0 Zz_12) hZ (hw _ (List.mem_of_getElem? (i := 12) rfl)) (hw _ (List.mem_of_getElem? (i := 11) rfl)) (by decide) (by decide)) (g := (mkF m 433 #[iv p0, iv p1, iv p2, iv p3, iv p4, iv p5, iv v4, iv v14, iv v21, iv v26, rv b30, iv v92, iv v134, iv v141, iv v148, iv (4 : Int32), iv v232, .unset, iv (2 : Int32), iv (own_b ((v134 &&& (192 : Int32)) = (128 : Int32))), iv v329, iv v336, iv v343, iv v388, .unset, .unset, .unset, .unset] [(.int (63 : Int32)), (.int (63 : Int32)), (.int v329), (.int v232), (.int (4 : Int32))])) rfl (by rw [hml]; rfl) (argsL := [(.int (4 : Int32)), (.int v232), (.int v329), (.int (63 : Int32)), (.int (63 : Int32))]) (rest := []) (lenOf own_pd2 rfl) rfl (by show 2 * 0 + _ ≤ _; exact Nat.le_of_eq rfl) (hb hby at_433) (fun _ _ => ⟨rfl, eg385, (by decide : 1 + 0 ≤ _), (by decide : 8 + 0 ≤ _)⟩)
      dsimp only [Pt.U, Pt.locs, Pt.cells, Pt.slots] at Xg433 lg433 yg433 zg433 stg433 hQg433
      subst lg433 yg433 zg433
      obtain ⟨rfl, Ng433q, eg433⟩ := hQg433
      have Ng433 := Fr.app Ng385 Ng433q
      refine own_st (stg433) ?_
      obtain ⟨v436, hv436⟩ : ∃ z : Int32, z = (if (4 : Int32) = (2 : Int32) then ((v232 <<< ((6 : Int32) &&& 31)) ||| v329) else (if (4 : Int32) = (3 : Int32) then (((v232 <<< ((12 : Int32) &&& 31)) ||| (v329 <<< ((6 : Int32) &&& 31))) ||| (63 : Int32)) else ((((v232 <<< ((18 : Int32) &&& 31)) ||| (v329 <<< ((12 : Int32) &&& 31))) ||| ((63 : Int32) <<< ((6 : Int32) &&& 31))) ||| (63 : Int32)))) := ⟨_, rfl⟩
      refine own_st (B := Tg433.setTop (mkF m 487 #[iv p0, iv p1, iv p2, iv p3, iv p4, iv p5, iv v4, iv v14, iv v21, iv v26, rv b30, iv v92, iv v134, iv v141, iv v148, iv (4 : Int32), iv v232, .unset, iv (2 : Int32), iv (own_b ((v134 &&& (192 : Int32)) = (128 : Int32))), iv v329, iv v336, iv v343, iv v388, iv v436, iv (65536 : Int32), iv (1114111 : Int32), .unset] [(.int (65536 : Int32)), (.int v436)])) (fun target kt => ?_) ?_
      · show Steps p.tables e below (Tg433.setTop (mkF m 436 #[iv p0, iv p1, iv p2, iv p3, iv p4, iv p5, iv v4, iv v14, iv v21, iv v26, rv b30, iv v92, iv v134, iv v141, iv v148, iv (4 : Int32), iv v232, .unset, iv (2 : Int32), iv (own_b ((v134 &&& (192 : Int32)) = (128 : Int32))), iv v329, iv v336, iv v343, iv v388, .unset, .unset, .unset, .unset] [(.int (if (4 : Int32) = (2 : Int32) then ((v232 <<< ((6 : Int32) &&& 31)) ||| v329) else (if (4 : Int32) = (3 : Int32) then (((v232 <<< ((12 : Int32) &&& 31)) ||| (v329 <<< ((6 : Int32) &&& 31))) ||| (63 : Int32)) else ((((v232 <<< ((18 : Int32) &&& 31)) ||| (v329 <<< ((12 : Int32) &&& 31))) ||| ((63 : Int32) <<< ((6 : Int32) &&& 31))) ||| (63 : Int32)))))])) target
        refine XS.istore Xg433.here hx rfl (hb hby at_436) rfl (l' := #[iv p0, iv p1, iv p2, iv p3, iv p4, iv p5, iv v4, iv v14, iv v21, iv v26, rv b30, iv v92, iv v134, iv v141, iv v148, iv (4 : Int32), iv v232, .unset, iv (2 : Int32), iv (own_b ((v134 &&& (192 : Int32)) = (128 : Int32))), iv v329, iv v336, iv v343, iv v388, iv v436, .unset, .unset, .unset]) (by subst hv436; rfl) ?_
        refine XS.iload Xg433.here hx rfl (hb hby at_438) rfl ?_
        refine XS.iconst Xg433.here hx rfl (hb hby at_440) ?_
        refine XS.icmpYes Xg433.here hx rfl (pc0 := 441) (pc' := 457) rfl (hb hby at_441) rfl (feq (by decide : ¬ ((4 : Int32) = (2 : Int32)))).2 (by decide) (by decide) ?_
        refine XS.iload Xg433.here hx rfl (hb hby at_457) rfl ?_
        refine XS.iconst Xg433.here hx rfl (hb hby at_459) ?_
        refine XS.icmpYes Xg433.here hx rfl (pc0 := 460) (pc' := 475) rfl (hb hby at_460) rfl (feq (by decide : ¬ ((4 : Int32) = (3 : Int32)))).2 (by decide) (by decide) ?_
        refine Xg433.ldcInt hx hown (mvT hZ (hw _ (List.mem_of_getElem? (i := 15) rfl))) (g := (mkF m 475 #[iv p0, iv p1, iv p2, iv p3, iv p4, iv p5, iv v4, iv v14, iv v21, iv v26, rv b30, iv v92, iv v134, iv v141, iv v148, iv (4 : Int32), iv v232, .unset, iv (2 : Int32), iv (own_b ((v134 &&& (192 : Int32)) = (128 : Int32))), iv v329, iv v336, iv v343, iv v388, iv v436, .unset, .unset, .unset] [])) rfl (hb hby at_475) _ ?_
        show Steps p.tables e below (Tg433.setTop (mkF m 477 #[iv p0, iv p1, iv p2, iv p3, iv p4, iv p5, iv v4, iv v14, iv v21, iv v26, rv b30, iv v92, iv v134, iv v141, iv v148, iv (4 : Int32), iv v232, .unset, iv (2 : Int32), iv (own_b ((v134 &&& (192 : Int32)) = (128 : Int32))), iv v329, iv v336, iv v343, iv v388, iv v436, .unset, .unset, .unset] [(.int (65536 : Int32))])) target
        refine XS.istore Xg433.here hx rfl (hb hby at_477) rfl (l' := #[iv p0, iv p1, iv p2, iv p3, iv p4, iv p5, iv v4, iv v14, iv v21, iv v26, rv b30, iv v92, iv v134, iv v141, iv v148, iv (4 : Int32), iv v232, .unset, iv (2 : Int32), iv (own_b ((v134 &&& (192 : Int32)) = (128 : Int32))), iv v329, iv v336, iv v343, iv v388, iv v436, iv (65536 : Int32), .unset, .unset]) rfl ?_
        refine Xg433.ldcInt hx hown (mvT hZ (hw _ (List.mem_of_getElem? (i := 16) rfl))) (g := (mkF m 479 #[iv p0, iv p1, iv p2, iv p3, iv p4, iv p5, iv v4, iv v14, iv v21, iv v26, rv b30, iv v92, iv v134, iv v141, iv v148, iv (4 : Int32), iv v232, .unset, iv (2 : Int32), iv (own_b ((v134 &&& (192 : Int32)) = (128 : Int32))), iv v329, iv v336, iv v343, iv v388, iv v436, iv (65536 : Int32), .unset, .unset] [])) rfl (hb hby at_479) _ ?_
        refine XS.istore Xg433.here hx rfl (hb hby at_481) rfl (l' := #[iv p0, iv p1, iv p2, iv p3, iv p4, iv p5, iv v4, iv v14, iv v21, iv v26, rv b30, iv v92, iv v134, iv v141, iv v148, iv (4 : Int32), iv v232, .unset, iv (2 : Int32), iv (own_b ((v134 &&& (192 : Int32)) = (128 : Int32))), iv v329, iv v336, iv v343, iv v388, iv v436, iv (65536 : Int32), iv (1114111 : Int32), .unset]) rfl ?_
        refine XS.iload Xg433.here hx rfl (hb hby at_483) rfl ?_
        refine XS.iload Xg433.here hx rfl (hb hby at_485) rfl ?_
        exact kt
      obtain ⟨_, ⟨j522_s0, rfl, rfl⟩, st_M522⟩ : own_Lead p.tables e below (Tg433.setTop (mkF m 487 #[iv p0, iv p1, iv p2, iv p3, iv p4, iv p5, iv v4, iv v14, iv v21, iv v26, rv b30, iv v92, iv v134, iv v141, iv v148, iv (4 : Int32), iv v232, .unset, iv (2 : Int32), iv (own_b ((v134 &&& (192 : Int32)) = (128 : Int32))), iv v329, iv v336, iv v343, iv v388, iv v436, iv (65536 : Int32), iv (1114111 : Int32), .unset] [(.int (65536 : Int32)), (.int v436)])) (fun B => ∃ (j522_s0 : Int32), B = Tg433.setTop (mkF m 522 #[iv p0, iv p1, iv p2, iv p3, iv p4, iv p5, iv v4, iv v14, iv v21, iv v26, rv b30, iv v92, iv v134, iv v141, iv v148, iv (4 : Int32), iv v232, .unset, iv (2 : Int32), iv (own_b ((v134 &&& (192 : Int32)) = (128 : Int32))), iv v329, iv v336, iv v343, iv v388, iv v436, iv (65536 : Int32), iv (1114111 : Int32), .unset] [(.int j522_s0)]) ∧ j522_s0 = own_b ((¬ (v436 < (65536 : Int32)) ∧ (¬ ((1114111 : Int32) < v388))))) := by
        by_cases c487 : v436 < (65536 : Int32)
        · refine own_st (B := Tg433.setTop (mkF m 522 #[iv p0, iv p1, iv p2, iv p3, iv p4, iv p5, iv v4, iv v14, iv v21, iv v26, rv b30, iv v92, iv v134, iv v141, iv v148, iv (4 : Int32), iv v232, .unset, iv (2 : Int32), iv (own_b ((v134 &&& (192 : Int32)) = (128 : Int32))), iv v329, iv v336, iv v343, iv v388, iv v436, iv (65536 : Int32), iv (1114111 : Int32), .unset] [(.int (0 : Int32))])) (fun target kt => ?_) ?_
          · show Steps p.tables e below (Tg433.setTop (mkF m 487 #[iv p0, iv p1, iv p2, iv p3, iv p4, iv p5, iv v4, iv v14, iv v21, iv v26, rv b30, iv v92, iv v134, iv v141, iv v148, iv (4 : Int32), iv v232, .unset, iv (2 : Int32), iv (own_b ((v134 &&& (192 : Int32)) = (128 : Int32))), iv v329, iv v336, iv v343, iv v388, iv v436, iv (65536 : Int32), iv (1114111 : Int32), .unset] [(.int (65536 : Int32)), (.int v436)])) target
            refine XS.icmpYes Xg433.here hx rfl (pc0 := 487) (pc' := 521) rfl (hb hby at_487) rfl (tlt c487).1 (by decide) (by decide) ?_
            refine XS.iconst Xg433.here hx rfl (hb hby at_521) ?_
            exact kt
          exact ⟨_, ⟨(0 : Int32), rfl, (own_b0 (fun w => w.1 c487)).symm⟩, fun _ k => k⟩
        · refine own_st (B := Tg433.setTop (mkF m 494 #[iv p0, iv p1, iv p2, iv p3, iv p4, iv p5, iv v4, iv v14, iv v21, iv v26, rv b30, iv v92, iv v134, iv v141, iv v148, iv (4 : Int32), iv v232, .unset, iv (2 : Int32), iv (own_b ((v134 &&& (192 : Int32)) = (128 : Int32))), iv v329, iv v336, iv v343, iv v388, iv v436, iv (65536 : Int32), iv (1114111 : Int32), .unset] [(.int (1114111 : Int32)), (.int v388)])) (fun target kt => ?_) ?_
          · show Steps p.tables e below (Tg433.setTop (mkF m 487 #[iv p0, iv p1, iv p2, iv p3, iv p4, iv p5, iv v4, iv v14, iv v21, iv v26, rv b30, iv v92, iv v134, iv v141, iv v148, iv (4 : Int32), iv v232, .unset, iv (2 : Int32), iv (own_b ((v134 &&& (192 : Int32)) = (128 : Int32))), iv v329, iv v336, iv v343, iv v388, iv v436, iv (65536 : Int32), iv (1114111 : Int32), .unset] [(.int (65536 : Int32)), (.int v436)])) target
            refine XS.icmpNo Xg433.here hx rfl (hb hby at_487) rfl (flt c487).1 ?_
            refine XS.iload Xg433.here hx rfl (hb hby at_490) rfl ?_
            refine XS.iload Xg433.here hx rfl (hb hby at_492) rfl ?_
            exact kt
          by_cases c494 : (1114111 : Int32) < v388
          · refine own_st (B := Tg433.setTop (mkF m 522 #[iv p0, iv p1, iv p2, iv p3, iv p4, iv p5, iv v4, iv v14, iv v21, iv v26, rv b30, iv v92, iv v134, iv v141, iv v148, iv (4 : Int32), iv v232, .unset, iv (2 : Int32), iv (own_b ((v134 &&& (192 : Int32)) = (128 : Int32))), iv v329, iv v336, iv v343, iv v388, iv v436, iv (65536 : Int32), iv (1114111 : Int32), .unset] [(.int (0 : Int32))])) (fun target kt => ?_) ?_
            · show Steps p.tables e below (Tg433.setTop (mkF m 494 #[iv p0, iv p1, iv p2, iv p3, iv p4, iv p5, iv v4, iv v14, iv v21, iv v26, rv b30, iv v92, iv v134, iv v141, iv v148, iv (4 : Int32), iv v232, .unset, iv (2 : Int32), iv (own_b ((v134 &&& (192 : Int32)) = (128 : Int32))), iv v329, iv v336, iv v343, iv v388, iv v436, iv (65536 : Int32), iv (1114111 : Int32), .unset] [(.int (1114111 : Int32)), (.int v388)])) target
              refine XS.icmpYes Xg433.here hx rfl (pc0 := 494) (pc' := 521) rfl (hb hby at_494) rfl (tlt c494).2.2.1 (by decide) (by decide) ?_
              refine XS.iconst Xg433.here hx rfl (hb hby at_521) ?_
              exact kt
            exact ⟨_, ⟨(0 : Int32), rfl, (own_b0 (fun w => (fun w => w c494) w.2)).symm⟩, fun _ k => k⟩
          · refine own_st (B := Tg433.setTop (mkF m 522 #[iv p0, iv p1, iv p2, iv p3, iv p4, iv p5, iv v4, iv v14, iv v21, iv v26, rv b30, iv v92, iv v134, iv v141, iv v148, iv (4 : Int32), iv v232, .unset, iv (2 : Int32), iv (own_b ((v134 &&& (192 : Int32)) = (128 : Int32))), iv v329, iv v336, iv v343, iv v388, iv v436, iv (65536 : Int32), iv (1114111 : Int32), .unset] [(.int (1 : Int32))])) (fun target kt => ?_) ?_
            · show Steps p.tables e below (Tg433.setTop (mkF m 494 #[iv p0, iv p1, iv p2, iv p3, iv p4, iv p5, iv v4, iv v14, iv v21, iv v26, rv b30, iv v92, iv v134, iv v141, iv v148, iv (4 : Int32), iv v232, .unset, iv (2 : Int32), iv (own_b ((v134 &&& (192 : Int32)) = (128 : Int32))), iv v329, iv v336, iv v343, iv v388, iv v436, iv (65536 : Int32), iv (1114111 : Int32), .unset] [(.int (1114111 : Int32)), (.int v388)])) target
              refine XS.icmpNo Xg433.here hx rfl (hb hby at_494) rfl (flt c494).2.2.1 ?_
              refine XS.iload Xg433.here hx rfl (hb hby at_497) rfl ?_
              refine XS.iconst Xg433.here hx rfl (hb hby at_499) ?_
              refine XS.icmpYes Xg433.here hx rfl (pc0 := 500) (pc' := 517) rfl (hb hby at_500) rfl (feq (by decide : ¬ ((4 : Int32) = (3 : Int32)))).2 (by decide) (by decide) ?_
              refine XS.iconst Xg433.here hx rfl (hb hby at_517) ?_
              refine XS.goto Xg433.here hx rfl (pc0 := 518) (pc' := 522) rfl (hb hby at_518) (by decide) (by decide) ?_
              exact kt
            exact ⟨_, ⟨(1 : Int32), rfl, (own_b1 ⟨c487, c494⟩).symm⟩, fun _ k => k⟩
      refine own_st st_M522 ?_
      refine own_st (B := Tg433.setTop (mkF m 526 #[iv p0, iv p1, iv p2, iv p3, iv p4, iv p5, iv v4, iv v14, iv v21, iv v26, rv b30, iv v92, iv v134, iv v141, iv v148, iv (4 : Int32), iv v232, .unset, iv (2 : Int32), iv (own_b ((v134 &&& (192 : Int32)) = (128 : Int32))), iv v329, iv v336, iv v343, iv v388, iv v436, iv (65536 : Int32), iv (1114111 : Int32), iv (own_b (¬ (v436 < (65536 : Int32)) ∧ (¬ ((1114111 : Int32) < v388))))] [(.int (own_b ((v134 &&& (192 : Int32)) = (128 : Int32))))])) (fun target kt => ?_) ?_
      · show Steps p.tables e below (Tg433.setTop (mkF m 522 #[iv p0, iv p1, iv p2, iv p3, iv p4, iv p5, iv v4, iv v14, iv v21, iv v26, rv b30, iv v92, iv v134, iv v141, iv v148, iv (4 : Int32), iv v232, .unset, iv (2 : Int32), iv (own_b ((v134 &&& (192 : Int32)) = (128 : Int32))), iv v329, iv v336, iv v343, iv v388, iv v436, iv (65536 : Int32), iv (1114111 : Int32), .unset] [(.int (own_b (¬ (v436 < (65536 : Int32)) ∧ (¬ ((1114111 : Int32) < v388)))))])) target
        refine XS.istore Xg433.here hx rfl (hb hby at_522) rfl (l' := #[iv p0, iv p1, iv p2, iv p3, iv p4, iv p5, iv v4, iv v14, iv v21, iv v26, rv b30, iv v92, iv v134, iv v141, iv v148, iv (4 : Int32), iv v232, .unset, iv (2 : Int32), iv (own_b ((v134 &&& (192 : Int32)) = (128 : Int32))), iv v329, iv v336, iv v343, iv v388, iv v436, iv (65536 : Int32), iv (1114111 : Int32), iv (own_b (¬ (v436 < (65536 : Int32)) ∧ (¬ ((1114111 : Int32) < v388))))]) rfl ?_
        refine XS.iload Xg433.here hx rfl (hb hby at_524) rfl ?_
        exact kt
      obtain ⟨_, ⟨j584_l17, rfl, hj584_l17⟩, st_M584⟩ : own_Lead p.tables e below (Tg433.setTop (mkF m 526 #[iv p0, iv p1, iv p2, iv p3, iv p4, iv p5, iv v4, iv v14, iv v21, iv v26, rv b30, iv v92, iv v134, iv v141, iv v148, iv (4 : Int32), iv v232, .unset, iv (2 : Int32), iv (own_b ((v134 &&& (192 : Int32)) = (128 : Int32))), iv v329, iv v336, iv v343, iv v388, iv v436, iv (65536 : Int32), iv (1114111 : Int32), iv (own_b (¬ (v436 < (65536 : Int32)) ∧ (¬ ((1114111 : Int32) < v388))))] [(.int (own_b ((v134 &&& (192 : Int32)) = (128 : Int32))))])) (fun B => ∃ (j584_l17 : Int32), B = Tg433.setTop (mkF m 584 #[iv p0, iv p1, iv p2, iv p3, iv p4, iv p5, iv v4, iv v14, iv v21, iv v26, rv b30, iv v92, iv v134, iv v141, iv v148, iv (4 : Int32), iv v232, iv j584_l17, iv (2 : Int32), iv (own_b ((v134 &&& (192 : Int32)) = (128 : Int32))), iv v329, iv v336, iv v343, iv v388, iv v436, iv (65536 : Int32), iv (1114111 : Int32), iv (own_b (¬ (v436 < (65536 : Int32)) ∧ (¬ ((1114111 : Int32) < v388))))] []) ∧ j584_l17 = (if (v134 &&& (192 : Int32)) = (128 : Int32) then (if ¬ (v436 < (65536 : Int32)) ∧ (¬ ((1114111 : Int32) < v388)) then (0 : Int32) else (-1 : Int32)) else (-1 : Int32))) := by
        by_cases c526 : (v134 &&& (192 : Int32)) = (128 : Int32)
        · refine own_st (B := Tg433.setTop (mkF m 531 #[iv p0, iv p1, iv p2, iv p3, iv p4, iv p5, iv v4, iv v14, iv v21, iv v26, rv b30, iv v92, iv v134, iv v141, iv v148, iv (4 : Int32), iv v232, .unset, iv (2 : Int32), iv (own_b ((v134 &&& (192 : Int32)) = (128 : Int32))), iv v329, iv v336, iv v343, iv v388, iv v436, iv (65536 : Int32), iv (1114111 : Int32), iv (own_b (¬ (v436 < (65536 : Int32)) ∧ (¬ ((1114111 : Int32) < v388))))] [(.int (own_b (¬ (v436 < (65536 : Int32)) ∧ (¬ ((1114111 : Int32) < v388)))))])) (fun target kt => ?_) ?_
          · show Steps p.tables e below (Tg433.setTop (mkF m 526 #[iv p0, iv p1, iv p2, iv p3, iv p4, iv p5, iv v4, iv v14, iv v21, iv v26, rv b30, iv v92, iv v134, iv v141, iv v148, iv (4 : Int32), iv v232, .unset, iv (2 : Int32), iv (own_b ((v134 &&& (192 : Int32)) = (128 : Int32))), iv v329, iv v336, iv v343, iv v388, iv v436, iv (65536 : Int32), iv (1114111 : Int32), iv (own_b (¬ (v436 < (65536 : Int32)) ∧ (¬ ((1114111 : Int32) < v388))))] [(.int (own_b ((v134 &&& (192 : Int32)) = (128 : Int32))))])) target
            refine XS.ifNo Xg433.here hx rfl (hb hby at_526) rfl ((if0 _ _).trans (feq (own_bn0 rfl c526)).1) ?_
            refine XS.iload Xg433.here hx rfl (hb hby at_529) rfl ?_
            exact kt
          by_cases c531 : ¬ (v436 < (65536 : Int32)) ∧ (¬ ((1114111 : Int32) < v388))
          · refine own_st (B := Tg433.setTop (mkF m 584 #[iv p0, iv p1, iv p2, iv p3, iv p4, iv p5, iv v4, iv v14, iv v21, iv v26, rv b30, iv v92, iv v134, iv v141, iv v148, iv (4 : Int32), iv v232, iv (0 : Int32), iv (2 : Int32), iv (own_b ((v134 &&& (192 : Int32)) = (128 : Int32))), iv v329, iv v336, iv v343, iv v388, iv v436, iv (65536 : Int32), iv (1114111 : Int32), iv (own_b (¬ (v436 < (65536 : Int32)) ∧ (¬ ((1114111 : Int32) < v388))))] [])) (fun target kt => ?_) ?_
            · show Steps p.tables e below (Tg433.setTop (mkF m 531 #[iv p0, iv p1, iv p2, iv p3, iv p4, iv p5, iv v4, iv v14, iv v21, iv v26, rv b30, iv v92, iv v134, iv v141, iv v148, iv (4 : Int32), iv v232, .unset, iv (2 : Int32), iv (own_b ((v134 &&& (192 : Int32)) = (128 : Int32))), iv v329, iv v336, iv v343, iv v388, iv v436, iv (65536 : Int32), iv (1114111 : Int32), iv (own_b (¬ (v436 < (65536 : Int32)) ∧ (¬ ((1114111 : Int32) < v388))))] [(.int (own_b (¬ (v436 < (65536 : Int32)) ∧ (¬ ((1114111 : Int32) < v388)))))])) target
              refine XS.ifYes Xg433.here hx rfl (pc0 := 531) (pc' := 540) rfl (hb hby at_531) rfl ((if0 _ _).trans (feq (own_bn0 rfl c531)).2) (by decide) (by decide) ?_
              refine XS.iload Xg433.here hx rfl (hb hby at_540) rfl ?_
              refine XS.iload Xg433.here hx rfl (hb hby at_542) rfl ?_
              refine XS.icmpNo Xg433.here hx rfl (hb hby at_544) rfl (tlt (by decide : (2 : Int32) < (4 : Int32))).2.1 ?_
              refine XS.iconst Xg433.here hx rfl (hb hby at_547) ?_
              refine XS.istore Xg433.here hx rfl (hb hby at_548) rfl (l' := #[iv p0, iv p1, iv p2, iv p3, iv p4, iv p5, iv v4, iv v14, iv v21, iv v26, rv b30, iv v92, iv v134, iv v141, iv v148, iv (4 : Int32), iv v232, iv (0 : Int32), iv (2 : Int32), iv (own_b ((v134 &&& (192 : Int32)) = (128 : Int32))), iv v329, iv v336, iv v343, iv v388, iv v436, iv (65536 : Int32), iv (1114111 : Int32), iv (own_b (¬ (v436 < (65536 : Int32)) ∧ (¬ ((1114111 : Int32) < v388))))]) rfl ?_
              refine XS.goto Xg433.here hx rfl (pc0 := 550) (pc' := 584) rfl (hb hby at_550) (by decide) (by decide) ?_
              exact kt
            exact ⟨_, ⟨(0 : Int32), rfl, (Eq.trans (if_pos c531).symm (if_pos c526).symm)⟩, fun _ k => k⟩
          · refine own_st (B := Tg433.setTop (mkF m 584 #[iv p0, iv p1, iv p2, iv p3, iv p4, iv p5, iv v4, iv v14, iv v21, iv v26, rv b30, iv v92, iv v134, iv v141, iv v148, iv (4 : Int32), iv v232, iv (-1 : Int32), iv (2 : Int32), iv (own_b ((v134 &&& (192 : Int32)) = (128 : Int32))), iv v329, iv v336, iv v343, iv v388, iv v436, iv (65536 : Int32), iv (1114111 : Int32), iv (own_b (¬ (v436 < (65536 : Int32)) ∧ (¬ ((1114111 : Int32) < v388))))] [])) (fun target kt => ?_) ?_
            · show Steps p.tables e below (Tg433.setTop (mkF m 531 #[iv p0, iv p1, iv p2, iv p3, iv p4, iv p5, iv v4, iv v14, iv v21, iv v26, rv b30, iv v92, iv v134, iv v141, iv v148, iv (4 : Int32), iv v232, .unset, iv (2 : Int32), iv (own_b ((v134 &&& (192 : Int32)) = (128 : Int32))), iv v329, iv v336, iv v343, iv v388, iv v436, iv (65536 : Int32), iv (1114111 : Int32), iv (own_b (¬ (v436 < (65536 : Int32)) ∧ (¬ ((1114111 : Int32) < v388))))] [(.int (own_b (¬ (v436 < (65536 : Int32)) ∧ (¬ ((1114111 : Int32) < v388)))))])) target
              refine XS.ifNo Xg433.here hx rfl (hb hby at_531) rfl ((if0 _ _).trans (teq (own_b00 rfl c531)).2) ?_
              refine XS.iconst Xg433.here hx rfl (hb hby at_534) ?_
              refine XS.istore Xg433.here hx rfl (hb hby at_535) rfl (l' := #[iv p0, iv p1, iv p2, iv p3, iv p4, iv p5, iv v4, iv v14, iv v21, iv v26, rv b30, iv v92, iv v134, iv v141, iv v148, iv (4 : Int32), iv v232, iv (-1 : Int32), iv (2 : Int32), iv (own_b ((v134 &&& (192 : Int32)) = (128 : Int32))), iv v329, iv v336, iv v343, iv v388, iv v436, iv (65536 : Int32), iv (1114111 : Int32), iv (own_b (¬ (v436 < (65536 : Int32)) ∧ (¬ ((1114111 : Int32) < v388))))]) rfl ?_
              refine XS.goto Xg433.here hx rfl (pc0 := 537) (pc' := 584) rfl (hb hby at_537) (by decide) (by decide) ?_
              exact kt
            exact ⟨_, ⟨(-1 : Int32), rfl, (Eq.trans (if_neg c531).symm (if_pos c526).symm)⟩, fun _ k => k⟩
        · refine own_st (B := Tg433.setTop (mkF m 584 #[iv p0, iv p1, iv p2, iv p3, iv p4, iv p5, iv v4, iv v14, iv v21, iv v26, rv b30, iv v92, iv v134, iv v141, iv v148, iv (4 : Int32), iv v232, iv (-1 : Int32), iv (2 : Int32), iv (own_b ((v134 &&& (192 : Int32)) = (128 : Int32))), iv v329, iv v336, iv v343, iv v388, iv v436, iv (65536 : Int32), iv (1114111 : Int32), iv (own_b (¬ (v436 < (65536 : Int32)) ∧ (¬ ((1114111 : Int32) < v388))))] [])) (fun target kt => ?_) ?_
          · show Steps p.tables e below (Tg433.setTop (mkF m 526 #[iv p0, iv p1, iv p2, iv p3, iv p4, iv p5, iv v4, iv v14, iv v21, iv v26, rv b30, iv v92, iv v134, iv v141, iv v148, iv (4 : Int32), iv v232, .unset, iv (2 : Int32), iv (own_b ((v134 &&& (192 : Int32)) = (128 : Int32))), iv v329, iv v336, iv v343, iv v388, iv v436, iv (65536 : Int32), iv (1114111 : Int32), iv (own_b (¬ (v436 < (65536 : Int32)) ∧ (¬ ((1114111 : Int32) < v388))))] [(.int (own_b ((v134 &&& (192 : Int32)) = (128 : Int32))))])) target
            refine XS.ifYes Xg433.here hx rfl (pc0 := 526) (pc' := 534) rfl (hb hby at_526) rfl ((if0 _ _).trans (teq (own_b00 rfl c526)).1) (by decide) (by decide) ?_
            refine XS.iconst Xg433.here hx rfl (hb hby at_534) ?_
            refine XS.istore Xg433.here hx rfl (hb hby at_535) rfl (l' := #[iv p0, iv p1, iv p2, iv p3, iv p4, iv p5, iv v4, iv v14, iv v21, iv v26, rv b30, iv v92, iv v134, iv v141, iv v148, iv (4 : Int32), iv v232, iv (-1 : Int32), iv (2 : Int32), iv (own_b ((v134 &&& (192 : Int32)) = (128 : Int32))), iv v329, iv v336, iv v343, iv v388, iv v436, iv (65536 : Int32), iv (1114111 : Int32), iv (own_b (¬ (v436 < (65536 : Int32)) ∧ (¬ ((1114111 : Int32) < v388))))]) rfl ?_
            refine XS.goto Xg433.here hx rfl (pc0 := 537) (pc' := 584) rfl (hb hby at_537) (by decide) (by decide) ?_
            exact kt
          exact ⟨_, ⟨(-1 : Int32), rfl, (if_neg c526).symm⟩, fun _ k => k⟩
      refine own_st st_M584 ?_
      refine own_st (B := Tg433.setTop (mkF m 590 #[iv p0, iv p1, iv p2, iv p3, iv p4, iv p5, iv v4, iv v14, iv v21, iv v26, rv b30, iv v92, iv v134, iv v141, iv v148, iv (4 : Int32), iv v232, iv j584_l17, iv (2 : Int32), iv (own_b ((v134 &&& (192 : Int32)) = (128 : Int32))), iv v329, iv v336, iv v343, iv v388, iv v436, iv (65536 : Int32), iv (1114111 : Int32), iv (own_b (¬ (v436 < (65536 : Int32)) ∧ (¬ ((1114111 : Int32) < v388))))] [(.int v21), (.int v4), (.ref b30)])) (fun target kt => ?_) ?_
      · show Steps p.tables e below (Tg433.setTop (mkF m 584 #[iv p0, iv p1, iv p2, iv p3, iv p4, iv p5, iv v4, iv v14, iv v21, iv v26, rv b30, iv v92, iv v134, iv v141, iv v148, iv (4 : Int32), iv v232, iv j584_l17, iv (2 : Int32), iv (own_b ((v134 &&& (192 : Int32)) = (128 : Int32))), iv v329, iv v336, iv v343, iv v388, iv v436, iv (65536 : Int32), iv (1114111 : Int32), iv (own_b (¬ (v436 < (65536 : Int32)) ∧ (¬ ((1114111 : Int32) < v388))))] [])) target
        refine XS.aload Xg433.here hx rfl (hb hby at_584) rfl rfl ?_
        refine XS.iload Xg433.here hx rfl (hb hby at_586) rfl ?_
        refine XS.iload Xg433.here hx rfl (hb hby at_588) rfl ?_
        exact kt
      obtain ⟨_, _, ⟨Tg590, Lg590, kg590, ng590⟩, -, Xg590, ⟨Lcg590, hQg590, lg590, yg590, zg590⟩, stg590⟩ := Jvm.LawKit.callS Xg433 hx (y := (⟨"com/example/psyche/psyche/XmlChars", "sequenceLength", "([BII)I"⟩ : MethodName)) hown (mvT hZ (hw _ (List.mem_of_getElem? (i := 1) rfl))) (mvT hZ (hw _ (List.mem_of_getElem? (i := 2) rfl))) (mvT hZ (hw _ (List.mem_of_getElem? (i := 3) rfl))) (mvT hZ (hw _ (List.mem_of_getElem? (i := 4) rfl))) (by decide) (backOf (W := 0) (own_rm1_D l Z a0 hw [] b30 v4 v21 a128 hg128 n0 Zz_12 F_24 (show v4 = (0 : Int32) ∨ v4 = (1 : Int32) ∨ v4 = (2 : Int32) ∨ v4 = (3 : Int32) from hat) (show ¬ ((a128 (v4).toNatClampNeg) &&& (255 : Int32)) < (194 : Int32) from (by rw [hLD, Int32.lt_iff_toInt_lt, show (194 : Int32).toInt = 194 by decide]; omega)) (show ¬ ((a128 (v4).toNatClampNeg) &&& (255 : Int32)) < (224 : Int32) from (by rw [hLD, Int32.lt_iff_toInt_lt, show (224 : Int32).toInt = 224 by decide]; omega)) (show ¬ ((a128 (v4).toNatClampNeg) &&& (255 : Int32)) < (240 : Int32) from (by rw [hLD, Int32.lt_iff_toInt_lt, show (240 : Int32).toInt = 240 by decide]; omega))) hZ (hw _ (List.mem_of_getElem? (i := 4) rfl)) (hw _ (List.mem_of_getElem? (i := 3) rfl)) (by decide) (by decide)) (g := (mkF m 590 #[iv p0, iv p1, iv p2, iv p3, iv p4, iv p5, iv v4, iv v14, iv v21, iv v26, rv b30, iv v92, iv v134, iv v141, iv v148, iv (4 : Int32), iv v232, iv j584_l17, iv (2 : Int32), iv (own_b ((v134 &&& (192 : Int32)) = (128 : Int32))), iv v329, iv v336, iv v343, iv v388, iv v436, iv (65536 : Int32), iv (1114111 : Int32), iv (own_b (¬ (v436 < (65536 : Int32)) ∧ (¬ ((1114111 : Int32) < v388))))] [(.int v21), (.int v4), (.ref b30)])) rfl (by rw [hml]; rfl) (argsL := [(.ref b30), (.int v4), (.int v21)]) (rest := []) (lenOf own_pd0 rfl) rfl (by show 2 * 0 + _ ≤ _; exact Nat.le_of_eq rfl) (hb hby at_590) (fun _ _ => ⟨rfl, eg433, (by decide : 1 + 0 ≤ _), (by decide : 8 + 0 ≤ _)⟩)
      dsimp only [Pt.U, Pt.locs, Pt.cells, Pt.slots] at Xg590 lg590 yg590 zg590 stg590 hQg590
      subst lg590 yg590 zg590
      obtain ⟨rfl, Ng590q, eg590⟩ := hQg590
      have Ng590 := Fr.app Ng433 Ng590q
      refine own_st (stg590) ?_
      refine own_st (B := Tg590.setTop (mkF m 595 #[iv p0, iv p1, iv p2, iv p3, iv p4, iv p5, iv v4, iv v14, iv v21, iv v26, rv b30, iv v92, iv v134, iv v141, iv v148, iv (4 : Int32), iv v232, iv j584_l17, iv (2 : Int32), iv (own_b ((v134 &&& (192 : Int32)) = (128 : Int32))), iv v329, iv v336, iv v343, iv v388, iv v436, iv (65536 : Int32), iv (1114111 : Int32), iv (own_b (¬ (v436 < (65536 : Int32)) ∧ (¬ ((1114111 : Int32) < v388))))] [(.int j584_l17), (.int (if ((a128 (v4).toNatClampNeg) &&& (255 : Int32)) < (245 : Int32) then (if (v4 + (1 : Int32)) < v21 then (if ((a128 (v4 + (1 : Int32)).toNatClampNeg) &&& (255 : Int32)) < (if ((a128 (v4).toNatClampNeg) &&& (255 : Int32)) = (240 : Int32) then (144 : Int32) else (128 : Int32)) then (-1 : Int32) else (if (if ((a128 (v4).toNatClampNeg) &&& (255 : Int32)) = (240 : Int32) then (191 : Int32) else (if ((a128 (v4).toNatClampNeg) &&& (255 : Int32)) = (244 : Int32) then (143 : Int32) else (191 : Int32))) < ((a128 (v4 + (1 : Int32)).toNatClampNeg) &&& (255 : Int32)) then (-1 : Int32) else (if (v4 + (2 : Int32)) < v21 then (if ((a128 (v4 + (2 : Int32)).toNatClampNeg) &&& (255 : Int32)) < (128 : Int32) then (-1 : Int32) else (if (191 : Int32) < ((a128 (v4 + (2 : Int32)).toNatClampNeg) &&& (255 : Int32)) then (-1 : Int32) else (if (v4 + (3 : Int32)) < v21 then (if ((a128 (v4 + (3 : Int32)).toNatClampNeg) &&& (255 : Int32)) < (128 : Int32) then (-1 : Int32) else (if (191 : Int32) < ((a128 (v4 + (3 : Int32)).toNatClampNeg) &&& (255 : Int32)) then (-1 : Int32) else (if ((a128 (v4).toNatClampNeg) &&& (255 : Int32)) = (239 : Int32) then (if (a128 (v4 + (1 : Int32)).toNatClampNeg) = (-65 : Int32) then (if ((a128 (v4 + (2 : Int32)).toNatClampNeg) &&& (254 : Int32)) = (190 : Int32) then (-2 : Int32) else (4 : Int32)) else (4 : Int32)) else (4 : Int32)))) else (0 : Int32)))) else (0 : Int32)))) else (0 : Int32)) else (-1 : Int32)))])) (fun target kt => ?_) ?_
      · show Steps p.tables e below (Tg590.setTop (mkF m 593 #[iv p0, iv p1, iv p2, iv p3, iv p4, iv p5, iv v4, iv v14, iv v21, iv v26, rv b30, iv v92, iv v134, iv v141, iv v148, iv (4 : Int32), iv v232, iv j584_l17, iv (2 : Int32), iv (own_b ((v134 &&& (192 : Int32)) = (128 : Int32))), iv v329, iv v336, iv v343, iv v388, iv v436, iv (65536 : Int32), iv (1114111 : Int32), iv (own_b (¬ (v436 < (65536 : Int32)) ∧ (¬ ((1114111 : Int32) < v388))))] [(.int (if ((a128 (v4).toNatClampNeg) &&& (255 : Int32)) < (245 : Int32) then (if (v4 + (1 : Int32)) < v21 then (if ((a128 (v4 + (1 : Int32)).toNatClampNeg) &&& (255 : Int32)) < (if ((a128 (v4).toNatClampNeg) &&& (255 : Int32)) = (240 : Int32) then (144 : Int32) else (128 : Int32)) then (-1 : Int32) else (if (if ((a128 (v4).toNatClampNeg) &&& (255 : Int32)) = (240 : Int32) then (191 : Int32) else (if ((a128 (v4).toNatClampNeg) &&& (255 : Int32)) = (244 : Int32) then (143 : Int32) else (191 : Int32))) < ((a128 (v4 + (1 : Int32)).toNatClampNeg) &&& (255 : Int32)) then (-1 : Int32) else (if (v4 + (2 : Int32)) < v21 then (if ((a128 (v4 + (2 : Int32)).toNatClampNeg) &&& (255 : Int32)) < (128 : Int32) then (-1 : Int32) else (if (191 : Int32) < ((a128 (v4 + (2 : Int32)).toNatClampNeg) &&& (255 : Int32)) then (-1 : Int32) else (if (v4 + (3 : Int32)) < v21 then (if ((a128 (v4 + (3 : Int32)).toNatClampNeg) &&& (255 : Int32)) < (128 : Int32) then (-1 : Int32) else (if (191 : Int32) < ((a128 (v4 + (3 : Int32)).toNatClampNeg) &&& (255 : Int32)) then (-1 : Int32) else (if ((a128 (v4).toNatClampNeg) &&& (255 : Int32)) = (239 : Int32) then (if (a128 (v4 + (1 : Int32)).toNatClampNeg) = (-65 : Int32) then (if ((a128 (v4 + (2 : Int32)).toNatClampNeg) &&& (254 : Int32)) = (190 : Int32) then (-2 : Int32) else (4 : Int32)) else (4 : Int32)) else (4 : Int32)))) else (0 : Int32)))) else (0 : Int32)))) else (0 : Int32)) else (-1 : Int32)))])) target
        refine XS.iload Xg590.here hx rfl (hb hby at_593) rfl ?_
        exact kt
      have c595 : (if ((a128 (v4).toNatClampNeg) &&& (255 : Int32)) < (245 : Int32) then (if (v4 + (1 : Int32)) < v21 then (if ((a128 (v4 + (1 : Int32)).toNatClampNeg) &&& (255 : Int32)) < (if ((a128 (v4).toNatClampNeg) &&& (255 : Int32)) = (240 : Int32) then (144 : Int32) else (128 : Int32)) then (-1 : Int32) else (if (if ((a128 (v4).toNatClampNeg) &&& (255 : Int32)) = (240 : Int32) then (191 : Int32) else (if ((a128 (v4).toNatClampNeg) &&& (255 : Int32)) = (244 : Int32) then (143 : Int32) else (191 : Int32))) < ((a128 (v4 + (1 : Int32)).toNatClampNeg) &&& (255 : Int32)) then (-1 : Int32) else (if (v4 + (2 : Int32)) < v21 then (if ((a128 (v4 + (2 : Int32)).toNatClampNeg) &&& (255 : Int32)) < (128 : Int32) then (-1 : Int32) else (if (191 : Int32) < ((a128 (v4 + (2 : Int32)).toNatClampNeg) &&& (255 : Int32)) then (-1 : Int32) else (if (v4 + (3 : Int32)) < v21 then (if ((a128 (v4 + (3 : Int32)).toNatClampNeg) &&& (255 : Int32)) < (128 : Int32) then (-1 : Int32) else (if (191 : Int32) < ((a128 (v4 + (3 : Int32)).toNatClampNeg) &&& (255 : Int32)) then (-1 : Int32) else (if ((a128 (v4).toNatClampNeg) &&& (255 : Int32)) = (239 : Int32) then (if (a128 (v4 + (1 : Int32)).toNatClampNeg) = (-65 : Int32) then (if ((a128 (v4 + (2 : Int32)).toNatClampNeg) &&& (254 : Int32)) = (190 : Int32) then (-2 : Int32) else (4 : Int32)) else (4 : Int32)) else (4 : Int32)))) else (0 : Int32)))) else (0 : Int32)))) else (0 : Int32)) else (-1 : Int32)) = j584_l17 := by
        have hc1 : 0 ≤ v134.toInt ∧ v134.toInt < 256 := by rw [hv134, own_m255]; omega
        have hc2 : 0 ≤ v141.toInt ∧ v141.toInt < 256 := by rw [hv141, own_m255]; omega
        have hc3 : 0 ≤ v148.toInt ∧ v148.toInt < 256 := by rw [hv148, own_m255]; omega
        have hbits : v232.toInt = v92.toInt % 8 := by rw [hv232]; exact own_m7 v92
        have hq1 : v329.toInt = v134.toInt % 64 := by rw [hv329]; exact own_m63 v134
        have hq2 : v336.toInt = v141.toInt % 64 := by rw [hv336]; exact own_m63 v141
        have hq3 : v343.toInt = v148.toInt % 64 := by rw [hv343]; exact own_m63 v148
        have hz0 : (0 : Int32).toInt = 0 := by decide
        have hz63 : (63 : Int32).toInt = 63 := by decide
        have hmn : v388.toInt = (v92.toInt % 8) * 262144 + (v134.toInt % 64) * 4096 + (0) * 64 + (0) * 1 := by
          rw [hv388, if_neg (by decide), if_neg (by decide), own_p4 _ _ _ _ (by omega) (by omega) (by omega) (by omega) (by omega) (by omega) (by omega) (by omega)]
          omega
        have hmx : v436.toInt = (v92.toInt % 8) * 262144 + (v134.toInt % 64) * 4096 + (63) * 64 + (63) * 1 := by
          rw [hv436, if_neg (by decide), if_neg (by decide), own_p4 _ _ _ _ (by omega) (by omega) (by omega) (by omega) (by omega) (by omega) (by omega) (by omega)]
          omega
        have hkv := own_kv v14 (4 : Int32) (2 : Int32) hv261
        rw [show (4 : Int32).toInt = 4 by decide, show (2 : Int32).toInt = 2 by decide] at hkv
        rw [hj584_l17]
        simp only [hLD, hA1, hA2, hA3, hM1, hM2, own_c192 v134 hc1.1 hc1.2, own_c192 v141 hc2.1 hc2.2, own_c192 v148 hc3.1 hc3.2, own_lim1 v4 v14 hat hav v21 hv21, own_lim2 v4 v14 hat hav v21 hv21, own_lim3 v4 v14 hat hav v21 hv21]
        exact own_F3_2 v92 v134 v141 v148 v14 v388 v436 (by omega) hc1 hc2 hc3 hav (hkv.1 (by decide)) hmn hmx
      refine own_st (B := Tg590.setTop (mkF m 603 #[iv p0, iv p1, iv p2, iv p3, iv p4, iv p5, iv v4, iv v14, iv v21, iv v26, rv b30, iv v92, iv v134, iv v141, iv v148, iv (4 : Int32), iv v232, iv j584_l17, iv (2 : Int32), iv (own_b ((v134 &&& (192 : Int32)) = (128 : Int32))), iv v329, iv v336, iv v343, iv v388, iv v436, iv (65536 : Int32), iv (1114111 : Int32), iv (own_b (¬ (v436 < (65536 : Int32)) ∧ (¬ ((1114111 : Int32) < v388))))] [(.int (1 : Int32))])) (fun target kt => ?_) ?_
      · show Steps p.tables e below (Tg590.setTop (mkF m 595 #[iv p0, iv p1, iv p2, iv p3, iv p4, iv p5, iv v4, iv v14, iv v21, iv v26, rv b30, iv v92, iv v134, iv v141, iv v148, iv (4 : Int32), iv v232, iv j584_l17, iv (2 : Int32), iv (own_b ((v134 &&& (192 : Int32)) = (128 : Int32))), iv v329, iv v336, iv v343, iv v388, iv v436, iv (65536 : Int32), iv (1114111 : Int32), iv (own_b (¬ (v436 < (65536 : Int32)) ∧ (¬ ((1114111 : Int32) < v388))))] [(.int j584_l17), (.int (if ((a128 (v4).toNatClampNeg) &&& (255 : Int32)) < (245 : Int32) then (if (v4 + (1 : Int32)) < v21 then (if ((a128 (v4 + (1 : Int32)).toNatClampNeg) &&& (255 : Int32)) < (if ((a128 (v4).toNatClampNeg) &&& (255 : Int32)) = (240 : Int32) then (144 : Int32) else (128 : Int32)) then (-1 : Int32) else (if (if ((a128 (v4).toNatClampNeg) &&& (255 : Int32)) = (240 : Int32) then (191 : Int32) else (if ((a128 (v4).toNatClampNeg) &&& (255 : Int32)) = (244 : Int32) then (143 : Int32) else (191 : Int32))) < ((a128 (v4 + (1 : Int32)).toNatClampNeg) &&& (255 : Int32)) then (-1 : Int32) else (if (v4 + (2 : Int32)) < v21 then (if ((a128 (v4 + (2 : Int32)).toNatClampNeg) &&& (255 : Int32)) < (128 : Int32) then (-1 : Int32) else (if (191 : Int32) < ((a128 (v4 + (2 : Int32)).toNatClampNeg) &&& (255 : Int32)) then (-1 : Int32) else (if (v4 + (3 : Int32)) < v21 then (if ((a128 (v4 + (3 : Int32)).toNatClampNeg) &&& (255 : Int32)) < (128 : Int32) then (-1 : Int32) else (if (191 : Int32) < ((a128 (v4 + (3 : Int32)).toNatClampNeg) &&& (255 : Int32)) then (-1 : Int32) else (if ((a128 (v4).toNatClampNeg) &&& (255 : Int32)) = (239 : Int32) then (if (a128 (v4 + (1 : Int32)).toNatClampNeg) = (-65 : Int32) then (if ((a128 (v4 + (2 : Int32)).toNatClampNeg) &&& (254 : Int32)) = (190 : Int32) then (-2 : Int32) else (4 : Int32)) else (4 : Int32)) else (4 : Int32)))) else (0 : Int32)))) else (0 : Int32)))) else (0 : Int32)) else (-1 : Int32)))])) target
        refine XS.icmpNo Xg590.here hx rfl (hb hby at_595) rfl (teq c595).2 ?_
        refine XS.iconst Xg590.here hx rfl (hb hby at_598) ?_
        refine XS.goto Xg590.here hx rfl (pc0 := 599) (pc' := 603) rfl (hb hby at_599) (by decide) (by decide) ?_
        exact kt
      obtain ⟨fs, hr, hrun, hended, hW, hsame⟩ := Xg590.leave (v := some (.int (1 : Int32))) (fun h => by rw [Bd.returns] at h; cases h)
      have hend : Steps p.tables e below (Tg590.setTop (mkF m 603 #[iv p0, iv p1, iv p2, iv p3, iv p4, iv p5, iv v4, iv v14, iv v21, iv v26, rv b30, iv v92, iv v134, iv v141, iv v148, iv (4 : Int32), iv v232, iv j584_l17, iv (2 : Int32), iv (own_b ((v134 &&& (192 : Int32)) = (128 : Int32))), iv v329, iv v336, iv v343, iv v388, iv v436, iv (65536 : Int32), iv (1114111 : Int32), iv (own_b (¬ (v436 < (65536 : Int32)) ∧ (¬ ((1114111 : Int32) < v388))))] [(.int (1 : Int32))])) (Tg590.setFrames fs) := by
        exact retN Xg590 hx (t := .boolean) Bd.returns (by simp) (hb hby at_603) hr
      refine own_fin hend ⟨_, hrun, hended, _, _, rfl, ?_, ⟨_, rfl⟩, hW, hsame.mono (by decide) (by decide)⟩
      show own_Q0 Z p0 p1 p2 p3 p4 p5 h0 n0 _ Tg590.heap _
      rw [eg590]
      exact ⟨rfl, Ng590⟩
    · subst hs263
      refine own_st (B := Tg258.setTop (mkF m 278 #[iv p0, iv p1, iv p2, iv p3, iv p4, iv p5, iv v4, iv v14, iv v21, iv v26, rv b30, iv v92, iv v134, iv v141, iv v148, iv (4 : Int32), iv v232, .unset, iv (3 : Int32), .unset, .unset, .unset, .unset, .unset, .unset, .unset, .unset, .unset] [(.int (128 : Int32)), (.int (v134 &&& (192 : Int32)))])) (fun target kt => ?_) ?_
      · show Steps p.tables e below (Tg258.setTop (mkF m 263 #[iv p0, iv p1, iv p2, iv p3, iv p4, iv p5, iv v4, iv v14, iv v21, iv v26, rv b30, iv v92, iv v134, iv v141, iv v148, iv (4 : Int32), iv v232, .unset, iv (3 : Int32), .unset, .unset, .unset, .unset, .unset, .unset, .unset, .unset, .unset] [])) target
        refine XS.iload Xg258.here hx rfl (hb hby at_263) rfl ?_
        refine XS.iconst Xg258.here hx rfl (hb hby at_265) ?_
        refine XS.icmpNo Xg258.here hx rfl (hb hby at_266) rfl (flt (by decide : ¬ ((3 : Int32) < (2 : Int32)))).1 ?_
        refine XS.iload Xg258.here hx rfl (hb hby at_269) rfl ?_
        refine XS.sipush Xg258.here hx rfl (hb hby at_271) ?_
        refine XS.iand Xg258.here hx rfl (hb hby at_274) rfl ?_
        refine XS.sipush Xg258.here hx rfl (hb hby at_275) ?_
        exact kt
      obtain ⟨_, ⟨j322_s0, rfl, rfl⟩, st_M322⟩ : own_Lead p.tables e below (Tg258.setTop (mkF m 278 #[iv p0, iv p1, iv p2, iv p3, iv p4, iv p5, iv v4, iv v14, iv v21, iv v26, rv b30, iv v92, iv v134, iv v141, iv v148, iv (4 : Int32), iv v232, .unset, iv (3 : Int32), .unset, .unset, .unset, .unset, .unset, .unset, .unset, .unset, .unset] [(.int (128 : Int32)), (.int (v134 &&& (192 : Int32)))])) (fun B => ∃ (j322_s0 : Int32), B = Tg258.setTop (mkF m 322 #[iv p0, iv p1, iv p2, iv p3, iv p4, iv p5, iv v4, iv v14, iv v21, iv v26, rv b30, iv v92, iv v134, iv v141, iv v148, iv (4 : Int32), iv v232, .unset, iv (3 : Int32), .unset, .unset, .unset, .unset, .unset, .unset, .unset, .unset, .unset] [(.int j322_s0)]) ∧ j322_s0 = own_b ((((v134 &&& (192 : Int32)) = (128 : Int32)) ∧ ((v141 &&& (192 : Int32)) = (128 : Int32))))) := by
        by_cases c278 : (v134 &&& (192 : Int32)) = (128 : Int32)
        · refine own_st (B := Tg258.setTop (mkF m 296 #[iv p0, iv p1, iv p2, iv p3, iv p4, iv p5, iv v4, iv v14, iv v21, iv v26, rv b30, iv v92, iv v134, iv v141, iv v148, iv (4 : Int32), iv v232, .unset, iv (3 : Int32), .unset, .unset, .unset, .unset, .unset, .unset, .unset, .unset, .unset] [(.int (128 : Int32)), (.int (v141 &&& (192 : Int32)))])) (fun target kt => ?_) ?_
          · show Steps p.tables e below (Tg258.setTop (mkF m 278 #[iv p0, iv p1, iv p2, iv p3, iv p4, iv p5, iv v4, iv v14, iv v21, iv v26, rv b30, iv v92, iv v134, iv v141, iv v148, iv (4 : Int32), iv v232, .unset, iv (3 : Int32), .unset, .unset, .unset, .unset, .unset, .unset, .unset, .unset, .unset] [(.int (128 : Int32)), (.int (v134 &&& (192 : Int32)))])) target
            refine XS.icmpNo Xg258.here hx rfl (hb hby at_278) rfl (teq c278).2 ?_
            refine XS.iload Xg258.here hx rfl (hb hby at_281) rfl ?_
            refine XS.iconst Xg258.here hx rfl (hb hby at_283) ?_
            refine XS.icmpNo Xg258.here hx rfl (hb hby at_284) rfl (flt (by decide : ¬ ((3 : Int32) < (3 : Int32)))).1 ?_
            refine XS.iload Xg258.here hx rfl (hb hby at_287) rfl ?_
            refine XS.sipush Xg258.here hx rfl (hb hby at_289) ?_
            refine XS.iand Xg258.here hx rfl (hb hby at_292) rfl ?_
            refine XS.sipush Xg258.here hx rfl (hb hby at_293) ?_
            exact kt
          by_cases c296 : (v141 &&& (192 : Int32)) = (128 : Int32)
          · refine own_st (B := Tg258.setTop (mkF m 322 #[iv p0, iv p1, iv p2, iv p3, iv p4, iv p5, iv v4, iv v14, iv v21, iv v26, rv b30, iv v92, iv v134, iv v141, iv v148, iv (4 : Int32), iv v232, .unset, iv (3 : Int32), .unset, .unset, .unset, .unset, .unset, .unset, .unset, .unset, .unset] [(.int (1 : Int32))])) (fun target kt => ?_) ?_
            · show Steps p.tables e below (Tg258.setTop (mkF m 296 #[iv p0, iv p1, iv p2, iv p3, iv p4, iv p5, iv v4, iv v14, iv v21, iv v26, rv b30, iv v92, iv v134, iv v141, iv v148, iv (4 : Int32), iv v232, .unset, iv (3 : Int32), .unset, .unset, .unset, .unset, .unset, .unset, .unset, .unset, .unset] [(.int (128 : Int32)), (.int (v141 &&& (192 : Int32)))])) target
              refine XS.icmpNo Xg258.here hx rfl (hb hby at_296) rfl (teq c296).2 ?_
              refine XS.iload Xg258.here hx rfl (hb hby at_299) rfl ?_
              refine XS.iconst Xg258.here hx rfl (hb hby at_301) ?_
              refine XS.icmpYes Xg258.here hx rfl (pc0 := 302) (pc' := 317) rfl (hb hby at_302) rfl (tlt (by decide : (3 : Int32) < (4 : Int32))).1 (by decide) (by decide) ?_
              refine XS.iconst Xg258.here hx rfl (hb hby at_317) ?_
              refine XS.goto Xg258.here hx rfl (pc0 := 318) (pc' := 322) rfl (hb hby at_318) (by decide) (by decide) ?_
              exact kt
            exact ⟨_, ⟨(1 : Int32), rfl, (own_b1 ⟨c278, c296⟩).symm⟩, fun _ k => k⟩
          · refine own_st (B := Tg258.setTop (mkF m 322 #[iv p0, iv p1, iv p2, iv p3, iv p4, iv p5, iv v4, iv v14, iv v21, iv v26, rv b30, iv v92, iv v134, iv v141, iv v148, iv (4 : Int32), iv v232, .unset, iv (3 : Int32), .unset, .unset, .unset, .unset, .unset, .unset, .unset, .unset, .unset] [(.int (0 : Int32))])) (fun target kt => ?_) ?_
            · show Steps p.tables e below (Tg258.setTop (mkF m 296 #[iv p0, iv p1, iv p2, iv p3, iv p4, iv p5, iv v4, iv v14, iv v21, iv v26, rv b30, iv v92, iv v134, iv v141, iv v148, iv (4 : Int32), iv v232, .unset, iv (3 : Int32), .unset, .unset, .unset, .unset, .unset, .unset, .unset, .unset, .unset] [(.int (128 : Int32)), (.int (v141 &&& (192 : Int32)))])) target
              refine XS.icmpYes Xg258.here hx rfl (pc0 := 296) (pc' := 321) rfl (hb hby at_296) rfl (feq c296).2 (by decide) (by decide) ?_
              refine XS.iconst Xg258.here hx rfl (hb hby at_321) ?_
              exact kt
            exact ⟨_, ⟨(0 : Int32), rfl, (own_b0 (fun w => c296 w.2)).symm⟩, fun _ k => k⟩
        · refine own_st (B := Tg258.setTop (mkF m 322 #[iv p0, iv p1, iv p2, iv p3, iv p4, iv p5, iv v4, iv v14, iv v21, iv v26, rv b30, iv v92, iv v134, iv v141, iv v148, iv (4 : Int32), iv v232, .unset, iv (3 : Int32), .unset, .unset, .unset, .unset, .unset, .unset, .unset, .unset, .unset] [(.int (0 : Int32))])) (fun target kt => ?_) ?_
          · show Steps p.tables e below (Tg258.setTop (mkF m 278 #[iv p0, iv p1, iv p2, iv p3, iv p4, iv p5, iv v4, iv v14, iv v21, iv v26, rv b30, iv v92, iv v134, iv v141, iv v148, iv (4 : Int32), iv v232, .unset, iv (3 : Int32), .unset, .unset, .unset, .unset, .unset, .unset, .unset, .unset, .unset] [(.int (128 : Int32)), (.int (v134 &&& (192 : Int32)))])) target
            refine XS.icmpYes Xg258.here hx rfl (pc0 := 278) (pc' := 321) rfl (hb hby at_278) rfl (feq c278).2 (by decide) (by decide) ?_
            refine XS.iconst Xg258.here hx rfl (hb hby at_321) ?_
            exact kt
          exact ⟨_, ⟨(0 : Int32), rfl, (own_b0 (fun w => c278 w.1)).symm⟩, fun _ k => k⟩
      refine own_st st_M322 ?_
      obtain ⟨v329, hv329⟩ : ∃ z : Int32, z = (v134 &&& (63 : Int32)) := ⟨_, rfl⟩
      obtain ⟨v336, hv336⟩ : ∃ z : Int32, z = (v141 &&& (63 : Int32)) := ⟨_, rfl⟩
      obtain ⟨v343, hv343⟩ : ∃ z : Int32, z = (v148 &&& (63 : Int32)) := ⟨_, rfl⟩
      refine own_st (B := Tg258.setTop (mkF m 385 #[iv p0, iv p1, iv p2, iv p3, iv p4, iv p5, iv v4, iv v14, iv v21, iv v26, rv b30, iv v92, iv v134, iv v141, iv v148, iv (4 : Int32), iv v232, .unset, iv (3 : Int32), iv (own_b (((v134 &&& (192 : Int32)) = (128 : Int32)) ∧ ((v141 &&& (192 : Int32)) = (128 : Int32)))), iv v329, iv v336, iv v343, .unset, .unset, .unset, .unset, .unset] [(.int (0 : Int32)), (.int v336), (.int v329), (.int v232), (.int (4 : Int32))])) (fun target kt => ?_) ?_
      · show Steps p.tables e below (Tg258.setTop (mkF m 322 #[iv p0, iv p1, iv p2, iv p3, iv p4, iv p5, iv v4, iv v14, iv v21, iv v26, rv b30, iv v92, iv v134, iv v141, iv v148, iv (4 : Int32), iv v232, .unset, iv (3 : Int32), .unset, .unset, .unset, .unset, .unset, .unset, .unset, .unset, .unset] [(.int (own_b (((v134 &&& (192 : Int32)) = (128 : Int32)) ∧ ((v141 &&& (192 : Int32)) = (128 : Int32)))))])) target
        refine XS.istore Xg258.here hx rfl (hb hby at_322) rfl (l' := #[iv p0, iv p1, iv p2, iv p3, iv p4, iv p5, iv v4, iv v14, iv v21, iv v26, rv b30, iv v92, iv v134, iv v141, iv v148, iv (4 : Int32), iv v232, .unset, iv (3 : Int32), iv (own_b (((v134 &&& (192 : Int32)) = (128 : Int32)) ∧ ((v141 &&& (192 : Int32)) = (128 : Int32)))), .unset, .unset, .unset, .unset, .unset, .unset, .unset, .unset]) rfl ?_
        refine XS.iload Xg258.here hx rfl (hb hby at_324) rfl ?_
        refine XS.bipush Xg258.here hx rfl (hb hby at_326) ?_
        refine XS.iand Xg258.here hx rfl (hb hby at_328) rfl ?_
        refine XS.istore Xg258.here hx rfl (hb hby at_329) rfl (l' := #[iv p0, iv p1, iv p2, iv p3, iv p4, iv p5, iv v4, iv v14, iv v21, iv v26, rv b30, iv v92, iv v134, iv v141, iv v148, iv (4 : Int32), iv v232, .unset, iv (3 : Int32), iv (own_b (((v134 &&& (192 : Int32)) = (128 : Int32)) ∧ ((v141 &&& (192 : Int32)) = (128 : Int32)))), iv v329, .unset, .unset, .unset, .unset, .unset, .unset, .unset]) (by subst hv329; rfl) ?_
        refine XS.iload Xg258.here hx rfl (hb hby at_331) rfl ?_
        refine XS.bipush Xg258.here hx rfl (hb hby at_333) ?_
        refine XS.iand Xg258.here hx rfl (hb hby at_335) rfl ?_
        show Steps p.tables e below (Tg258.setTop (mkF m 336 #[iv p0, iv p1, iv p2, iv p3, iv p4, iv p5, iv v4, iv v14, iv v21, iv v26, rv b30, iv v92, iv v134, iv v141, iv v148, iv (4 : Int32), iv v232, .unset, iv (3 : Int32), iv (own_b (((v134 &&& (192 : Int32)) = (128 : Int32)) ∧ ((v141 &&& (192 : Int32)) = (128 : Int32)))), iv v329, .unset, .unset, .unset, .unset, .unset, .unset, .unset] [(.int (v141 &&& (63 : Int32)))])) target
        refine XS.istore Xg258.here hx rfl (hb hby at_336) rfl (l' := #[iv p0, iv p1, iv p2, iv p3, iv p4, iv p5, iv v4, iv v14, iv v21, iv v26, rv b30, iv v92, iv v134, iv v141, iv v148, iv (4 : Int32), iv v232, .unset, iv (3 : Int32), iv (own_b (((v134 &&& (192 : Int32)) = (128 : Int32)) ∧ ((v141 &&& (192 : Int32)) = (128 : Int32)))), iv v329, iv v336, .unset, .unset, .unset, .unset, .unset, .unset]) (by subst hv336; rfl) ?_
        refine XS.iload Xg258.here hx rfl (hb hby at_338) rfl ?_
        refine XS.bipush Xg258.here hx rfl (hb hby at_340) ?_
        refine XS.iand Xg258.here hx rfl (hb hby at_342) rfl ?_
        refine XS.istore Xg258.here hx rfl (hb hby at_343) rfl (l' := #[iv p0, iv p1, iv p2, iv p3, iv p4, iv p5, iv v4, iv v14, iv v21, iv v26, rv b30, iv v92, iv v134, iv v141, iv v148, iv (4 : Int32), iv v232, .unset, iv (3 : Int32), iv (own_b (((v134 &&& (192 : Int32)) = (128 : Int32)) ∧ ((v141 &&& (192 : Int32)) = (128 : Int32)))), iv v329, iv v336, iv v343, .unset, .unset, .unset, .unset, .unset]) (by subst hv343; rfl) ?_
        refine XS.iload Xg258.here hx rfl (hb hby at_345) rfl ?_
        refine XS.iload Xg258.here hx rfl (hb hby at_347) rfl ?_
        refine XS.iload Xg258.here hx rfl (hb hby at_349) rfl ?_
        show Steps p.tables e below (Tg258.setTop (mkF m 351 #[iv p0, iv p1, iv p2, iv p3, iv p4, iv p5, iv v4, iv v14, iv v21, iv v26, rv b30, iv v92, iv v134, iv v141, iv v148, iv (4 : Int32), iv v232, .unset, iv (3 : Int32), iv (own_b (((v134 &&& (192 : Int32)) = (128 : Int32)) ∧ ((v141 &&& (192 : Int32)) = (128 : Int32)))), iv v329, iv v336, iv v343, .unset, .unset, .unset, .unset, .unset] [(.int (3 : Int32)), (.int v232), (.int (4 : Int32))])) target
        refine XS.iconst Xg258.here hx rfl (hb hby at_351) ?_
        refine XS.icmpNo Xg258.here hx rfl (hb hby at_352) rfl (flt (by decide : ¬ ((3 : Int32) < (2 : Int32)))).1 ?_
        refine XS.iload Xg258.here hx rfl (hb hby at_355) rfl ?_
        refine XS.goto Xg258.here hx rfl (pc0 := 357) (pc' := 361) rfl (hb hby at_357) (by decide) (by decide) ?_
        refine XS.iload Xg258.here hx rfl (hb hby at_361) rfl ?_
        refine XS.iconst Xg258.here hx rfl (hb hby at_363) ?_
        refine XS.icmpNo Xg258.here hx rfl (hb hby at_364) rfl (flt (by decide : ¬ ((3 : Int32) < (3 : Int32)))).1 ?_
        refine XS.iload Xg258.here hx rfl (hb hby at_367) rfl ?_
        show Steps p.tables e below (Tg258.setTop (mkF m 369 #[iv p0, iv p1, iv p2, iv p3, iv p4, iv p5, iv v4, iv v14, iv v21, iv v26, rv b30, iv v92, iv v134, iv v141, iv v148, iv (4 : Int32), iv v232, .unset, iv (3 : Int32), iv (own_b (((v134 &&& (192 : Int32)) = (128 : Int32)) ∧ ((v141 &&& (192 : Int32)) = (128 : Int32)))), iv v329, iv v336, iv v343, .unset, .unset, .unset, .unset, .unset] [(.int v336), (.int v329), (.int v232), (.int (4 : Int32))])) target
        refine XS.goto Xg258.here hx rfl (pc0 := 369) (pc' := 373) rfl (hb hby at_369) (by decide) (by decide) ?_
        refine XS.iload Xg258.here hx rfl (hb hby at_373) rfl ?_
        refine XS.iconst Xg258.here hx rfl (hb hby at_375) ?_
        refine XS.icmpYes Xg258.here hx rfl (pc0 := 376) (pc' := 384) rfl (hb hby at_376) rfl (tlt (by decide : (3 : Int32) < (4 : Int32))).1 (by decide) (by decide) ?_
        refine XS.iconst Xg258.here hx rfl (hb hby at_384) ?_
        exact kt
      obtain ⟨_, _, ⟨Tg385, Lg385, kg385, ng385⟩, -, Xg385, ⟨Lcg385, hQg385, lg385, yg385, zg385⟩, stg385⟩ := Jvm.LawKit.callS Xg258 hx (y := (⟨"com/example/psyche/psyche/XmlCharsSequenceLengthPinLaw", "compose", "(IIIII)I"⟩ : MethodName)) hown (mvT hZ (hw _ (List.mem_of_getElem? (i := 9) rfl))) (mvT hZ (hw _ (List.mem_of_getElem? (i := 10) rfl))) (mvT hZ (hw _ (List.mem_of_getElem? (i := 11) rfl))) (mvT hZ (hw _ (List.mem_of_getElem? (i := 12) rfl))) (by decide) (backOf (W := 0) (own_rm3 l Z a0 hw [] (4 : Int32) v232 v329 v336 (0 : Int32) hg128 n0 Zz_12) hZ (hw _ (List.mem_of_getElem? (i := 12) rfl)) (hw _ (List.mem_of_getElem? (i := 11) rfl)) (by decide) (by decide)) (g := (mkF m 385 #[iv p0, iv p1, iv p2, iv p3, iv p4, iv p5, iv v4, iv v14, iv v21, iv v26, rv b30, iv v92, iv v134, iv v141, iv v148, iv (4 : Int32), iv v232, .unset, iv (3 : Int32), iv (own_b (((v134 &&& (192 : Int32)) = (128 : Int32)) ∧ ((v141 &&& (192 : Int32)) = (128 : Int32)))), iv v329, iv v336, iv v343, .unset, .unset, .unset, .unset, .unset] [(.int (0 : Int32)), (.int v336), (.int v329), (.int v232), (.int (4 : Int32))])) rfl (by rw [hml]; rfl) (argsL := [(.int (4 : Int32)), (.int v232), (.int v329), (.int v336), (.int (0 : Int32))]) (rest := []) (lenOf own_pd2 rfl) rfl (by show 2 * 0 + _ ≤ _; exact Nat.le_of_eq rfl) (hb hby at_385) (fun _ _ => ⟨rfl, eg258, (by decide : 1 + 0 ≤ _), (by decide : 8 + 0 ≤ _)⟩)
      dsimp only [Pt.U, Pt.locs, Pt.cells, Pt.slots] at Xg385 lg385 yg385 zg385 stg385 hQg385
      subst lg385 yg385 zg385
      obtain ⟨rfl, Ng385q, eg385⟩ := hQg385
      have Ng385 := Fr.app Ng258 Ng385q
      refine own_st (stg385) ?_
      obtain ⟨v388, hv388⟩ : ∃ z : Int32, z = (if (4 : Int32) = (2 : Int32) then ((v232 <<< ((6 : Int32) &&& 31)) ||| v329) else (if (4 : Int32) = (3 : Int32) then (((v232 <<< ((12 : Int32) &&& 31)) ||| (v329 <<< ((6 : Int32) &&& 31))) ||| v336) else ((((v232 <<< ((18 : Int32) &&& 31)) ||| (v329 <<< ((12 : Int32) &&& 31))) ||| (v336 <<< ((6 : Int32) &&& 31))) ||| (0 : Int32)))) := ⟨_, rfl⟩
      refine own_st (B := Tg385.setTop (mkF m 433 #[iv p0, iv p1, iv p2, iv p3, iv p4, iv p5, iv v4, iv v14, iv v21, iv v26, rv b30, iv v92, iv v134, iv v141, iv v148, iv (4 : Int32), iv v232, .unset, iv (3 : Int32), iv (own_b (((v134 &&& (192 : Int32)) = (128 : Int32)) ∧ ((v141 &&& (192 : Int32)) = (128 : Int32)))), iv v329, iv v336, iv v343, iv v388, .unset, .unset, .unset, .unset] [(.int (63 : Int32)), (.int v336), (.int v329), (.int v232), (.int (4 : Int32))])) (fun target kt => ?_) ?_
      · show Steps p.tables e below (Tg385.setTop (mkF m 388 #[iv p0, iv p1, iv p2, iv p3, iv p4, iv p5, iv v4, iv v14, iv v21, iv v26, rv b30, iv v92, iv v134, iv v141, iv v148, iv (4 : Int32), iv v232, .unset, iv (3 : Int32), iv (own_b (((v134 &&& (192 : Int32)) = (128 : Int32)) ∧ ((v141 &&& (192 : Int32)) = (128 : Int32)))), iv v329, iv v336, iv v343, .unset, .unset, .unset, .unset, .unset] [(.int (if (4 : Int32) = (2 : Int32) then ((v232 <<< ((6 : Int32) &&& 31)) ||| v329) else (if (4 : Int32) = (3 : Int32) then (((v232 <<< ((12 : Int32) &&& 31)) ||| (v329 <<< ((6 : Int32) &&& 31))) ||| v336) else ((((v232 <<< ((18 : Int32) &&& 31)) ||| (v329 <<< ((12 : Int32) &&& 31))) ||| (v336 <<< ((6 : Int32) &&& 31))) ||| (0 : Int32)))))])) target
        refine XS.istore Xg385.here hx rfl (hb hby at_388) rfl (l' := #[iv p0, iv p1, iv p2, iv p3, iv p4, iv p5, iv v4, iv v14, iv v21, iv v26, rv b30, iv v92, iv v134, iv v141, iv v148, iv (4 : Int32), iv v232, .unset, iv (3 : Int32), iv (own_b (((v134 &&& (192 : Int32)) = (128 : Int32)) ∧ ((v141 &&& (192 : Int32)) = (128 : Int32)))), iv v329, iv v336, iv v343, iv v388, .unset, .unset, .unset, .unset]) (by subst hv388; rfl) ?_
        refine XS.iload Xg385.here hx rfl (hb hby at_390) rfl ?_
        refine XS.iload Xg385.here hx rfl (hb hby at_392) rfl ?_
        refine XS.iload Xg385.here hx rfl (hb hby at_394) rfl ?_
        refine XS.iconst Xg385.here hx rfl (hb hby at_396) ?_
        refine XS.icmpNo Xg385.here hx rfl (hb hby at_397) rfl (flt (by decide : ¬ ((3 : Int32) < (2 : Int32)))).1 ?_
        refine XS.iload Xg385.here hx rfl (hb hby at_400) rfl ?_
        refine XS.goto Xg385.here hx rfl (pc0 := 402) (pc' := 407) rfl (hb hby at_402) (by decide) (by decide) ?_
        show Steps p.tables e below (Tg385.setTop (mkF m 407 #[iv p0, iv p1, iv p2, iv p3, iv p4, iv p5, iv v4, iv v14, iv v21, iv v26, rv b30, iv v92, iv v134, iv v141, iv v148, iv (4 : Int32), iv v232, .unset, iv (3 : Int32), iv (own_b (((v134 &&& (192 : Int32)) = (128 : Int32)) ∧ ((v141 &&& (192 : Int32)) = (128 : Int32)))), iv v329, iv v336, iv v343, iv v388, .unset, .unset, .unset, .unset] [(.int v329), (.int v232), (.int (4 : Int32))])) target
        refine XS.iload Xg385.here hx rfl (hb hby at_407) rfl ?_
        refine XS.iconst Xg385.here hx rfl (hb hby at_409) ?_
        refine XS.icmpNo Xg385.here hx rfl (hb hby at_410) rfl (flt (by decide : ¬ ((3 : Int32) < (3 : Int32)))).1 ?_
        refine XS.iload Xg385.here hx rfl (hb hby at_413) rfl ?_
        refine XS.goto Xg385.here hx rfl (pc0 := 415) (pc' := 420) rfl (hb hby at_415) (by decide) (by decide) ?_
        refine XS.iload Xg385.here hx rfl (hb hby at_420) rfl ?_
        refine XS.iconst Xg385.here hx rfl (hb hby at_422) ?_
        refine XS.icmpYes Xg385.here hx rfl (pc0 := 423) (pc' := 431) rfl (hb hby at_423) rfl (tlt (by decide : (3 : Int32) < (4 : Int32))).1 (by decide) (by decide) ?_
        show Steps p.tables e below (Tg385.setTop (mkF m 431 #[iv p0, iv p1, iv p2, iv p3, iv p4, iv p5, iv v4, iv v14, iv v21, iv v26, rv b30, iv v92, iv v134, iv v141, iv v148, iv (4 : Int32), iv v232, .unset, iv (3 : Int32), iv (own_b (((v134 &&& (192 : Int32)) = (128 : Int32)) ∧ ((v141 &&& (192 : Int32)) = (128 : Int32)))), iv v329, iv v336, iv v343, iv v388, .unset, .unset, .unset, .unset] [(.int v336), (.int v329), (.int v232), (.int (4 : Int32))])) target
        refine XS.bipush Xg385.here hx rfl (hb hby at_431) ?_
        exact kt
      obtain ⟨_, _, ⟨Tg433, Lg433, kg433, ng433⟩, -, Xg433, ⟨Lcg433, hQg433, lg433, yg433, zg433⟩, stg433⟩ := Jvm.LawKit.callS Xg385 hx (y := (⟨"com/example/psyche/psyche/XmlCharsSequenceLengthPinLaw", "compose", "(IIIII)I"⟩ : MethodName)) hown (mvT hZ (hw _ (List.mem_of_getElem? (i := 9) rfl))) (mvT hZ (hw _ (List.mem_of_getElem? (i := 10) rfl))) (mvT hZ (hw _ (List.mem_of_getElem? (i := 11) rfl))) (mvT hZ (hw _ (List.mem_of_getElem? (i := 12) rfl))) (by decide) (backOf (W := 0) (own_rm3 l Z a0 hw [] (4 : Int32) v232 v329 v336 (63 : Int32) hg128 n0 Zz_12) hZ (hw _ (List.mem_of_getElem? (i := 12) rfl)) (hw _ (List.mem_of_getElem? (i := 11) rfl)) (by decide) (by decide)) (g := (mkF m 433 #[iv p0, iv p1, iv p2, iv p3, iv p4, iv p5, iv v4, iv v14, iv v21, iv v26, rv b30, iv v92, iv v134, iv v141, iv v148, iv (4 : Int32), iv v232, .unset, iv (3 : Int32), iv (own_b (((v134 &&& (192 : Int32)) = (128 : Int32)) ∧ ((v141 &&& (192 : Int32)) = (128 : Int32)))), iv v329, iv v336, iv v343, iv v388, .unset, .unset, .unset, .unset] [(.int (63 : Int32)), (.int v336), (.int v329), (.int v232), (.int (4 : Int32))])) rfl (by rw [hml]; rfl) (argsL := [(.int (4 : Int32)), (.int v232), (.int v329), (.int v336), (.int (63 : Int32))]) (rest := []) (lenOf own_pd2 rfl) rfl (by show 2 * 0 + _ ≤ _; exact Nat.le_of_eq rfl) (hb hby at_433) (fun _ _ => ⟨rfl, eg385, (by decide : 1 + 0 ≤ _), (by decide : 8 + 0 ≤ _)⟩)
      dsimp only [Pt.U, Pt.locs, Pt.cells, Pt.slots] at Xg433 lg433 yg433 zg433 stg433 hQg433
      subst lg433 yg433 zg433
      obtain ⟨rfl, Ng433q, eg433⟩ := hQg433
      have Ng433 := Fr.app Ng385 Ng433q
      refine own_st (stg433) ?_
      obtain ⟨v436, hv436⟩ : ∃ z : Int32, z = (if (4 : Int32) = (2 : Int32) then ((v232 <<< ((6 : Int32) &&& 31)) ||| v329) else (if (4 : Int32) = (3 : Int32) then (((v232 <<< ((12 : Int32) &&& 31)) ||| (v329 <<< ((6 : Int32) &&& 31))) ||| v336) else ((((v232 <<< ((18 : Int32) &&& 31)) ||| (v329 <<< ((12 : Int32) &&& 31))) ||| (v336 <<< ((6 : Int32) &&& 31))) ||| (63 : Int32)))) := ⟨_, rfl⟩
      refine own_st (B := Tg433.setTop (mkF m 487 #[iv p0, iv p1, iv p2, iv p3, iv p4, iv p5, iv v4, iv v14, iv v21, iv v26, rv b30, iv v92, iv v134, iv v141, iv v148, iv (4 : Int32), iv v232, .unset, iv (3 : Int32), iv (own_b (((v134 &&& (192 : Int32)) = (128 : Int32)) ∧ ((v141 &&& (192 : Int32)) = (128 : Int32)))), iv v329, iv v336, iv v343, iv v388, iv v436, iv (65536 : Int32), iv (1114111 : Int32), .unset] [(.int (65536 : Int32)), (.int v436)])) (fun target kt => ?_) ?_
      · show Steps p.tables e below (Tg433.setTop (mkF m 436 #[iv p0, iv p1, iv p2, iv p3, iv p4, iv p5, iv v4, iv v14, iv v21, iv v26, rv b30, iv v92, iv v134, iv v141, iv v148, iv (4 : Int32), iv v232, .unset, iv (3 : Int32), iv (own_b (((v134 &&& (192 : Int32)) = (128 : Int32)) ∧ ((v141 &&& (192 : Int32)) = (128 : Int32)))), iv v329, iv v336, iv v343, iv v388, .unset, .unset, .unset, .unset] [(.int (if (4 : Int32) = (2 : Int32) then ((v232 <<< ((6 : Int32) &&& 31)) ||| v329) else (if (4 : Int32) = (3 : Int32) then (((v232 <<< ((12 : Int32) &&& 31)) ||| (v329 <<< ((6 : Int32) &&& 31))) ||| v336) else ((((v232 <<< ((18 : Int32) &&& 31)) ||| (v329 <<< ((12 : Int32) &&& 31))) ||| (v336 <<< ((6 : Int32) &&& 31))) ||| (63 : Int32)))))])) target
        refine XS.istore Xg433.here hx rfl (hb hby at_436) rfl (l' := #[iv p0, iv p1, iv p2, iv p3, iv p4, iv p5, iv v4, iv v14, iv v21, iv v26, rv b30, iv v92, iv v134, iv v141, iv v148, iv (4 : Int32), iv v232, .unset, iv (3 : Int32), iv (own_b (((v134 &&& (192 : Int32)) = (128 : Int32)) ∧ ((v141 &&& (192 : Int32)) = (128 : Int32)))), iv v329, iv v336, iv v343, iv v388, iv v436, .unset, .unset, .unset]) (by subst hv436; rfl) ?_
        refine XS.iload Xg433.here hx rfl (hb hby at_438) rfl ?_
        refine XS.iconst Xg433.here hx rfl (hb hby at_440) ?_
        refine XS.icmpYes Xg433.here hx rfl (pc0 := 441) (pc' := 457) rfl (hb hby at_441) rfl (feq (by decide : ¬ ((4 : Int32) = (2 : Int32)))).2 (by decide) (by decide) ?_
        refine XS.iload Xg433.here hx rfl (hb hby at_457) rfl ?_
        refine XS.iconst Xg433.here hx rfl (hb hby at_459) ?_
        refine XS.icmpYes Xg433.here hx rfl (pc0 := 460) (pc' := 475) rfl (hb hby at_460) rfl (feq (by decide : ¬ ((4 : Int32) = (3 : Int32)))).2 (by decide) (by decide) ?_
        refine Xg433.ldcInt hx hown (mvT hZ (hw _ (List.mem_of_getElem? (i := 15) rfl))) (g := (mkF m 475 #[iv p0, iv p1, iv p2, iv p3, iv p4, iv p5, iv v4, iv v14, iv v21, iv v26, rv b30, iv v92, iv v134, iv v141, iv v148, iv (4 : Int32), iv v232, .unset, iv (3 : Int32), iv (own_b (((v134 &&& (192 : Int32)) = (128 : Int32)) ∧ ((v141 &&& (192 : Int32)) = (128 : Int32)))), iv v329, iv v336, iv v343, iv v388, iv v436, .unset, .unset, .unset] [])) rfl (hb hby at_475) _ ?_
        show Steps p.tables e below (Tg433.setTop (mkF m 477 #[iv p0, iv p1, iv p2, iv p3, iv p4, iv p5, iv v4, iv v14, iv v21, iv v26, rv b30, iv v92, iv v134, iv v141, iv v148, iv (4 : Int32), iv v232, .unset, iv (3 : Int32), iv (own_b (((v134 &&& (192 : Int32)) = (128 : Int32)) ∧ ((v141 &&& (192 : Int32)) = (128 : Int32)))), iv v329, iv v336, iv v343, iv v388, iv v436, .unset, .unset, .unset] [(.int (65536 : Int32))])) target
        refine XS.istore Xg433.here hx rfl (hb hby at_477) rfl (l' := #[iv p0, iv p1, iv p2, iv p3, iv p4, iv p5, iv v4, iv v14, iv v21, iv v26, rv b30, iv v92, iv v134, iv v141, iv v148, iv (4 : Int32), iv v232, .unset, iv (3 : Int32), iv (own_b (((v134 &&& (192 : Int32)) = (128 : Int32)) ∧ ((v141 &&& (192 : Int32)) = (128 : Int32)))), iv v329, iv v336, iv v343, iv v388, iv v436, iv (65536 : Int32), .unset, .unset]) rfl ?_
        refine Xg433.ldcInt hx hown (mvT hZ (hw _ (List.mem_of_getElem? (i := 16) rfl))) (g := (mkF m 479 #[iv p0, iv p1, iv p2, iv p3, iv p4, iv p5, iv v4, iv v14, iv v21, iv v26, rv b30, iv v92, iv v134, iv v141, iv v148, iv (4 : Int32), iv v232, .unset, iv (3 : Int32), iv (own_b (((v134 &&& (192 : Int32)) = (128 : Int32)) ∧ ((v141 &&& (192 : Int32)) = (128 : Int32)))), iv v329, iv v336, iv v343, iv v388, iv v436, iv (65536 : Int32), .unset, .unset] [])) rfl (hb hby at_479) _ ?_
        refine XS.istore Xg433.here hx rfl (hb hby at_481) rfl (l' := #[iv p0, iv p1, iv p2, iv p3, iv p4, iv p5, iv v4, iv v14, iv v21, iv v26, rv b30, iv v92, iv v134, iv v141, iv v148, iv (4 : Int32), iv v232, .unset, iv (3 : Int32), iv (own_b (((v134 &&& (192 : Int32)) = (128 : Int32)) ∧ ((v141 &&& (192 : Int32)) = (128 : Int32)))), iv v329, iv v336, iv v343, iv v388, iv v436, iv (65536 : Int32), iv (1114111 : Int32), .unset]) rfl ?_
        refine XS.iload Xg433.here hx rfl (hb hby at_483) rfl ?_
        refine XS.iload Xg433.here hx rfl (hb hby at_485) rfl ?_
        exact kt
      obtain ⟨_, ⟨j522_s0, rfl, rfl⟩, st_M522⟩ : own_Lead p.tables e below (Tg433.setTop (mkF m 487 #[iv p0, iv p1, iv p2, iv p3, iv p4, iv p5, iv v4, iv v14, iv v21, iv v26, rv b30, iv v92, iv v134, iv v141, iv v148, iv (4 : Int32), iv v232, .unset, iv (3 : Int32), iv (own_b (((v134 &&& (192 : Int32)) = (128 : Int32)) ∧ ((v141 &&& (192 : Int32)) = (128 : Int32)))), iv v329, iv v336, iv v343, iv v388, iv v436, iv (65536 : Int32), iv (1114111 : Int32), .unset] [(.int (65536 : Int32)), (.int v436)])) (fun B => ∃ (j522_s0 : Int32), B = Tg433.setTop (mkF m 522 #[iv p0, iv p1, iv p2, iv p3, iv p4, iv p5, iv v4, iv v14, iv v21, iv v26, rv b30, iv v92, iv v134, iv v141, iv v148, iv (4 : Int32), iv v232, .unset, iv (3 : Int32), iv (own_b (((v134 &&& (192 : Int32)) = (128 : Int32)) ∧ ((v141 &&& (192 : Int32)) = (128 : Int32)))), iv v329, iv v336, iv v343, iv v388, iv v436, iv (65536 : Int32), iv (1114111 : Int32), .unset] [(.int j522_s0)]) ∧ j522_s0 = own_b ((¬ (v436 < (65536 : Int32)) ∧ (¬ ((1114111 : Int32) < v388))))) := by
        by_cases c487 : v436 < (65536 : Int32)
        · refine own_st (B := Tg433.setTop (mkF m 522 #[iv p0, iv p1, iv p2, iv p3, iv p4, iv p5, iv v4, iv v14, iv v21, iv v26, rv b30, iv v92, iv v134, iv v141, iv v148, iv (4 : Int32), iv v232, .unset, iv (3 : Int32), iv (own_b (((v134 &&& (192 : Int32)) = (128 : Int32)) ∧ ((v141 &&& (192 : Int32)) = (128 : Int32)))), iv v329, iv v336, iv v343, iv v388, iv v436, iv (65536 : Int32), iv (1114111 : Int32), .unset] [(.int (0 : Int32))])) (fun target kt => ?_) ?_
          · show Steps p.tables e below (Tg433.setTop (mkF m 487 #[iv p0, iv p1, iv p2, iv p3, iv p4, iv p5, iv v4, iv v14, iv v21, iv v26, rv b30, iv v92, iv v134, iv v141, iv v148, iv (4 : Int32), iv v232, .unset, iv (3 : Int32), iv (own_b (((v134 &&& (192 : Int32)) = (128 : Int32)) ∧ ((v141 &&& (192 : Int32)) = (128 : Int32)))), iv v329, iv v336, iv v343, iv v388, iv v436, iv (65536 : Int32), iv (1114111 : Int32), .unset] [(.int (65536 : Int32)), (.int v436)])) target
            refine XS.icmpYes Xg433.here hx rfl (pc0 := 487) (pc' := 521) rfl (hb hby at_487) rfl (tlt c487).1 (by decide) (by decide) ?_
            refine XS.iconst Xg433.here hx rfl (hb hby at_521) ?_
            exact kt
          exact ⟨_, ⟨(0 : Int32), rfl, (own_b0 (fun w => w.1 c487)).symm⟩, fun _ k => k⟩
        · refine own_st (B := Tg433.setTop (mkF m 494 #[iv p0, iv p1, iv p2, iv p3, iv p4, iv p5, iv v4, iv v14, iv v21, iv v26, rv b30, iv v92, iv v134, iv v141, iv v148, iv (4 : Int32), iv v232, .unset, iv (3 : Int32), iv (own_b (((v134 &&& (192 : Int32)) = (128 : Int32)) ∧ ((v141 &&& (192 : Int32)) = (128 : Int32)))), iv v329, iv v336, iv v343, iv v388, iv v436, iv (65536 : Int32), iv (1114111 : Int32), .unset] [(.int (1114111 : Int32)), (.int v388)])) (fun target kt => ?_) ?_
          · show Steps p.tables e below (Tg433.setTop (mkF m 487 #[iv p0, iv p1, iv p2, iv p3, iv p4, iv p5, iv v4, iv v14, iv v21, iv v26, rv b30, iv v92, iv v134, iv v141, iv v148, iv (4 : Int32), iv v232, .unset, iv (3 : Int32), iv (own_b (((v134 &&& (192 : Int32)) = (128 : Int32)) ∧ ((v141 &&& (192 : Int32)) = (128 : Int32)))), iv v329, iv v336, iv v343, iv v388, iv v436, iv (65536 : Int32), iv (1114111 : Int32), .unset] [(.int (65536 : Int32)), (.int v436)])) target
            refine XS.icmpNo Xg433.here hx rfl (hb hby at_487) rfl (flt c487).1 ?_
            refine XS.iload Xg433.here hx rfl (hb hby at_490) rfl ?_
            refine XS.iload Xg433.here hx rfl (hb hby at_492) rfl ?_
            exact kt
          by_cases c494 : (1114111 : Int32) < v388
          · refine own_st (B := Tg433.setTop (mkF m 522 #[iv p0, iv p1, iv p2, iv p3, iv p4, iv p5, iv v4, iv v14, iv v21, iv v26, rv b30, iv v92, iv v134, iv v141, iv v148, iv (4 : Int32), iv v232, .unset, iv (3 : Int32), iv (own_b (((v134 &&& (192 : Int32)) = (128 : Int32)) ∧ ((v141 &&& (192 : Int32)) = (128 : Int32)))), iv v329, iv v336, iv v343, iv v388, iv v436, iv (65536 : Int32), iv (1114111 : Int32), .unset] [(.int (0 : Int32))])) (fun target kt => ?_) ?_
            · show Steps p.tables e below (Tg433.setTop (mkF m 494 #[iv p0, iv p1, iv p2, iv p3, iv p4, iv p5, iv v4, iv v14, iv v21, iv v26, rv b30, iv v92, iv v134, iv v141, iv v148, iv (4 : Int32), iv v232, .unset, iv (3 : Int32), iv (own_b (((v134 &&& (192 : Int32)) = (128 : Int32)) ∧ ((v141 &&& (192 : Int32)) = (128 : Int32)))), iv v329, iv v336, iv v343, iv v388, iv v436, iv (65536 : Int32), iv (1114111 : Int32), .unset] [(.int (1114111 : Int32)), (.int v388)])) target
              refine XS.icmpYes Xg433.here hx rfl (pc0 := 494) (pc' := 521) rfl (hb hby at_494) rfl (tlt c494).2.2.1 (by decide) (by decide) ?_
              refine XS.iconst Xg433.here hx rfl (hb hby at_521) ?_
              exact kt
            exact ⟨_, ⟨(0 : Int32), rfl, (own_b0 (fun w => (fun w => w c494) w.2)).symm⟩, fun _ k => k⟩
          · refine own_st (B := Tg433.setTop (mkF m 522 #[iv p0, iv p1, iv p2, iv p3, iv p4, iv p5, iv v4, iv v14, iv v21, iv v26, rv b30, iv v92, iv v134, iv v141, iv v148, iv (4 : Int32), iv v232, .unset, iv (3 : Int32), iv (own_b (((v134 &&& (192 : Int32)) = (128 : Int32)) ∧ ((v141 &&& (192 : Int32)) = (128 : Int32)))), iv v329, iv v336, iv v343, iv v388, iv v436, iv (65536 : Int32), iv (1114111 : Int32), .unset] [(.int (1 : Int32))])) (fun target kt => ?_) ?_
            · show Steps p.tables e below (Tg433.setTop (mkF m 494 #[iv p0, iv p1, iv p2, iv p3, iv p4, iv p5, iv v4, iv v14, iv v21, iv v26, rv b30, iv v92, iv v134, iv v141, iv v148, iv (4 : Int32), iv v232, .unset, iv (3 : Int32), iv (own_b (((v134 &&& (192 : Int32)) = (128 : Int32)) ∧ ((v141 &&& (192 : Int32)) = (128 : Int32)))), iv v329, iv v336, iv v343, iv v388, iv v436, iv (65536 : Int32), iv (1114111 : Int32), .unset] [(.int (1114111 : Int32)), (.int v388)])) target
              refine XS.icmpNo Xg433.here hx rfl (hb hby at_494) rfl (flt c494).2.2.1 ?_
              refine XS.iload Xg433.here hx rfl (hb hby at_497) rfl ?_
              refine XS.iconst Xg433.here hx rfl (hb hby at_499) ?_
              refine XS.icmpYes Xg433.here hx rfl (pc0 := 500) (pc' := 517) rfl (hb hby at_500) rfl (feq (by decide : ¬ ((4 : Int32) = (3 : Int32)))).2 (by decide) (by decide) ?_
              refine XS.iconst Xg433.here hx rfl (hb hby at_517) ?_
              refine XS.goto Xg433.here hx rfl (pc0 := 518) (pc' := 522) rfl (hb hby at_518) (by decide) (by decide) ?_
              exact kt
            exact ⟨_, ⟨(1 : Int32), rfl, (own_b1 ⟨c487, c494⟩).symm⟩, fun _ k => k⟩
      refine own_st st_M522 ?_
      refine own_st (B := Tg433.setTop (mkF m 526 #[iv p0, iv p1, iv p2, iv p3, iv p4, iv p5, iv v4, iv v14, iv v21, iv v26, rv b30, iv v92, iv v134, iv v141, iv v148, iv (4 : Int32), iv v232, .unset, iv (3 : Int32), iv (own_b (((v134 &&& (192 : Int32)) = (128 : Int32)) ∧ ((v141 &&& (192 : Int32)) = (128 : Int32)))), iv v329, iv v336, iv v343, iv v388, iv v436, iv (65536 : Int32), iv (1114111 : Int32), iv (own_b (¬ (v436 < (65536 : Int32)) ∧ (¬ ((1114111 : Int32) < v388))))] [(.int (own_b (((v134 &&& (192 : Int32)) = (128 : Int32)) ∧ ((v141 &&& (192 : Int32)) = (128 : Int32)))))])) (fun target kt => ?_) ?_
      · show Steps p.tables e below (Tg433.setTop (mkF m 522 #[iv p0, iv p1, iv p2, iv p3, iv p4, iv p5, iv v4, iv v14, iv v21, iv v26, rv b30, iv v92, iv v134, iv v141, iv v148, iv (4 : Int32), iv v232, .unset, iv (3 : Int32), iv (own_b (((v134 &&& (192 : Int32)) = (128 : Int32)) ∧ ((v141 &&& (192 : Int32)) = (128 : Int32)))), iv v329, iv v336, iv v343, iv v388, iv v436, iv (65536 : Int32), iv (1114111 : Int32), .unset] [(.int (own_b (¬ (v436 < (65536 : Int32)) ∧ (¬ ((1114111 : Int32) < v388)))))])) target
        refine XS.istore Xg433.here hx rfl (hb hby at_522) rfl (l' := #[iv p0, iv p1, iv p2, iv p3, iv p4, iv p5, iv v4, iv v14, iv v21, iv v26, rv b30, iv v92, iv v134, iv v141, iv v148, iv (4 : Int32), iv v232, .unset, iv (3 : Int32), iv (own_b (((v134 &&& (192 : Int32)) = (128 : Int32)) ∧ ((v141 &&& (192 : Int32)) = (128 : Int32)))), iv v329, iv v336, iv v343, iv v388, iv v436, iv (65536 : Int32), iv (1114111 : Int32), iv (own_b (¬ (v436 < (65536 : Int32)) ∧ (¬ ((1114111 : Int32) < v388))))]) rfl ?_
        refine XS.iload Xg433.here hx rfl (hb hby at_524) rfl ?_
        exact kt
      obtain ⟨_, ⟨j584_l17, rfl, hj584_l17⟩, st_M584⟩ : own_Lead p.tables e below (Tg433.setTop (mkF m 526 #[iv p0, iv p1, iv p2, iv p3, iv p4, iv p5, iv v4, iv v14, iv v21, iv v26, rv b30, iv v92, iv v134, iv v141, iv v148, iv (4 : Int32), iv v232, .unset, iv (3 : Int32), iv (own_b (((v134 &&& (192 : Int32)) = (128 : Int32)) ∧ ((v141 &&& (192 : Int32)) = (128 : Int32)))), iv v329, iv v336, iv v343, iv v388, iv v436, iv (65536 : Int32), iv (1114111 : Int32), iv (own_b (¬ (v436 < (65536 : Int32)) ∧ (¬ ((1114111 : Int32) < v388))))] [(.int (own_b (((v134 &&& (192 : Int32)) = (128 : Int32)) ∧ ((v141 &&& (192 : Int32)) = (128 : Int32)))))])) (fun B => ∃ (j584_l17 : Int32), B = Tg433.setTop (mkF m 584 #[iv p0, iv p1, iv p2, iv p3, iv p4, iv p5, iv v4, iv v14, iv v21, iv v26, rv b30, iv v92, iv v134, iv v141, iv v148, iv (4 : Int32), iv v232, iv j584_l17, iv (3 : Int32), iv (own_b (((v134 &&& (192 : Int32)) = (128 : Int32)) ∧ ((v141 &&& (192 : Int32)) = (128 : Int32)))), iv v329, iv v336, iv v343, iv v388, iv v436, iv (65536 : Int32), iv (1114111 : Int32), iv (own_b (¬ (v436 < (65536 : Int32)) ∧ (¬ ((1114111 : Int32) < v388))))] []) ∧ j584_l17 = (if ((v134 &&& (192 : Int32)) = (128 : Int32)) ∧ ((v141 &&& (192 : Int32)) = (128 : Int32)) then (if ¬ (v436 < (65536 : Int32)) ∧ (¬ ((1114111 : Int32) < v388)) then (0 : Int32) else (-1 : Int32)) else (-1 : Int32))) := by
        by_cases c526 : ((v134 &&& (192 : Int32)) = (128 : Int32)) ∧ ((v141 &&& (192 : Int32)) = (128 : Int32))
        · refine own_st (B := Tg433.setTop (mkF m 531 #[iv p0, iv p1, iv p2, iv p3, iv p4, iv p5, iv v4, iv v14, iv v21, iv v26, rv b30, iv v92, iv v134, iv v141, iv v148, iv (4 : Int32), iv v232, .unset, iv (3 : Int32), iv (own_b (((v134 &&& (192 : Int32)) = (128 : Int32)) ∧ ((v141 &&& (192 : Int32)) = (128 : Int32)))), iv v329, iv v336, iv v343, iv v388, iv v436, iv (65536 : Int32), iv (1114111 : Int32), iv (own_b (¬ (v436 < (65536 : Int32)) ∧ (¬ ((1114111 : Int32) < v388))))] [(.int (own_b (¬ (v436 < (65536 : Int32)) ∧ (¬ ((1114111 : Int32) < v388)))))])) (fun target kt => ?_) ?_
          · show Steps p.tables e below (Tg433.setTop (mkF m 526 #[iv p0, iv p1, iv p2, iv p3, iv p4, iv p5, iv v4, iv v14, iv v21, iv v26, rv b30, iv v92, iv v134, iv v141, iv v148, iv (4 : Int32), iv v232, .unset, iv (3 : Int32), iv (own_b (((v134 &&& (192 : Int32)) = (128 : Int32)) ∧ ((v141 &&& (192 : Int32)) = (128 : Int32)))), iv v329, iv v336, iv v343, iv v388, iv v436, iv (65536 : Int32), iv (1114111 : Int32), iv (own_b (¬ (v436 < (65536 : Int32)) ∧ (¬ ((1114111 : Int32) < v388))))] [(.int (own_b (((v134 &&& (192 : Int32)) = (128 : Int32)) ∧ ((v141 &&& (192 : Int32)) = (128 : Int32)))))])) target
            refine XS.ifNo Xg433.here hx rfl (hb hby at_526) rfl ((if0 _ _).trans (feq (own_bn0 rfl c526)).1) ?_
            refine XS.iload Xg433.here hx rfl (hb hby at_529) rfl ?_
            exact kt
          by_cases c531 : ¬ (v436 < (65536 : Int32)) ∧ (¬ ((1114111 : Int32) < v388))
          · refine own_st (B := Tg433.setTop (mkF m 584 #[iv p0, iv p1, iv p2, iv p3, iv p4, iv p5, iv v4, iv v14, iv v21, iv v26, rv b30, iv v92, iv v134, iv v141, iv v148, iv (4 : Int32), iv v232, iv (0 : Int32), iv (3 : Int32), iv (own_b (((v134 &&& (192 : Int32)) = (128 : Int32)) ∧ ((v141 &&& (192 : Int32)) = (128 : Int32)))), iv v329, iv v336, iv v343, iv v388, iv v436, iv (65536 : Int32), iv (1114111 : Int32), iv (own_b (¬ (v436 < (65536 : Int32)) ∧ (¬ ((1114111 : Int32) < v388))))] [])) (fun target kt => ?_) ?_
            · show Steps p.tables e below (Tg433.setTop (mkF m 531 #[iv p0, iv p1, iv p2, iv p3, iv p4, iv p5, iv v4, iv v14, iv v21, iv v26, rv b30, iv v92, iv v134, iv v141, iv v148, iv (4 : Int32), iv v232, .unset, iv (3 : Int32), iv (own_b (((v134 &&& (192 : Int32)) = (128 : Int32)) ∧ ((v141 &&& (192 : Int32)) = (128 : Int32)))), iv v329, iv v336, iv v343, iv v388, iv v436, iv (65536 : Int32), iv (1114111 : Int32), iv (own_b (¬ (v436 < (65536 : Int32)) ∧ (¬ ((1114111 : Int32) < v388))))] [(.int (own_b (¬ (v436 < (65536 : Int32)) ∧ (¬ ((1114111 : Int32) < v388)))))])) target
              refine XS.ifYes Xg433.here hx rfl (pc0 := 531) (pc' := 540) rfl (hb hby at_531) rfl ((if0 _ _).trans (feq (own_bn0 rfl c531)).2) (by decide) (by decide) ?_
              refine XS.iload Xg433.here hx rfl (hb hby at_540) rfl ?_
              refine XS.iload Xg433.here hx rfl (hb hby at_542) rfl ?_
              refine XS.icmpNo Xg433.here hx rfl (hb hby at_544) rfl (tlt (by decide : (3 : Int32) < (4 : Int32))).2.1 ?_
              refine XS.iconst Xg433.here hx rfl (hb hby at_547) ?_
              refine XS.istore Xg433.here hx rfl (hb hby at_548) rfl (l' := #[iv p0, iv p1, iv p2, iv p3, iv p4, iv p5, iv v4, iv v14, iv v21, iv v26, rv b30, iv v92, iv v134, iv v141, iv v148, iv (4 : Int32), iv v232, iv (0 : Int32), iv (3 : Int32), iv (own_b (((v134 &&& (192 : Int32)) = (128 : Int32)) ∧ ((v141 &&& (192 : Int32)) = (128 : Int32)))), iv v329, iv v336, iv v343, iv v388, iv v436, iv (65536 : Int32), iv (1114111 : Int32), iv (own_b (¬ (v436 < (65536 : Int32)) ∧ (¬ ((1114111 : Int32) < v388))))]) rfl ?_
              refine XS.goto Xg433.here hx rfl (pc0 := 550) (pc' := 584) rfl (hb hby at_550) (by decide) (by decide) ?_
              exact kt
            exact ⟨_, ⟨(0 : Int32), rfl, (Eq.trans (if_pos c531).symm (if_pos c526).symm)⟩, fun _ k => k⟩
          · refine own_st (B := Tg433.setTop (mkF m 584 #[iv p0, iv p1, iv p2, iv p3, iv p4, iv p5, iv v4, iv v14, iv v21, iv v26, rv b30, iv v92, iv v134, iv v141, iv v148, iv (4 : Int32), iv v232, iv (-1 : Int32), iv (3 : Int32), iv (own_b (((v134 &&& (192 : Int32)) = (128 : Int32)) ∧ ((v141 &&& (192 : Int32)) = (128 : Int32)))), iv v329, iv v336, iv v343, iv v388, iv v436, iv (65536 : Int32), iv (1114111 : Int32), iv (own_b (¬ (v436 < (65536 : Int32)) ∧ (¬ ((1114111 : Int32) < v388))))] [])) (fun target kt => ?_) ?_
            · show Steps p.tables e below (Tg433.setTop (mkF m 531 #[iv p0, iv p1, iv p2, iv p3, iv p4, iv p5, iv v4, iv v14, iv v21, iv v26, rv b30, iv v92, iv v134, iv v141, iv v148, iv (4 : Int32), iv v232, .unset, iv (3 : Int32), iv (own_b (((v134 &&& (192 : Int32)) = (128 : Int32)) ∧ ((v141 &&& (192 : Int32)) = (128 : Int32)))), iv v329, iv v336, iv v343, iv v388, iv v436, iv (65536 : Int32), iv (1114111 : Int32), iv (own_b (¬ (v436 < (65536 : Int32)) ∧ (¬ ((1114111 : Int32) < v388))))] [(.int (own_b (¬ (v436 < (65536 : Int32)) ∧ (¬ ((1114111 : Int32) < v388)))))])) target
              refine XS.ifNo Xg433.here hx rfl (hb hby at_531) rfl ((if0 _ _).trans (teq (own_b00 rfl c531)).2) ?_
              refine XS.iconst Xg433.here hx rfl (hb hby at_534) ?_
              refine XS.istore Xg433.here hx rfl (hb hby at_535) rfl (l' := #[iv p0, iv p1, iv p2, iv p3, iv p4, iv p5, iv v4, iv v14, iv v21, iv v26, rv b30, iv v92, iv v134, iv v141, iv v148, iv (4 : Int32), iv v232, iv (-1 : Int32), iv (3 : Int32), iv (own_b (((v134 &&& (192 : Int32)) = (128 : Int32)) ∧ ((v141 &&& (192 : Int32)) = (128 : Int32)))), iv v329, iv v336, iv v343, iv v388, iv v436, iv (65536 : Int32), iv (1114111 : Int32), iv (own_b (¬ (v436 < (65536 : Int32)) ∧ (¬ ((1114111 : Int32) < v388))))]) rfl ?_
              refine XS.goto Xg433.here hx rfl (pc0 := 537) (pc' := 584) rfl (hb hby at_537) (by decide) (by decide) ?_
              exact kt
            exact ⟨_, ⟨(-1 : Int32), rfl, (Eq.trans (if_neg c531).symm (if_pos c526).symm)⟩, fun _ k => k⟩
        · refine own_st (B := Tg433.setTop (mkF m 584 #[iv p0, iv p1, iv p2, iv p3, iv p4, iv p5, iv v4, iv v14, iv v21, iv v26, rv b30, iv v92, iv v134, iv v141, iv v148, iv (4 : Int32), iv v232, iv (-1 : Int32), iv (3 : Int32), iv (own_b (((v134 &&& (192 : Int32)) = (128 : Int32)) ∧ ((v141 &&& (192 : Int32)) = (128 : Int32)))), iv v329, iv v336, iv v343, iv v388, iv v436, iv (65536 : Int32), iv (1114111 : Int32), iv (own_b (¬ (v436 < (65536 : Int32)) ∧ (¬ ((1114111 : Int32) < v388))))] [])) (fun target kt => ?_) ?_
          · show Steps p.tables e below (Tg433.setTop (mkF m 526 #[iv p0, iv p1, iv p2, iv p3, iv p4, iv p5, iv v4, iv v14, iv v21, iv v26, rv b30, iv v92, iv v134, iv v141, iv v148, iv (4 : Int32), iv v232, .unset, iv (3 : Int32), iv (own_b (((v134 &&& (192 : Int32)) = (128 : Int32)) ∧ ((v141 &&& (192 : Int32)) = (128 : Int32)))), iv v329, iv v336, iv v343, iv v388, iv v436, iv (65536 : Int32), iv (1114111 : Int32), iv (own_b (¬ (v436 < (65536 : Int32)) ∧ (¬ ((1114111 : Int32) < v388))))] [(.int (own_b (((v134 &&& (192 : Int32)) = (128 : Int32)) ∧ ((v141 &&& (192 : Int32)) = (128 : Int32)))))])) target
            refine XS.ifYes Xg433.here hx rfl (pc0 := 526) (pc' := 534) rfl (hb hby at_526) rfl ((if0 _ _).trans (teq (own_b00 rfl c526)).1) (by decide) (by decide) ?_
            refine XS.iconst Xg433.here hx rfl (hb hby at_534) ?_
            refine XS.istore Xg433.here hx rfl (hb hby at_535) rfl (l' := #[iv p0, iv p1, iv p2, iv p3, iv p4, iv p5, iv v4, iv v14, iv v21, iv v26, rv b30, iv v92, iv v134, iv v141, iv v148, iv (4 : Int32), iv v232, iv (-1 : Int32), iv (3 : Int32), iv (own_b (((v134 &&& (192 : Int32)) = (128 : Int32)) ∧ ((v141 &&& (192 : Int32)) = (128 : Int32)))), iv v329, iv v336, iv v343, iv v388, iv v436, iv (65536 : Int32), iv (1114111 : Int32), iv (own_b (¬ (v436 < (65536 : Int32)) ∧ (¬ ((1114111 : Int32) < v388))))]) rfl ?_
            refine XS.goto Xg433.here hx rfl (pc0 := 537) (pc' := 584) rfl (hb hby at_537) (by decide) (by decide) ?_
            exact kt
          exact ⟨_, ⟨(-1 : Int32), rfl, (if_neg c526).symm⟩, fun _ k => k⟩
      refine own_st st_M584 ?_
      refine own_st (B := Tg433.setTop (mkF m 590 #[iv p0, iv p1, iv p2, iv p3, iv p4, iv p5, iv v4, iv v14, iv v21, iv v26, rv b30, iv v92, iv v134, iv v141, iv v148, iv (4 : Int32), iv v232, iv j584_l17, iv (3 : Int32), iv (own_b (((v134 &&& (192 : Int32)) = (128 : Int32)) ∧ ((v141 &&& (192 : Int32)) = (128 : Int32)))), iv v329, iv v336, iv v343, iv v388, iv v436, iv (65536 : Int32), iv (1114111 : Int32), iv (own_b (¬ (v436 < (65536 : Int32)) ∧ (¬ ((1114111 : Int32) < v388))))] [(.int v21), (.int v4), (.ref b30)])) (fun target kt => ?_) ?_
      · show Steps p.tables e below (Tg433.setTop (mkF m 584 #[iv p0, iv p1, iv p2, iv p3, iv p4, iv p5, iv v4, iv v14, iv v21, iv v26, rv b30, iv v92, iv v134, iv v141, iv v148, iv (4 : Int32), iv v232, iv j584_l17, iv (3 : Int32), iv (own_b (((v134 &&& (192 : Int32)) = (128 : Int32)) ∧ ((v141 &&& (192 : Int32)) = (128 : Int32)))), iv v329, iv v336, iv v343, iv v388, iv v436, iv (65536 : Int32), iv (1114111 : Int32), iv (own_b (¬ (v436 < (65536 : Int32)) ∧ (¬ ((1114111 : Int32) < v388))))] [])) target
        refine XS.aload Xg433.here hx rfl (hb hby at_584) rfl rfl ?_
        refine XS.iload Xg433.here hx rfl (hb hby at_586) rfl ?_
        refine XS.iload Xg433.here hx rfl (hb hby at_588) rfl ?_
        exact kt
      obtain ⟨_, _, ⟨Tg590, Lg590, kg590, ng590⟩, -, Xg590, ⟨Lcg590, hQg590, lg590, yg590, zg590⟩, stg590⟩ := Jvm.LawKit.callS Xg433 hx (y := (⟨"com/example/psyche/psyche/XmlChars", "sequenceLength", "([BII)I"⟩ : MethodName)) hown (mvT hZ (hw _ (List.mem_of_getElem? (i := 1) rfl))) (mvT hZ (hw _ (List.mem_of_getElem? (i := 2) rfl))) (mvT hZ (hw _ (List.mem_of_getElem? (i := 3) rfl))) (mvT hZ (hw _ (List.mem_of_getElem? (i := 4) rfl))) (by decide) (backOf (W := 0) (own_rm1_D l Z a0 hw [] b30 v4 v21 a128 hg128 n0 Zz_12 F_24 (show v4 = (0 : Int32) ∨ v4 = (1 : Int32) ∨ v4 = (2 : Int32) ∨ v4 = (3 : Int32) from hat) (show ¬ ((a128 (v4).toNatClampNeg) &&& (255 : Int32)) < (194 : Int32) from (by rw [hLD, Int32.lt_iff_toInt_lt, show (194 : Int32).toInt = 194 by decide]; omega)) (show ¬ ((a128 (v4).toNatClampNeg) &&& (255 : Int32)) < (224 : Int32) from (by rw [hLD, Int32.lt_iff_toInt_lt, show (224 : Int32).toInt = 224 by decide]; omega)) (show ¬ ((a128 (v4).toNatClampNeg) &&& (255 : Int32)) < (240 : Int32) from (by rw [hLD, Int32.lt_iff_toInt_lt, show (240 : Int32).toInt = 240 by decide]; omega))) hZ (hw _ (List.mem_of_getElem? (i := 4) rfl)) (hw _ (List.mem_of_getElem? (i := 3) rfl)) (by decide) (by decide)) (g := (mkF m 590 #[iv p0, iv p1, iv p2, iv p3, iv p4, iv p5, iv v4, iv v14, iv v21, iv v26, rv b30, iv v92, iv v134, iv v141, iv v148, iv (4 : Int32), iv v232, iv j584_l17, iv (3 : Int32), iv (own_b (((v134 &&& (192 : Int32)) = (128 : Int32)) ∧ ((v141 &&& (192 : Int32)) = (128 : Int32)))), iv v329, iv v336, iv v343, iv v388, iv v436, iv (65536 : Int32), iv (1114111 : Int32), iv (own_b (¬ (v436 < (65536 : Int32)) ∧ (¬ ((1114111 : Int32) < v388))))] [(.int v21), (.int v4), (.ref b30)])) rfl (by rw [hml]; rfl) (argsL := [(.ref b30), (.int v4), (.int v21)]) (rest := []) (lenOf own_pd0 rfl) rfl (by show 2 * 0 + _ ≤ _; exact Nat.le_of_eq rfl) (hb hby at_590) (fun _ _ => ⟨rfl, eg433, (by decide : 1 + 0 ≤ _), (by decide : 8 + 0 ≤ _)⟩)
      dsimp only [Pt.U, Pt.locs, Pt.cells, Pt.slots] at Xg590 lg590 yg590 zg590 stg590 hQg590
      subst lg590 yg590 zg590
      obtain ⟨rfl, Ng590q, eg590⟩ := hQg590
      have Ng590 := Fr.app Ng433 Ng590q
      refine own_st (stg590) ?_
      refine own_st (B := Tg590.setTop (mkF m 595 #[iv p0, iv p1, iv p2, iv p3, iv p4, iv p5, iv v4, iv v14, iv v21, iv v26, rv b30, iv v92, iv v134, iv v141, iv v148, iv (4 : Int32), iv v232, iv j584_l17, iv (3 : Int32), iv (own_b (((v134 &&& (192 : Int32)) = (128 : Int32)) ∧ ((v141 &&& (192 : Int32)) = (128 : Int32)))), iv v329, iv v336, iv v343, iv v388, iv v436, iv (65536 : Int32), iv (1114111 : Int32), iv (own_b (¬ (v436 < (65536 : Int32)) ∧ (¬ ((1114111 : Int32) < v388))))] [(.int j584_l17), (.int (if ((a128 (v4).toNatClampNeg) &&& (255 : Int32)) < (245 : Int32) then (if (v4 + (1 : Int32)) < v21 then (if ((a128 (v4 + (1 : Int32)).toNatClampNeg) &&& (255 : Int32)) < (if ((a128 (v4).toNatClampNeg) &&& (255 : Int32)) = (240 : Int32) then (144 : Int32) else (128 : Int32)) then (-1 : Int32) else (if (if ((a128 (v4).toNatClampNeg) &&& (255 : Int32)) = (240 : Int32) then (191 : Int32) else (if ((a128 (v4).toNatClampNeg) &&& (255 : Int32)) = (244 : Int32) then (143 : Int32) else (191 : Int32))) < ((a128 (v4 + (1 : Int32)).toNatClampNeg) &&& (255 : Int32)) then (-1 : Int32) else (if (v4 + (2 : Int32)) < v21 then (if ((a128 (v4 + (2 : Int32)).toNatClampNeg) &&& (255 : Int32)) < (128 : Int32) then (-1 : Int32) else (if (191 : Int32) < ((a128 (v4 + (2 : Int32)).toNatClampNeg) &&& (255 : Int32)) then (-1 : Int32) else (if (v4 + (3 : Int32)) < v21 then (if ((a128 (v4 + (3 : Int32)).toNatClampNeg) &&& (255 : Int32)) < (128 : Int32) then (-1 : Int32) else (if (191 : Int32) < ((a128 (v4 + (3 : Int32)).toNatClampNeg) &&& (255 : Int32)) then (-1 : Int32) else (if ((a128 (v4).toNatClampNeg) &&& (255 : Int32)) = (239 : Int32) then (if (a128 (v4 + (1 : Int32)).toNatClampNeg) = (-65 : Int32) then (if ((a128 (v4 + (2 : Int32)).toNatClampNeg) &&& (254 : Int32)) = (190 : Int32) then (-2 : Int32) else (4 : Int32)) else (4 : Int32)) else (4 : Int32)))) else (0 : Int32)))) else (0 : Int32)))) else (0 : Int32)) else (-1 : Int32)))])) (fun target kt => ?_) ?_
      · show Steps p.tables e below (Tg590.setTop (mkF m 593 #[iv p0, iv p1, iv p2, iv p3, iv p4, iv p5, iv v4, iv v14, iv v21, iv v26, rv b30, iv v92, iv v134, iv v141, iv v148, iv (4 : Int32), iv v232, iv j584_l17, iv (3 : Int32), iv (own_b (((v134 &&& (192 : Int32)) = (128 : Int32)) ∧ ((v141 &&& (192 : Int32)) = (128 : Int32)))), iv v329, iv v336, iv v343, iv v388, iv v436, iv (65536 : Int32), iv (1114111 : Int32), iv (own_b (¬ (v436 < (65536 : Int32)) ∧ (¬ ((1114111 : Int32) < v388))))] [(.int (if ((a128 (v4).toNatClampNeg) &&& (255 : Int32)) < (245 : Int32) then (if (v4 + (1 : Int32)) < v21 then (if ((a128 (v4 + (1 : Int32)).toNatClampNeg) &&& (255 : Int32)) < (if ((a128 (v4).toNatClampNeg) &&& (255 : Int32)) = (240 : Int32) then (144 : Int32) else (128 : Int32)) then (-1 : Int32) else (if (if ((a128 (v4).toNatClampNeg) &&& (255 : Int32)) = (240 : Int32) then (191 : Int32) else (if ((a128 (v4).toNatClampNeg) &&& (255 : Int32)) = (244 : Int32) then (143 : Int32) else (191 : Int32))) < ((a128 (v4 + (1 : Int32)).toNatClampNeg) &&& (255 : Int32)) then (-1 : Int32) else (if (v4 + (2 : Int32)) < v21 then (if ((a128 (v4 + (2 : Int32)).toNatClampNeg) &&& (255 : Int32)) < (128 : Int32) then (-1 : Int32) else (if (191 : Int32) < ((a128 (v4 + (2 : Int32)).toNatClampNeg) &&& (255 : Int32)) then (-1 : Int32) else (if (v4 + (3 : Int32)) < v21 then (if ((a128 (v4 + (3 : Int32)).toNatClampNeg) &&& (255 : Int32)) < (128 : Int32) then (-1 : Int32) else (if (191 : Int32) < ((a128 (v4 + (3 : Int32)).toNatClampNeg) &&& (255 : Int32)) then (-1 : Int32) else (if ((a128 (v4).toNatClampNeg) &&& (255 : Int32)) = (239 : Int32) then (if (a128 (v4 + (1 : Int32)).toNatClampNeg) = (-65 : Int32) then (if ((a128 (v4 + (2 : Int32)).toNatClampNeg) &&& (254 : Int32)) = (190 : Int32) then (-2 : Int32) else (4 : Int32)) else (4 : Int32)) else (4 : Int32)))) else (0 : Int32)))) else (0 : Int32)))) else (0 : Int32)) else (-1 : Int32)))])) target
        refine XS.iload Xg590.here hx rfl (hb hby at_593) rfl ?_
        exact kt
      have c595 : (if ((a128 (v4).toNatClampNeg) &&& (255 : Int32)) < (245 : Int32) then (if (v4 + (1 : Int32)) < v21 then (if ((a128 (v4 + (1 : Int32)).toNatClampNeg) &&& (255 : Int32)) < (if ((a128 (v4).toNatClampNeg) &&& (255 : Int32)) = (240 : Int32) then (144 : Int32) else (128 : Int32)) then (-1 : Int32) else (if (if ((a128 (v4).toNatClampNeg) &&& (255 : Int32)) = (240 : Int32) then (191 : Int32) else (if ((a128 (v4).toNatClampNeg) &&& (255 : Int32)) = (244 : Int32) then (143 : Int32) else (191 : Int32))) < ((a128 (v4 + (1 : Int32)).toNatClampNeg) &&& (255 : Int32)) then (-1 : Int32) else (if (v4 + (2 : Int32)) < v21 then (if ((a128 (v4 + (2 : Int32)).toNatClampNeg) &&& (255 : Int32)) < (128 : Int32) then (-1 : Int32) else (if (191 : Int32) < ((a128 (v4 + (2 : Int32)).toNatClampNeg) &&& (255 : Int32)) then (-1 : Int32) else (if (v4 + (3 : Int32)) < v21 then (if ((a128 (v4 + (3 : Int32)).toNatClampNeg) &&& (255 : Int32)) < (128 : Int32) then (-1 : Int32) else (if (191 : Int32) < ((a128 (v4 + (3 : Int32)).toNatClampNeg) &&& (255 : Int32)) then (-1 : Int32) else (if ((a128 (v4).toNatClampNeg) &&& (255 : Int32)) = (239 : Int32) then (if (a128 (v4 + (1 : Int32)).toNatClampNeg) = (-65 : Int32) then (if ((a128 (v4 + (2 : Int32)).toNatClampNeg) &&& (254 : Int32)) = (190 : Int32) then (-2 : Int32) else (4 : Int32)) else (4 : Int32)) else (4 : Int32)))) else (0 : Int32)))) else (0 : Int32)))) else (0 : Int32)) else (-1 : Int32)) = j584_l17 := by
        have hc1 : 0 ≤ v134.toInt ∧ v134.toInt < 256 := by rw [hv134, own_m255]; omega
        have hc2 : 0 ≤ v141.toInt ∧ v141.toInt < 256 := by rw [hv141, own_m255]; omega
        have hc3 : 0 ≤ v148.toInt ∧ v148.toInt < 256 := by rw [hv148, own_m255]; omega
        have hbits : v232.toInt = v92.toInt % 8 := by rw [hv232]; exact own_m7 v92
        have hq1 : v329.toInt = v134.toInt % 64 := by rw [hv329]; exact own_m63 v134
        have hq2 : v336.toInt = v141.toInt % 64 := by rw [hv336]; exact own_m63 v141
        have hq3 : v343.toInt = v148.toInt % 64 := by rw [hv343]; exact own_m63 v148
        have hz0 : (0 : Int32).toInt = 0 := by decide
        have hz63 : (63 : Int32).toInt = 63 := by decide
        have hmn : v388.toInt = (v92.toInt % 8) * 262144 + (v134.toInt % 64) * 4096 + (v141.toInt % 64) * 64 + (0) * 1 := by
          rw [hv388, if_neg (by decide), if_neg (by decide), own_p4 _ _ _ _ (by omega) (by omega) (by omega) (by omega) (by omega) (by omega) (by omega) (by omega)]
          omega
        have hmx : v436.toInt = (v92.toInt % 8) * 262144 + (v134.toInt % 64) * 4096 + (v141.toInt % 64) * 64 + (63) * 1 := by
          rw [hv436, if_neg (by decide), if_neg (by decide), own_p4 _ _ _ _ (by omega) (by omega) (by omega) (by omega) (by omega) (by omega) (by omega) (by omega)]
          omega
        have hkv := own_kv v14 (4 : Int32) (3 : Int32) hv261
        rw [show (4 : Int32).toInt = 4 by decide, show (3 : Int32).toInt = 3 by decide] at hkv
        rw [hj584_l17]
        simp only [hLD, hA1, hA2, hA3, hM1, hM2, own_c192 v134 hc1.1 hc1.2, own_c192 v141 hc2.1 hc2.2, own_c192 v148 hc3.1 hc3.2, own_lim1 v4 v14 hat hav v21 hv21, own_lim2 v4 v14 hat hav v21 hv21, own_lim3 v4 v14 hat hav v21 hv21]
        exact own_F3_3 v92 v134 v141 v148 v14 v388 v436 (by omega) hc1 hc2 hc3 hav (hkv.1 (by decide)) hmn hmx
      refine own_st (B := Tg590.setTop (mkF m 603 #[iv p0, iv p1, iv p2, iv p3, iv p4, iv p5, iv v4, iv v14, iv v21, iv v26, rv b30, iv v92, iv v134, iv v141, iv v148, iv (4 : Int32), iv v232, iv j584_l17, iv (3 : Int32), iv (own_b (((v134 &&& (192 : Int32)) = (128 : Int32)) ∧ ((v141 &&& (192 : Int32)) = (128 : Int32)))), iv v329, iv v336, iv v343, iv v388, iv v436, iv (65536 : Int32), iv (1114111 : Int32), iv (own_b (¬ (v436 < (65536 : Int32)) ∧ (¬ ((1114111 : Int32) < v388))))] [(.int (1 : Int32))])) (fun target kt => ?_) ?_
      · show Steps p.tables e below (Tg590.setTop (mkF m 595 #[iv p0, iv p1, iv p2, iv p3, iv p4, iv p5, iv v4, iv v14, iv v21, iv v26, rv b30, iv v92, iv v134, iv v141, iv v148, iv (4 : Int32), iv v232, iv j584_l17, iv (3 : Int32), iv (own_b (((v134 &&& (192 : Int32)) = (128 : Int32)) ∧ ((v141 &&& (192 : Int32)) = (128 : Int32)))), iv v329, iv v336, iv v343, iv v388, iv v436, iv (65536 : Int32), iv (1114111 : Int32), iv (own_b (¬ (v436 < (65536 : Int32)) ∧ (¬ ((1114111 : Int32) < v388))))] [(.int j584_l17), (.int (if ((a128 (v4).toNatClampNeg) &&& (255 : Int32)) < (245 : Int32) then (if (v4 + (1 : Int32)) < v21 then (if ((a128 (v4 + (1 : Int32)).toNatClampNeg) &&& (255 : Int32)) < (if ((a128 (v4).toNatClampNeg) &&& (255 : Int32)) = (240 : Int32) then (144 : Int32) else (128 : Int32)) then (-1 : Int32) else (if (if ((a128 (v4).toNatClampNeg) &&& (255 : Int32)) = (240 : Int32) then (191 : Int32) else (if ((a128 (v4).toNatClampNeg) &&& (255 : Int32)) = (244 : Int32) then (143 : Int32) else (191 : Int32))) < ((a128 (v4 + (1 : Int32)).toNatClampNeg) &&& (255 : Int32)) then (-1 : Int32) else (if (v4 + (2 : Int32)) < v21 then (if ((a128 (v4 + (2 : Int32)).toNatClampNeg) &&& (255 : Int32)) < (128 : Int32) then (-1 : Int32) else (if (191 : Int32) < ((a128 (v4 + (2 : Int32)).toNatClampNeg) &&& (255 : Int32)) then (-1 : Int32) else (if (v4 + (3 : Int32)) < v21 then (if ((a128 (v4 + (3 : Int32)).toNatClampNeg) &&& (255 : Int32)) < (128 : Int32) then (-1 : Int32) else (if (191 : Int32) < ((a128 (v4 + (3 : Int32)).toNatClampNeg) &&& (255 : Int32)) then (-1 : Int32) else (if ((a128 (v4).toNatClampNeg) &&& (255 : Int32)) = (239 : Int32) then (if (a128 (v4 + (1 : Int32)).toNatClampNeg) = (-65 : Int32) then (if ((a128 (v4 + (2 : Int32)).toNatClampNeg) &&& (254 : Int32)) = (190 : Int32) then (-2 : Int32) else (4 : Int32)) else (4 : Int32)) else (4 : Int32)))) else (0 : Int32)))) else (0 : Int32)))) else (0 : Int32)) else (-1 : Int32)))])) target
        refine XS.icmpNo Xg590.here hx rfl (hb hby at_595) rfl (teq c595).2 ?_
        refine XS.iconst Xg590.here hx rfl (hb hby at_598) ?_
        refine XS.goto Xg590.here hx rfl (pc0 := 599) (pc' := 603) rfl (hb hby at_599) (by decide) (by decide) ?_
        exact kt
      obtain ⟨fs, hr, hrun, hended, hW, hsame⟩ := Xg590.leave (v := some (.int (1 : Int32))) (fun h => by rw [Bd.returns] at h; cases h)
      have hend : Steps p.tables e below (Tg590.setTop (mkF m 603 #[iv p0, iv p1, iv p2, iv p3, iv p4, iv p5, iv v4, iv v14, iv v21, iv v26, rv b30, iv v92, iv v134, iv v141, iv v148, iv (4 : Int32), iv v232, iv j584_l17, iv (3 : Int32), iv (own_b (((v134 &&& (192 : Int32)) = (128 : Int32)) ∧ ((v141 &&& (192 : Int32)) = (128 : Int32)))), iv v329, iv v336, iv v343, iv v388, iv v436, iv (65536 : Int32), iv (1114111 : Int32), iv (own_b (¬ (v436 < (65536 : Int32)) ∧ (¬ ((1114111 : Int32) < v388))))] [(.int (1 : Int32))])) (Tg590.setFrames fs) := by
        exact retN Xg590 hx (t := .boolean) Bd.returns (by simp) (hb hby at_603) hr
      refine own_fin hend ⟨_, hrun, hended, _, _, rfl, ?_, ⟨_, rfl⟩, hW, hsame.mono (by decide) (by decide)⟩
      show own_Q0 Z p0 p1 p2 p3 p4 p5 h0 n0 _ Tg590.heap _
      rw [eg590]
      exact ⟨rfl, Ng590⟩
    · subst hs263
      refine own_st (B := Tg258.setTop (mkF m 278 #[iv p0, iv p1, iv p2, iv p3, iv p4, iv p5, iv v4, iv v14, iv v21, iv v26, rv b30, iv v92, iv v134, iv v141, iv v148, iv (4 : Int32), iv v232, .unset, iv (4 : Int32), .unset, .unset, .unset, .unset, .unset, .unset, .unset, .unset, .unset] [(.int (128 : Int32)), (.int (v134 &&& (192 : Int32)))])) (fun target kt => ?_) ?_
      · show Steps p.tables e below (Tg258.setTop (mkF m 263 #[iv p0, iv p1, iv p2, iv p3, iv p4, iv p5, iv v4, iv v14, iv v21, iv v26, rv b30, iv v92, iv v134, iv v141, iv v148, iv (4 : Int32), iv v232, .unset, iv (4 : Int32), .unset, .unset, .unset, .unset, .unset, .unset, .unset, .unset, .unset] [])) target
        refine XS.iload Xg258.here hx rfl (hb hby at_263) rfl ?_
        refine XS.iconst Xg258.here hx rfl (hb hby at_265) ?_
        refine XS.icmpNo Xg258.here hx rfl (hb hby at_266) rfl (flt (by decide : ¬ ((4 : Int32) < (2 : Int32)))).1 ?_
        refine XS.iload Xg258.here hx rfl (hb hby at_269) rfl ?_
        refine XS.sipush Xg258.here hx rfl (hb hby at_271) ?_
        refine XS.iand Xg258.here hx rfl (hb hby at_274) rfl ?_
        refine XS.sipush Xg258.here hx rfl (hb hby at_275) ?_
        exact kt
      obtain ⟨_, ⟨j322_s0, rfl, rfl⟩, st_M322⟩ : own_Lead p.tables e below (Tg258.setTop (mkF m 278 #[iv p0, iv p1, iv p2, iv p3, iv p4, iv p5, iv v4, iv v14, iv v21, iv v26, rv b30, iv v92, iv v134, iv v141, iv v148, iv (4 : Int32), iv v232, .unset, iv (4 : Int32), .unset, .unset, .unset, .unset, .unset, .unset, .unset, .unset, .unset] [(.int (128 : Int32)), (.int (v134 &&& (192 : Int32)))])) (fun B => ∃ (j322_s0 : Int32), B = Tg258.setTop (mkF m 322 #[iv p0, iv p1, iv p2, iv p3, iv p4, iv p5, iv v4, iv v14, iv v21, iv v26, rv b30, iv v92, iv v134, iv v141, iv v148, iv (4 : Int32), iv v232, .unset, iv (4 : Int32), .unset, .unset, .unset, .unset, .unset, .unset, .unset, .unset, .unset] [(.int j322_s0)]) ∧ j322_s0 = own_b ((((v134 &&& (192 : Int32)) = (128 : Int32)) ∧ ((((v141 &&& (192 : Int32)) = (128 : Int32)) ∧ ((v148 &&& (192 : Int32)) = (128 : Int32))))))) := by
        by_cases c278 : (v134 &&& (192 : Int32)) = (128 : Int32)
        · refine own_st (B := Tg258.setTop (mkF m 296 #[iv p0, iv p1, iv p2, iv p3, iv p4, iv p5, iv v4, iv v14, iv v21, iv v26, rv b30, iv v92, iv v134, iv v141, iv v148, iv (4 : Int32), iv v232, .unset, iv (4 : Int32), .unset, .unset, .unset, .unset, .unset, .unset, .unset, .unset, .unset] [(.int (128 : Int32)), (.int (v141 &&& (192 : Int32)))])) (fun target kt => ?_) ?_
          · show Steps p.tables e below (Tg258.setTop (mkF m 278 #[iv p0, iv p1, iv p2, iv p3, iv p4, iv p5, iv v4, iv v14, iv v21, iv v26, rv b30, iv v92, iv v134, iv v141, iv v148, iv (4 : Int32), iv v232, .unset, iv (4 : Int32), .unset, .unset, .unset, .unset, .unset, .unset, .unset, .unset, .unset] [(.int (128 : Int32)), (.int (v134 &&& (192 : Int32)))])) target
            refine XS.icmpNo Xg258.here hx rfl (hb hby at_278) rfl (teq c278).2 ?_
            refine XS.iload Xg258.here hx rfl (hb hby at_281) rfl ?_
            refine XS.iconst Xg258.here hx rfl (hb hby at_283) ?_
            refine XS.icmpNo Xg258.here hx rfl (hb hby at_284) rfl (flt (by decide : ¬ ((4 : Int32) < (3 : Int32)))).1 ?_
            refine XS.iload Xg258.here hx rfl (hb hby at_287) rfl ?_
            refine XS.sipush Xg258.here hx rfl (hb hby at_289) ?_
            refine XS.iand Xg258.here hx rfl (hb hby at_292) rfl ?_
            refine XS.sipush Xg258.here hx rfl (hb hby at_293) ?_
            exact kt
          by_cases c296 : (v141 &&& (192 : Int32)) = (128 : Int32)
          · refine own_st (B := Tg258.setTop (mkF m 314 #[iv p0, iv p1, iv p2, iv p3, iv p4, iv p5, iv v4, iv v14, iv v21, iv v26, rv b30, iv v92, iv v134, iv v141, iv v148, iv (4 : Int32), iv v232, .unset, iv (4 : Int32), .unset, .unset, .unset, .unset, .unset, .unset, .unset, .unset, .unset] [(.int (128 : Int32)), (.int (v148 &&& (192 : Int32)))])) (fun target kt => ?_) ?_
            · show Steps p.tables e below (Tg258.setTop (mkF m 296 #[iv p0, iv p1, iv p2, iv p3, iv p4, iv p5, iv v4, iv v14, iv v21, iv v26, rv b30, iv v92, iv v134, iv v141, iv v148, iv (4 : Int32), iv v232, .unset, iv (4 : Int32), .unset, .unset, .unset, .unset, .unset, .unset, .unset, .unset, .unset] [(.int (128 : Int32)), (.int (v141 &&& (192 : Int32)))])) target
              refine XS.icmpNo Xg258.here hx rfl (hb hby at_296) rfl (teq c296).2 ?_
              refine XS.iload Xg258.here hx rfl (hb hby at_299) rfl ?_
              refine XS.iconst Xg258.here hx rfl (hb hby at_301) ?_
              refine XS.icmpNo Xg258.here hx rfl (hb hby at_302) rfl (flt (by decide : ¬ ((4 : Int32) < (4 : Int32)))).1 ?_
              refine XS.iload Xg258.here hx rfl (hb hby at_305) rfl ?_
              refine XS.sipush Xg258.here hx rfl (hb hby at_307) ?_
              refine XS.iand Xg258.here hx rfl (hb hby at_310) rfl ?_
              refine XS.sipush Xg258.here hx rfl (hb hby at_311) ?_
              exact kt
            by_cases c314 : (v148 &&& (192 : Int32)) = (128 : Int32)
            · refine own_st (B := Tg258.setTop (mkF m 322 #[iv p0, iv p1, iv p2, iv p3, iv p4, iv p5, iv v4, iv v14, iv v21, iv v26, rv b30, iv v92, iv v134, iv v141, iv v148, iv (4 : Int32), iv v232, .unset, iv (4 : Int32), .unset, .unset, .unset, .unset, .unset, .unset, .unset, .unset, .unset] [(.int (1 : Int32))])) (fun target kt => ?_) ?_
              · show Steps p.tables e below (Tg258.setTop (mkF m 314 #[iv p0, iv p1, iv p2, iv p3, iv p4, iv p5, iv v4, iv v14, iv v21, iv v26, rv b30, iv v92, iv v134, iv v141, iv v148, iv (4 : Int32), iv v232, .unset, iv (4 : Int32), .unset, .unset, .unset, .unset, .unset, .unset, .unset, .unset, .unset] [(.int (128 : Int32)), (.int (v148 &&& (192 : Int32)))])) target
                refine XS.icmpNo Xg258.here hx rfl (hb hby at_314) rfl (teq c314).2 ?_
                refine XS.iconst Xg258.here hx rfl (hb hby at_317) ?_
                refine XS.goto Xg258.here hx rfl (pc0 := 318) (pc' := 322) rfl (hb hby at_318) (by decide) (by decide) ?_
                exact kt
              exact ⟨_, ⟨(1 : Int32), rfl, (own_b1 ⟨c278, ⟨c296, c314⟩⟩).symm⟩, fun _ k => k⟩
            · refine own_st (B := Tg258.setTop (mkF m 322 #[iv p0, iv p1, iv p2, iv p3, iv p4, iv p5, iv v4, iv v14, iv v21, iv v26, rv b30, iv v92, iv v134, iv v141, iv v148, iv (4 : Int32), iv v232, .unset, iv (4 : Int32), .unset, .unset, .unset, .unset, .unset, .unset, .unset, .unset, .unset] [(.int (0 : Int32))])) (fun target kt => ?_) ?_
              · show Steps p.tables e below (Tg258.setTop (mkF m 314 #[iv p0, iv p1, iv p2, iv p3, iv p4, iv p5, iv v4, iv v14, iv v21, iv v26, rv b30, iv v92, iv v134, iv v141, iv v148, iv (4 : Int32), iv v232, .unset, iv (4 : Int32), .unset, .unset, .unset, .unset, .unset, .unset, .unset, .unset, .unset] [(.int (128 : Int32)), (.int (v148 &&& (192 : Int32)))])) target
                refine XS.icmpYes Xg258.here hx rfl (pc0 := 314) (pc' := 321) rfl (hb hby at_314) rfl (feq c314).2 (by decide) (by decide) ?_
                refine XS.iconst Xg258.here hx rfl (hb hby at_321) ?_
                exact kt
              exact ⟨_, ⟨(0 : Int32), rfl, (own_b0 (fun w => (fun w => c314 w.2) w.2)).symm⟩, fun _ k => k⟩
          · refine own_st (B := Tg258.setTop (mkF m 322 #[iv p0, iv p1, iv p2, iv p3, iv p4, iv p5, iv v4, iv v14, iv v21, iv v26, rv b30, iv v92, iv v134, iv v141, iv v148, iv (4 : Int32), iv v232, .unset, iv (4 : Int32), .unset, .unset, .unset, .unset, .unset, .unset, .unset, .unset, .unset] [(.int (0 : Int32))])) (fun target kt => ?_) ?_
            · show Steps p.tables e below (Tg258.setTop (mkF m 296 #[iv p0, iv p1, iv p2, iv p3, iv p4, iv p5, iv v4, iv v14, iv v21, iv v26, rv b30, iv v92, iv v134, iv v141, iv v148, iv (4 : Int32), iv v232, .unset, iv (4 : Int32), .unset, .unset, .unset, .unset, .unset, .unset, .unset, .unset, .unset] [(.int (128 : Int32)), (.int (v141 &&& (192 : Int32)))])) target
              refine XS.icmpYes Xg258.here hx rfl (pc0 := 296) (pc' := 321) rfl (hb hby at_296) rfl (feq c296).2 (by decide) (by decide) ?_
              refine XS.iconst Xg258.here hx rfl (hb hby at_321) ?_
              exact kt
            exact ⟨_, ⟨(0 : Int32), rfl, (own_b0 (fun w => (fun w => c296 w.1) w.2)).symm⟩, fun _ k => k⟩
        · refine own_st (B := Tg258.setTop (mkF m 322 #[iv p0, iv p1, iv p2, iv p3, iv p4, iv p5, iv v4, iv v14, iv v21, iv v26, rv b30, iv v92, iv v134, iv v141, iv v148, iv (4 : Int32), iv v232, .unset, iv (4 : Int32), .unset, .unset, .unset, .unset, .unset, .unset, .unset, .unset, .unset] [(.int (0 : Int32))])) (fun target kt => ?_) ?_
          · show Steps p.tables e below (Tg258.setTop (mkF m 278 #[iv p0, iv p1, iv p2, iv p3, iv p4, iv p5, iv v4, iv v14, iv v21, iv v26, rv b30, iv v92, iv v134, iv v141, iv v148, iv (4 : Int32), iv v232, .unset, iv (4 : Int32), .unset, .unset, .unset, .unset, .unset, .unset, .unset, .unset, .unset] [(.int (128 : Int32)), (.int (v134 &&& (192 : Int32)))])) target
            refine XS.icmpYes Xg258.here hx rfl (pc0 := 278) (pc' := 321) rfl (hb hby at_278) rfl (feq c278).2 (by decide) (by decide) ?_
            refine XS.iconst Xg258.here hx rfl (hb hby at_321) ?_
            exact kt
          exact ⟨_, ⟨(0 : Int32), rfl, (own_b0 (fun w => c278 w.1)).symm⟩, fun _ k => k⟩
      refine own_st st_M322 ?_
      obtain ⟨v329, hv329⟩ : ∃ z : Int32, z = (v134 &&& (63 : Int32)) := ⟨_, rfl⟩
      obtain ⟨v336, hv336⟩ : ∃ z : Int32, z = (v141 &&& (63 : Int32)) := ⟨_, rfl⟩
      obtain ⟨v343, hv343⟩ : ∃ z : Int32, z = (v148 &&& (63 : Int32)) := ⟨_, rfl⟩
      refine own_st (B := Tg258.setTop (mkF m 385 #[iv p0, iv p1, iv p2, iv p3, iv p4, iv p5, iv v4, iv v14, iv v21, iv v26, rv b30, iv v92, iv v134, iv v141, iv v148, iv (4 : Int32), iv v232, .unset, iv (4 : Int32), iv (own_b (((v134 &&& (192 : Int32)) = (128 : Int32)) ∧ ((((v141 &&& (192 : Int32)) = (128 : Int32)) ∧ ((v148 &&& (192 : Int32)) = (128 : Int32)))))), iv v329, iv v336, iv v343, .unset, .unset, .unset, .unset, .unset] [(.int v343), (.int v336), (.int v329), (.int v232), (.int (4 : Int32))])) (fun target kt => ?_) ?_
      · show Steps p.tables e below (Tg258.setTop (mkF m 322 #[iv p0, iv p1, iv p2, iv p3, iv p4, iv p5, iv v4, iv v14, iv v21, iv v26, rv b30, iv v92, iv v134, iv v141, iv v148, iv (4 : Int32), iv v232, .unset, iv (4 : Int32), .unset, .unset, .unset, .unset, .unset, .unset, .unset, .unset, .unset] [(.int (own_b (((v134 &&& (192 : Int32)) = (128 : Int32)) ∧ ((((v141 &&& (192 : Int32)) = (128 : Int32)) ∧ ((v148 &&& (192 : Int32)) = (128 : Int32)))))))])) target
        refine XS.istore Xg258.here hx rfl (hb hby at_322) rfl (l' := #[iv p0, iv p1, iv p2, iv p3, iv p4, iv p5, iv v4, iv v14, iv v21, iv v26, rv b30, iv v92, iv v134, iv v141, iv v148, iv (4 : Int32), iv v232, .unset, iv (4 : Int32), iv (own_b (((v134 &&& (192 : Int32)) = (128 : Int32)) ∧ ((((v141 &&& (192 : Int32)) = (128 : Int32)) ∧ ((v148 &&& (192 : Int32)) = (128 : Int32)))))), .unset, .unset, .unset, .unset, .unset, .unset, .unset, .unset]) rfl ?_
        refine XS.iload Xg258.here hx rfl (hb hby at_324) rfl ?_
        refine XS.bipush Xg258.here hx rfl (hb hby at_326) ?_
        refine XS.iand Xg258.here hx rfl (hb hby at_328) rfl ?_
        refine XS.istore Xg258.here hx rfl (hb hby at_329) rfl (l' := #[iv p0, iv p1, iv p2, iv p3, iv p4, iv p5, iv v4, iv v14, iv v21, iv v26, rv b30, iv v92, iv v134, iv v141, iv v148, iv (4 : Int32), iv v232, .unset, iv (4 : Int32), iv (own_b (((v134 &&& (192 : Int32)) = (128 : Int32)) ∧ ((((v141 &&& (192 : Int32)) = (128 : Int32)) ∧ ((v148 &&& (192 : Int32)) = (128 : Int32)))))), iv v329, .unset, .unset, .unset, .unset, .unset, .unset, .unset]) (by subst hv329; rfl) ?_
        refine XS.iload Xg258.here hx rfl (hb hby at_331) rfl ?_
        refine XS.bipush Xg258.here hx rfl (hb hby at_333) ?_
        refine XS.iand Xg258.here hx rfl (hb hby at_335) rfl ?_
        show Steps p.tables e below (Tg258.setTop (mkF m 336 #[iv p0, iv p1, iv p2, iv p3, iv p4, iv p5, iv v4, iv v14, iv v21, iv v26, rv b30, iv v92, iv v134, iv v141, iv v148, iv (4 : Int32), iv v232, .unset, iv (4 : Int32), iv (own_b (((v134 &&& (192 : Int32)) = (128 : Int32)) ∧ ((((v141 &&& (192 : Int32)) = (128 : Int32)) ∧ ((v148 &&& (192 : Int32)) = (128 : Int32)))))), iv v329, .unset, .unset, .unset, .unset, .unset, .unset, .unset] [(.int (v141 &&& (63 : Int32)))])) target
        refine XS.istore Xg258.here hx rfl (hb hby at_336) rfl (l' := #[iv p0, iv p1, iv p2, iv p3, iv p4, iv p5, iv v4, iv v14, iv v21, iv v26, rv b30, iv v92, iv v134, iv v141, iv v148, iv (4 : Int32), iv v232, .unset, iv (4 : Int32), iv (own_b (((v134 &&& (192 : Int32)) = (128 : Int32)) ∧ ((((v141 &&& (192 : Int32)) = (128 : Int32)) ∧ ((v148 &&& (192 : Int32)) = (128 : Int32)))))), iv v329, iv v336, .unset, .unset, .unset, .unset, .unset, .unset]) (by subst hv336; rfl) ?_
        refine XS.iload Xg258.here hx rfl (hb hby at_338) rfl ?_
        refine XS.bipush Xg258.here hx rfl (hb hby at_340) ?_
        refine XS.iand Xg258.here hx rfl (hb hby at_342) rfl ?_
        refine XS.istore Xg258.here hx rfl (hb hby at_343) rfl (l' := #[iv p0, iv p1, iv p2, iv p3, iv p4, iv p5, iv v4, iv v14, iv v21, iv v26, rv b30, iv v92, iv v134, iv v141, iv v148, iv (4 : Int32), iv v232, .unset, iv (4 : Int32), iv (own_b (((v134 &&& (192 : Int32)) = (128 : Int32)) ∧ ((((v141 &&& (192 : Int32)) = (128 : Int32)) ∧ ((v148 &&& (192 : Int32)) = (128 : Int32)))))), iv v329, iv v336, iv v343, .unset, .unset, .unset, .unset, .unset]) (by subst hv343; rfl) ?_
        refine XS.iload Xg258.here hx rfl (hb hby at_345) rfl ?_
        refine XS.iload Xg258.here hx rfl (hb hby at_347) rfl ?_
        refine XS.iload Xg258.here hx rfl (hb hby at_349) rfl ?_
        show Steps p.tables e below (Tg258.setTop (mkF m 351 #[iv p0, iv p1, iv p2, iv p3, iv p4, iv p5, iv v4, iv v14, iv v21, iv v26, rv b30, iv v92, iv v134, iv v141, iv v148, iv (4 : Int32), iv v232, .unset, iv (4 : Int32), iv (own_b (((v134 &&& (192 : Int32)) = (128 : Int32)) ∧ ((((v141 &&& (192 : Int32)) = (128 : Int32)) ∧ ((v148 &&& (192 : Int32)) = (128 : Int32)))))), iv v329, iv v336, iv v343, .unset, .unset, .unset, .unset, .unset] [(.int (4 : Int32)), (.int v232), (.int (4 : Int32))])) target
        refine XS.iconst Xg258.here hx rfl (hb hby at_351) ?_
        refine XS.icmpNo Xg258.here hx rfl (hb hby at_352) rfl (flt (by decide : ¬ ((4 : Int32) < (2 : Int32)))).1 ?_
        refine XS.iload Xg258.here hx rfl (hb hby at_355) rfl ?_
        refine XS.goto Xg258.here hx rfl (pc0 := 357) (pc' := 361) rfl (hb hby at_357) (by decide) (by decide) ?_
        refine XS.iload Xg258.here hx rfl (hb hby at_361) rfl ?_
        refine XS.iconst Xg258.here hx rfl (hb hby at_363) ?_
        refine XS.icmpNo Xg258.here hx rfl (hb hby at_364) rfl (flt (by decide : ¬ ((4 : Int32) < (3 : Int32)))).1 ?_
        refine XS.iload Xg258.here hx rfl (hb hby at_367) rfl ?_
        show Steps p.tables e below (Tg258.setTop (mkF m 369 #[iv p0, iv p1, iv p2, iv p3, iv p4, iv p5, iv v4, iv v14, iv v21, iv v26, rv b30, iv v92, iv v134, iv v141, iv v148, iv (4 : Int32), iv v232, .unset, iv (4 : Int32), iv (own_b (((v134 &&& (192 : Int32)) = (128 : Int32)) ∧ ((((v141 &&& (192 : Int32)) = (128 : Int32)) ∧ ((v148 &&& (192 : Int32)) = (128 : Int32)))))), iv v329, iv v336, iv v343, .unset, .unset, .unset, .unset, .unset] [(.int v336), (.int v329), (.int v232), (.int (4 : Int32))])) target
        refine XS.goto Xg258.here hx rfl (pc0 := 369) (pc' := 373) rfl (hb hby at_369) (by decide) (by decide) ?_
        refine XS.iload Xg258.here hx rfl (hb hby at_373) rfl ?_
        refine XS.iconst Xg258.here hx rfl (hb hby at_375) ?_
        refine XS.icmpNo Xg258.here hx rfl (hb hby at_376) rfl (flt (by decide : ¬ ((4 : Int32) < (4 : Int32)))).1 ?_
        refine XS.iload Xg258.here hx rfl (hb hby at_379) rfl ?_
        refine XS.goto Xg258.here hx rfl (pc0 := 381) (pc' := 385) rfl (hb hby at_381) (by decide) (by decide) ?_
        exact kt
      obtain ⟨_, _, ⟨Tg385, Lg385, kg385, ng385⟩, -, Xg385, ⟨Lcg385, hQg385, lg385, yg385, zg385⟩, stg385⟩ := Jvm.LawKit.callS Xg258 hx (y := (⟨"com/example/psyche/psyche/XmlCharsSequenceLengthPinLaw", "compose", "(IIIII)I"⟩ : MethodName)) hown (mvT hZ (hw _ (List.mem_of_getElem? (i := 9) rfl))) (mvT hZ (hw _ (List.mem_of_getElem? (i := 10) rfl))) (mvT hZ (hw _ (List.mem_of_getElem? (i := 11) rfl))) (mvT hZ (hw _ (List.mem_of_getElem? (i := 12) rfl))) (by decide) (backOf (W := 0) (own_rm3 l Z a0 hw [] (4 : Int32) v232 v329 v336 v343 hg128 n0 Zz_12) hZ (hw _ (List.mem_of_getElem? (i := 12) rfl)) (hw _ (List.mem_of_getElem? (i := 11) rfl)) (by decide) (by decide)) (g := (mkF m 385 #[iv p0, iv p1, iv p2, iv p3, iv p4, iv p5, iv v4, iv v14, iv v21, iv v26, rv b30, iv v92, iv v134, iv v141, iv v148, iv (4 : Int32), iv v232, .unset, iv (4 : Int32), iv (own_b (((v134 &&& (192 : Int32)) = (128 : Int32)) ∧ ((((v141 &&& (192 : Int32)) = (128 : Int32)) ∧ ((v148 &&& (192 : Int32)) = (128 : Int32)))))), iv v329, iv v336, iv v343, .unset, .unset, .unset, .unset, .unset] [(.int v343), (.int v336), (.int v329), (.int v232), (.int (4 : Int32))])) rfl (by rw [hml]; rfl) (argsL := [(.int (4 : Int32)), (.int v232), (.int v329), (.int v336), (.int v343)]) (rest := []) (lenOf own_pd2 rfl) rfl (by show 2 * 0 + _ ≤ _; exact Nat.le_of_eq rfl) (hb hby at_385) (fun _ _ => ⟨rfl, eg258, (by decide : 1 + 0 ≤ _), (by decide : 8 + 0 ≤ _)⟩)
      dsimp only [Pt.U, Pt.locs, Pt.cells, Pt.slots] at Xg385 lg385 yg385 zg385 stg385 hQg385
      subst lg385 yg385 zg385
      obtain ⟨rfl, Ng385q, eg385⟩ := hQg385
      have Ng385 := Fr.app Ng258 Ng385q
      refine own_st (stg385) ?_
      obtain ⟨v388, hv388⟩ : ∃ z : Int32, z = (if (4 : Int32) = (2 : Int32) then ((v232 <<< ((6 : Int32) &&& 31)) ||| v329) else (if (4 : Int32) = (3 : Int32) then (((v232 <<< ((12 : Int32) &&& 31)) ||| (v329 <<< ((6 : Int32) &&& 31))) ||| v336) else ((((v232 <<< ((18 : Int32) &&& 31)) ||| (v329 <<< ((12 : Int32) &&& 31))) ||| (v336 <<< ((6 : Int32) &&& 31))) ||| v343))) := ⟨_, rfl⟩
      refine own_st (B := Tg385.setTop (mkF m 433 #[iv p0, iv p1, iv p2, iv p3, iv p4, iv p5, iv v4, iv v14, iv v21, iv v26, rv b30, iv v92, iv v134, iv v141, iv v148, iv (4 : Int32), iv v232, .unset, iv (4 : Int32), iv (own_b (((v134 &&& (192 : Int32)) = (128 : Int32)) ∧ ((((v141 &&& (192 : Int32)) = (128 : Int32)) ∧ ((v148 &&& (192 : Int32)) = (128 : Int32)))))), iv v329, iv v336, iv v343, iv v388, .unset, .unset, .unset, .unset] [(.int v343), (.int v336), (.int v329), (.int v232), (.int (4 : Int32))])) (fun target kt => ?_) ?_
      · show Steps p.tables e below (Tg385.setTop (mkF m 388 #[iv p0, iv p1, iv p2, iv p3, iv p4, iv p5, iv v4, iv v14, iv v21, iv v26, rv b30, iv v92, iv v134, iv v141, iv v148, iv (4 : Int32), iv v232, .unset, iv (4 : Int32), iv (own_b (((v134 &&& (192 : Int32)) = (128 : Int32)) ∧ ((((v141 &&& (192 : Int32)) = (128 : Int32)) ∧ ((v148 &&& (192 : Int32)) = (128 : Int32)))))), iv v329, iv v336, iv v343, .unset, .unset, .unset, .unset, .unset] [(.int (if (4 : Int32) = (2 : Int32) then ((v232 <<< ((6 : Int32) &&& 31)) ||| v329) else (if (4 : Int32) = (3 : Int32) then (((v232 <<< ((12 : Int32) &&& 31)) ||| (v329 <<< ((6 : Int32) &&& 31))) ||| v336) else ((((v232 <<< ((18 : Int32) &&& 31)) ||| (v329 <<< ((12 : Int32) &&& 31))) ||| (v336 <<< ((6 : Int32) &&& 31))) ||| v343))))])) target
        refine XS.istore Xg385.here hx rfl (hb hby at_388) rfl (l' := #[iv p0, iv p1, iv p2, iv p3, iv p4, iv p5, iv v4, iv v14, iv v21, iv v26, rv b30, iv v92, iv v134, iv v141, iv v148, iv (4 : Int32), iv v232, .unset, iv (4 : Int32), iv (own_b (((v134 &&& (192 : Int32)) = (128 : Int32)) ∧ ((((v141 &&& (192 : Int32)) = (128 : Int32)) ∧ ((v148 &&& (192 : Int32)) = (128 : Int32)))))), iv v329, iv v336, iv v343, iv v388, .unset, .unset, .unset, .unset]) (by subst hv388; rfl) ?_
        refine XS.iload Xg385.here hx rfl (hb hby at_390) rfl ?_
        refine XS.iload Xg385.here hx rfl (hb hby at_392) rfl ?_
        refine XS.iload Xg385.here hx rfl (hb hby at_394) rfl ?_
        refine XS.iconst Xg385.here hx rfl (hb hby at_396) ?_
        refine XS.icmpNo Xg385.here hx rfl (hb hby at_397) rfl (flt (by decide : ¬ ((4 : Int32) < (2 : Int32)))).1 ?_
        refine XS.iload Xg385.here hx rfl (hb hby at_400) rfl ?_
        refine XS.goto Xg385.here hx rfl (pc0 := 402) (pc' := 407) rfl (hb hby at_402) (by decide) (by decide) ?_
        show Steps p.tables e below (Tg385.setTop (mkF m 407 #[iv p0, iv p1, iv p2, iv p3, iv p4, iv p5, iv v4, iv v14, iv v21, iv v26, rv b30, iv v92, iv v134, iv v141, iv v148, iv (4 : Int32), iv v232, .unset, iv (4 : Int32), iv (own_b (((v134 &&& (192 : Int32)) = (128 : Int32)) ∧ ((((v141 &&& (192 : Int32)) = (128 : Int32)) ∧ ((v148 &&& (192 : Int32)) = (128 : Int32)))))), iv v329, iv v336, iv v343, iv v388, .unset, .unset, .unset, .unset] [(.int v329), (.int v232), (.int (4 : Int32))])) target
        refine XS.iload Xg385.here hx rfl (hb hby at_407) rfl ?_
        refine XS.iconst Xg385.here hx rfl (hb hby at_409) ?_
        refine XS.icmpNo Xg385.here hx rfl (hb hby at_410) rfl (flt (by decide : ¬ ((4 : Int32) < (3 : Int32)))).1 ?_
        refine XS.iload Xg385.here hx rfl (hb hby at_413) rfl ?_
        refine XS.goto Xg385.here hx rfl (pc0 := 415) (pc' := 420) rfl (hb hby at_415) (by decide) (by decide) ?_
        refine XS.iload Xg385.here hx rfl (hb hby at_420) rfl ?_
        refine XS.iconst Xg385.here hx rfl (hb hby at_422) ?_
        refine XS.icmpNo Xg385.here hx rfl (hb hby at_423) rfl (flt (by decide : ¬ ((4 : Int32) < (4 : Int32)))).1 ?_
        show Steps p.tables e below (Tg385.setTop (mkF m 426 #[iv p0, iv p1, iv p2, iv p3, iv p4, iv p5, iv v4, iv v14, iv v21, iv v26, rv b30, iv v92, iv v134, iv v141, iv v148, iv (4 : Int32), iv v232, .unset, iv (4 : Int32), iv (own_b (((v134 &&& (192 : Int32)) = (128 : Int32)) ∧ ((((v141 &&& (192 : Int32)) = (128 : Int32)) ∧ ((v148 &&& (192 : Int32)) = (128 : Int32)))))), iv v329, iv v336, iv v343, iv v388, .unset, .unset, .unset, .unset] [(.int v336), (.int v329), (.int v232), (.int (4 : Int32))])) target
        refine XS.iload Xg385.here hx rfl (hb hby at_426) rfl ?_
        refine XS.goto Xg385.here hx rfl (pc0 := 428) (pc' := 433) rfl (hb hby at_428) (by decide) (by decide) ?_
        exact kt
      obtain ⟨_, _, ⟨Tg433, Lg433, kg433, ng433⟩, -, Xg433, ⟨Lcg433, hQg433, lg433, yg433, zg433⟩, stg433⟩ := Jvm.LawKit.callS Xg385 hx (y := (⟨"com/example/psyche/psyche/XmlCharsSequenceLengthPinLaw", "compose", "(IIIII)I"⟩ : MethodName)) hown (mvT hZ (hw _ (List.mem_of_getElem? (i := 9) rfl))) (mvT hZ (hw _ (List.mem_of_getElem? (i := 10) rfl))) (mvT hZ (hw _ (List.mem_of_getElem? (i := 11) rfl))) (mvT hZ (hw _ (List.mem_of_getElem? (i := 12) rfl))) (by decide) (backOf (W := 0) (own_rm3 l Z a0 hw [] (4 : Int32) v232 v329 v336 v343 hg128 n0 Zz_12) hZ (hw _ (List.mem_of_getElem? (i := 12) rfl)) (hw _ (List.mem_of_getElem? (i := 11) rfl)) (by decide) (by decide)) (g := (mkF m 433 #[iv p0, iv p1, iv p2, iv p3, iv p4, iv p5, iv v4, iv v14, iv v21, iv v26, rv b30, iv v92, iv v134, iv v141, iv v148, iv (4 : Int32), iv v232, .unset, iv (4 : Int32), iv (own_b (((v134 &&& (192 : Int32)) = (128 : Int32)) ∧ ((((v141 &&& (192 : Int32)) = (128 : Int32)) ∧ ((v148 &&& (192 : Int32)) = (128 : Int32)))))), iv v329, iv v336, iv v343, iv v388, .unset, .unset, .unset, .unset] [(.int v343), (.int v336), (.int v329), (.int v232), (.int (4 : Int32))])) rfl (by rw [hml]; rfl) (argsL := [(.int (4 : Int32)), (.int v232), (.int v329), (.int v336), (.int v343)]) (rest := []) (lenOf own_pd2 rfl) rfl (by show 2 * 0 + _ ≤ _; exact Nat.le_of_eq rfl) (hb hby at_433) (fun _ _ => ⟨rfl, eg385, (by decide : 1 + 0 ≤ _), (by decide : 8 + 0 ≤ _)⟩)
      dsimp only [Pt.U, Pt.locs, Pt.cells, Pt.slots] at Xg433 lg433 yg433 zg433 stg433 hQg433
      subst lg433 yg433 zg433
      obtain ⟨rfl, Ng433q, eg433⟩ := hQg433
      have Ng433 := Fr.app Ng385 Ng433q
      refine own_st (stg433) ?_
      obtain ⟨v436, hv436⟩ : ∃ z : Int32, z = (if (4 : Int32) = (2 : Int32) then ((v232 <<< ((6 : Int32) &&& 31)) ||| v329) else (if (4 : Int32) = (3 : Int32) then (((v232 <<< ((12 : Int32) &&& 31)) ||| (v329 <<< ((6 : Int32) &&& 31))) ||| v336) else ((((v232 <<< ((18 : Int32) &&& 31)) ||| (v329 <<< ((12 : Int32) &&& 31))) ||| (v336 <<< ((6 : Int32) &&& 31))) ||| v343))) := ⟨_, rfl⟩
      refine own_st (B := Tg433.setTop (mkF m 487 #[iv p0, iv p1, iv p2, iv p3, iv p4, iv p5, iv v4, iv v14, iv v21, iv v26, rv b30, iv v92, iv v134, iv v141, iv v148, iv (4 : Int32), iv v232, .unset, iv (4 : Int32), iv (own_b (((v134 &&& (192 : Int32)) = (128 : Int32)) ∧ ((((v141 &&& (192 : Int32)) = (128 : Int32)) ∧ ((v148 &&& (192 : Int32)) = (128 : Int32)))))), iv v329, iv v336, iv v343, iv v388, iv v436, iv (65536 : Int32), iv (1114111 : Int32), .unset] [(.int (65536 : Int32)), (.int v436)])) (fun target kt => ?_) ?_
      · show Steps p.tables e below (Tg433.setTop (mkF m 436 #[iv p0, iv p1, iv p2, iv p3, iv p4, iv p5, iv v4, iv v14, iv v21, iv v26, rv b30, iv v92, iv v134, iv v141, iv v148, iv (4 : Int32), iv v232, .unset, iv (4 : Int32), iv (own_b (((v134 &&& (192 : Int32)) = (128 : Int32)) ∧ ((((v141 &&& (192 : Int32)) = (128 : Int32)) ∧ ((v148 &&& (192 : Int32)) = (128 : Int32)))))), iv v329, iv v336, iv v343, iv v388, .unset, .unset, .unset, .unset] [(.int (if (4 : Int32) = (2 : Int32) then ((v232 <<< ((6 : Int32) &&& 31)) ||| v329) else (if (4 : Int32) = (3 : Int32) then (((v232 <<< ((12 : Int32) &&& 31)) ||| (v329 <<< ((6 : Int32) &&& 31))) ||| v336) else ((((v232 <<< ((18 : Int32) &&& 31)) ||| (v329 <<< ((12 : Int32) &&& 31))) ||| (v336 <<< ((6 : Int32) &&& 31))) ||| v343))))])) target
        refine XS.istore Xg433.here hx rfl (hb hby at_436) rfl (l' := #[iv p0, iv p1, iv p2, iv p3, iv p4, iv p5, iv v4, iv v14, iv v21, iv v26, rv b30, iv v92, iv v134, iv v141, iv v148, iv (4 : Int32), iv v232, .unset, iv (4 : Int32), iv (own_b (((v134 &&& (192 : Int32)) = (128 : Int32)) ∧ ((((v141 &&& (192 : Int32)) = (128 : Int32)) ∧ ((v148 &&& (192 : Int32)) = (128 : Int32)))))), iv v329, iv v336, iv v343, iv v388, iv v436, .unset, .unset, .unset]) (by subst hv436; rfl) ?_
        refine XS.iload Xg433.here hx rfl (hb hby at_438) rfl ?_
        refine XS.iconst Xg433.here hx rfl (hb hby at_440) ?_
        refine XS.icmpYes Xg433.here hx rfl (pc0 := 441) (pc' := 457) rfl (hb hby at_441) rfl (feq (by decide : ¬ ((4 : Int32) = (2 : Int32)))).2 (by decide) (by decide) ?_
        refine XS.iload Xg433.here hx rfl (hb hby at_457) rfl ?_
        refine XS.iconst Xg433.here hx rfl (hb hby at_459) ?_
        refine XS.icmpYes Xg433.here hx rfl (pc0 := 460) (pc' := 475) rfl (hb hby at_460) rfl (feq (by decide : ¬ ((4 : Int32) = (3 : Int32)))).2 (by decide) (by decide) ?_
        refine Xg433.ldcInt hx hown (mvT hZ (hw _ (List.mem_of_getElem? (i := 15) rfl))) (g := (mkF m 475 #[iv p0, iv p1, iv p2, iv p3, iv p4, iv p5, iv v4, iv v14, iv v21, iv v26, rv b30, iv v92, iv v134, iv v141, iv v148, iv (4 : Int32), iv v232, .unset, iv (4 : Int32), iv (own_b (((v134 &&& (192 : Int32)) = (128 : Int32)) ∧ ((((v141 &&& (192 : Int32)) = (128 : Int32)) ∧ ((v148 &&& (192 : Int32)) = (128 : Int32)))))), iv v329, iv v336, iv v343, iv v388, iv v436, .unset, .unset, .unset] [])) rfl (hb hby at_475) _ ?_
        show Steps p.tables e below (Tg433.setTop (mkF m 477 #[iv p0, iv p1, iv p2, iv p3, iv p4, iv p5, iv v4, iv v14, iv v21, iv v26, rv b30, iv v92, iv v134, iv v141, iv v148, iv (4 : Int32), iv v232, .unset, iv (4 : Int32), iv (own_b (((v134 &&& (192 : Int32)) = (128 : Int32)) ∧ ((((v141 &&& (192 : Int32)) = (128 : Int32)) ∧ ((v148 &&& (192 : Int32)) = (128 : Int32)))))), iv v329, iv v336, iv v343, iv v388, iv v436, .unset, .unset, .unset] [(.int (65536 : Int32))])) target
        refine XS.istore Xg433.here hx rfl (hb hby at_477) rfl (l' := #[iv p0, iv p1, iv p2, iv p3, iv p4, iv p5, iv v4, iv v14, iv v21, iv v26, rv b30, iv v92, iv v134, iv v141, iv v148, iv (4 : Int32), iv v232, .unset, iv (4 : Int32), iv (own_b (((v134 &&& (192 : Int32)) = (128 : Int32)) ∧ ((((v141 &&& (192 : Int32)) = (128 : Int32)) ∧ ((v148 &&& (192 : Int32)) = (128 : Int32)))))), iv v329, iv v336, iv v343, iv v388, iv v436, iv (65536 : Int32), .unset, .unset]) rfl ?_
        refine Xg433.ldcInt hx hown (mvT hZ (hw _ (List.mem_of_getElem? (i := 16) rfl))) (g := (mkF m 479 #[iv p0, iv p1, iv p2, iv p3, iv p4, iv p5, iv v4, iv v14, iv v21, iv v26, rv b30, iv v92, iv v134, iv v141, iv v148, iv (4 : Int32), iv v232, .unset, iv (4 : Int32), iv (own_b (((v134 &&& (192 : Int32)) = (128 : Int32)) ∧ ((((v141 &&& (192 : Int32)) = (128 : Int32)) ∧ ((v148 &&& (192 : Int32)) = (128 : Int32)))))), iv v329, iv v336, iv v343, iv v388, iv v436, iv (65536 : Int32), .unset, .unset] [])) rfl (hb hby at_479) _ ?_
        refine XS.istore Xg433.here hx rfl (hb hby at_481) rfl (l' := #[iv p0, iv p1, iv p2, iv p3, iv p4, iv p5, iv v4, iv v14, iv v21, iv v26, rv b30, iv v92, iv v134, iv v141, iv v148, iv (4 : Int32), iv v232, .unset, iv (4 : Int32), iv (own_b (((v134 &&& (192 : Int32)) = (128 : Int32)) ∧ ((((v141 &&& (192 : Int32)) = (128 : Int32)) ∧ ((v148 &&& (192 : Int32)) = (128 : Int32)))))), iv v329, iv v336, iv v343, iv v388, iv v436, iv (65536 : Int32), iv (1114111 : Int32), .unset]) rfl ?_
        refine XS.iload Xg433.here hx rfl (hb hby at_483) rfl ?_
        refine XS.iload Xg433.here hx rfl (hb hby at_485) rfl ?_
        exact kt
      obtain ⟨_, ⟨j522_s0, rfl, rfl⟩, st_M522⟩ : own_Lead p.tables e below (Tg433.setTop (mkF m 487 #[iv p0, iv p1, iv p2, iv p3, iv p4, iv p5, iv v4, iv v14, iv v21, iv v26, rv b30, iv v92, iv v134, iv v141, iv v148, iv (4 : Int32), iv v232, .unset, iv (4 : Int32), iv (own_b (((v134 &&& (192 : Int32)) = (128 : Int32)) ∧ ((((v141 &&& (192 : Int32)) = (128 : Int32)) ∧ ((v148 &&& (192 : Int32)) = (128 : Int32)))))), iv v329, iv v336, iv v343, iv v388, iv v436, iv (65536 : Int32), iv (1114111 : Int32), .unset] [(.int (65536 : Int32)), (.int v436)])) (fun B => ∃ (j522_s0 : Int32), B = Tg433.setTop (mkF m 522 #[iv p0, iv p1, iv p2, iv p3, iv p4, iv p5, iv v4, iv v14, iv v21, iv v26, rv b30, iv v92, iv v134, iv v141, iv v148, iv (4 : Int32), iv v232, .unset, iv (4 : Int32), iv (own_b (((v134 &&& (192 : Int32)) = (128 : Int32)) ∧ ((((v141 &&& (192 : Int32)) = (128 : Int32)) ∧ ((v148 &&& (192 : Int32)) = (128 : Int32)))))), iv v329, iv v336, iv v343, iv v388, iv v436, iv (65536 : Int32), iv (1114111 : Int32), .unset] [(.int j522_s0)]) ∧ j522_s0 = own_b ((¬ (v436 < (65536 : Int32)) ∧ (¬ ((1114111 : Int32) < v388))))) := by
        by_cases c487 : v436 < (65536 : Int32)
        · refine own_st (B := Tg433.setTop (mkF m 522 #[iv p0, iv p1, iv p2, iv p3, iv p4, iv p5, iv v4, iv v14, iv v21, iv v26, rv b30, iv v92, iv v134, iv v141, iv v148, iv (4 : Int32), iv v232, .unset, iv (4 : Int32), iv (own_b (((v134 &&& (192 : Int32)) = (128 : Int32)) ∧ ((((v141 &&& (192 : Int32)) = (128 : Int32)) ∧ ((v148 &&& (192 : Int32)) = (128 : Int32)))))), iv v329, iv v336, iv v343, iv v388, iv v436, iv (65536 : Int32), iv (1114111 : Int32), .unset] [(.int (0 : Int32))])) (fun target kt => ?_) ?_
          · show Steps p.tables e below (Tg433.setTop (mkF m 487 #[iv p0, iv p1, iv p2, iv p3, iv p4, iv p5, iv v4, iv v14, iv v21, iv v26, rv b30, iv v92, iv v134, iv v141, iv v148, iv (4 : Int32), iv v232, .unset, iv (4 : Int32), iv (own_b (((v134 &&& (192 : Int32)) = (128 : Int32)) ∧ ((((v141 &&& (192 : Int32)) = (128 : Int32)) ∧ ((v148 &&& (192 : Int32)) = (128 : Int32)))))), iv v329, iv v336, iv v343, iv v388, iv v436, iv (65536 : Int32), iv (1114111 : Int32), .unset] [(.int (65536 : Int32)), (.int v436)])) target
            refine XS.icmpYes Xg433.here hx rfl (pc0 := 487) (pc' := 521) rfl (hb hby at_487) rfl (tlt c487).1 (by decide) (by decide) ?_
            refine XS.iconst Xg433.here hx rfl (hb hby at_521) ?_
            exact kt
          exact ⟨_, ⟨(0 : Int32), rfl, (own_b0 (fun w => w.1 c487)).symm⟩, fun _ k => k⟩
        · refine own_st (B := Tg433.setTop (mkF m 494 #[iv p0, iv p1, iv p2, iv p3, iv p4, iv p5, iv v4, iv v14, iv v21, iv v26, rv b30, iv v92, iv v134, iv v141, iv v148, iv (4 : Int32), iv v232, .unset, iv (4 : Int32), iv (own_b (((v134 &&& (192 : Int32)) = (128 : Int32)) ∧ ((((v141 &&& (192 : Int32)) = (128 : Int32)) ∧ ((v148 &&& (192 : Int32)) = (128 : Int32)))))), iv v329, iv v336, iv v343, iv v388, iv v436, iv (65536 : Int32), iv (1114111 : Int32), .unset] [(.int (1114111 : Int32)), (.int v388)])) (fun target kt => ?_) ?_
          · show Steps p.tables e below (Tg433.setTop (mkF m 487 #[iv p0, iv p1, iv p2, iv p3, iv p4, iv p5, iv v4, iv v14, iv v21, iv v26, rv b30, iv v92, iv v134, iv v141, iv v148, iv (4 : Int32), iv v232, .unset, iv (4 : Int32), iv (own_b (((v134 &&& (192 : Int32)) = (128 : Int32)) ∧ ((((v141 &&& (192 : Int32)) = (128 : Int32)) ∧ ((v148 &&& (192 : Int32)) = (128 : Int32)))))), iv v329, iv v336, iv v343, iv v388, iv v436, iv (65536 : Int32), iv (1114111 : Int32), .unset] [(.int (65536 : Int32)), (.int v436)])) target
            refine XS.icmpNo Xg433.here hx rfl (hb hby at_487) rfl (flt c487).1 ?_
            refine XS.iload Xg433.here hx rfl (hb hby at_490) rfl ?_
            refine XS.iload Xg433.here hx rfl (hb hby at_492) rfl ?_
            exact kt
          by_cases c494 : (1114111 : Int32) < v388
          · refine own_st (B := Tg433.setTop (mkF m 522 #[iv p0, iv p1, iv p2, iv p3, iv p4, iv p5, iv v4, iv v14, iv v21, iv v26, rv b30, iv v92, iv v134, iv v141, iv v148, iv (4 : Int32), iv v232, .unset, iv (4 : Int32), iv (own_b (((v134 &&& (192 : Int32)) = (128 : Int32)) ∧ ((((v141 &&& (192 : Int32)) = (128 : Int32)) ∧ ((v148 &&& (192 : Int32)) = (128 : Int32)))))), iv v329, iv v336, iv v343, iv v388, iv v436, iv (65536 : Int32), iv (1114111 : Int32), .unset] [(.int (0 : Int32))])) (fun target kt => ?_) ?_
            · show Steps p.tables e below (Tg433.setTop (mkF m 494 #[iv p0, iv p1, iv p2, iv p3, iv p4, iv p5, iv v4, iv v14, iv v21, iv v26, rv b30, iv v92, iv v134, iv v141, iv v148, iv (4 : Int32), iv v232, .unset, iv (4 : Int32), iv (own_b (((v134 &&& (192 : Int32)) = (128 : Int32)) ∧ ((((v141 &&& (192 : Int32)) = (128 : Int32)) ∧ ((v148 &&& (192 : Int32)) = (128 : Int32)))))), iv v329, iv v336, iv v343, iv v388, iv v436, iv (65536 : Int32), iv (1114111 : Int32), .unset] [(.int (1114111 : Int32)), (.int v388)])) target
              refine XS.icmpYes Xg433.here hx rfl (pc0 := 494) (pc' := 521) rfl (hb hby at_494) rfl (tlt c494).2.2.1 (by decide) (by decide) ?_
              refine XS.iconst Xg433.here hx rfl (hb hby at_521) ?_
              exact kt
            exact ⟨_, ⟨(0 : Int32), rfl, (own_b0 (fun w => (fun w => w c494) w.2)).symm⟩, fun _ k => k⟩
          · refine own_st (B := Tg433.setTop (mkF m 522 #[iv p0, iv p1, iv p2, iv p3, iv p4, iv p5, iv v4, iv v14, iv v21, iv v26, rv b30, iv v92, iv v134, iv v141, iv v148, iv (4 : Int32), iv v232, .unset, iv (4 : Int32), iv (own_b (((v134 &&& (192 : Int32)) = (128 : Int32)) ∧ ((((v141 &&& (192 : Int32)) = (128 : Int32)) ∧ ((v148 &&& (192 : Int32)) = (128 : Int32)))))), iv v329, iv v336, iv v343, iv v388, iv v436, iv (65536 : Int32), iv (1114111 : Int32), .unset] [(.int (1 : Int32))])) (fun target kt => ?_) ?_
            · show Steps p.tables e below (Tg433.setTop (mkF m 494 #[iv p0, iv p1, iv p2, iv p3, iv p4, iv p5, iv v4, iv v14, iv v21, iv v26, rv b30, iv v92, iv v134, iv v141, iv v148, iv (4 : Int32), iv v232, .unset, iv (4 : Int32), iv (own_b (((v134 &&& (192 : Int32)) = (128 : Int32)) ∧ ((((v141 &&& (192 : Int32)) = (128 : Int32)) ∧ ((v148 &&& (192 : Int32)) = (128 : Int32)))))), iv v329, iv v336, iv v343, iv v388, iv v436, iv (65536 : Int32), iv (1114111 : Int32), .unset] [(.int (1114111 : Int32)), (.int v388)])) target
              refine XS.icmpNo Xg433.here hx rfl (hb hby at_494) rfl (flt c494).2.2.1 ?_
              refine XS.iload Xg433.here hx rfl (hb hby at_497) rfl ?_
              refine XS.iconst Xg433.here hx rfl (hb hby at_499) ?_
              refine XS.icmpYes Xg433.here hx rfl (pc0 := 500) (pc' := 517) rfl (hb hby at_500) rfl (feq (by decide : ¬ ((4 : Int32) = (3 : Int32)))).2 (by decide) (by decide) ?_
              refine XS.iconst Xg433.here hx rfl (hb hby at_517) ?_
              refine XS.goto Xg433.here hx rfl (pc0 := 518) (pc' := 522) rfl (hb hby at_518) (by decide) (by decide) ?_
              exact kt
            exact ⟨_, ⟨(1 : Int32), rfl, (own_b1 ⟨c487, c494⟩).symm⟩, fun _ k => k⟩
      refine own_st st_M522 ?_
      refine own_st (B := Tg433.setTop (mkF m 526 #[iv p0, iv p1, iv p2, iv p3, iv p4, iv p5, iv v4, iv v14, iv v21, iv v26, rv b30, iv v92, iv v134, iv v141, iv v148, iv (4 : Int32), iv v232, .unset, iv (4 : Int32), iv (own_b (((v134 &&& (192 : Int32)) = (128 : Int32)) ∧ ((((v141 &&& (192 : Int32)) = (128 : Int32)) ∧ ((v148 &&& (192 : Int32)) = (128 : Int32)))))), iv v329, iv v336, iv v343, iv v388, iv v436, iv (65536 : Int32), iv (1114111 : Int32), iv (own_b (¬ (v436 < (65536 : Int32)) ∧ (¬ ((1114111 : Int32) < v388))))] [(.int (own_b (((v134 &&& (192 : Int32)) = (128 : Int32)) ∧ ((((v141 &&& (192 : Int32)) = (128 : Int32)) ∧ ((v148 &&& (192 : Int32)) = (128 : Int32)))))))])) (fun target kt => ?_) ?_
      · show Steps p.tables e below (Tg433.setTop (mkF m 522 #[iv p0, iv p1, iv p2, iv p3, iv p4, iv p5, iv v4, iv v14, iv v21, iv v26, rv b30, iv v92, iv v134, iv v141, iv v148, iv (4 : Int32), iv v232, .unset, iv (4 : Int32), iv (own_b (((v134 &&& (192 : Int32)) = (128 : Int32)) ∧ ((((v141 &&& (192 : Int32)) = (128 : Int32)) ∧ ((v148 &&& (192 : Int32)) = (128 : Int32)))))), iv v329, iv v336, iv v343, iv v388, iv v436, iv (65536 : Int32), iv (1114111 : Int32), .unset] [(.int (own_b (¬ (v436 < (65536 : Int32)) ∧ (¬ ((1114111 : Int32) < v388)))))])) target
        refine XS.istore Xg433.here hx rfl (hb hby at_522) rfl (l' := #[iv p0, iv p1, iv p2, iv p3, iv p4, iv p5, iv v4, iv v14, iv v21, iv v26, rv b30, iv v92, iv v134, iv v141, iv v148, iv (4 : Int32), iv v232, .unset, iv (4 : Int32), iv (own_b (((v134 &&& (192 : Int32)) = (128 : Int32)) ∧ ((((v141 &&& (192 : Int32)) = (128 : Int32)) ∧ ((v148 &&& (192 : Int32)) = (128 : Int32)))))), iv v329, iv v336, iv v343, iv v388, iv v436, iv (65536 : Int32), iv (1114111 : Int32), iv (own_b (¬ (v436 < (65536 : Int32)) ∧ (¬ ((1114111 : Int32) < v388))))]) rfl ?_
        refine XS.iload Xg433.here hx rfl (hb hby at_524) rfl ?_
        exact kt
      obtain ⟨_, ⟨j584_l17, rfl, hj584_l17⟩, st_M584⟩ : own_Lead p.tables e below (Tg433.setTop (mkF m 526 #[iv p0, iv p1, iv p2, iv p3, iv p4, iv p5, iv v4, iv v14, iv v21, iv v26, rv b30, iv v92, iv v134, iv v141, iv v148, iv (4 : Int32), iv v232, .unset, iv (4 : Int32), iv (own_b (((v134 &&& (192 : Int32)) = (128 : Int32)) ∧ ((((v141 &&& (192 : Int32)) = (128 : Int32)) ∧ ((v148 &&& (192 : Int32)) = (128 : Int32)))))), iv v329, iv v336, iv v343, iv v388, iv v436, iv (65536 : Int32), iv (1114111 : Int32), iv (own_b (¬ (v436 < (65536 : Int32)) ∧ (¬ ((1114111 : Int32) < v388))))] [(.int (own_b (((v134 &&& (192 : Int32)) = (128 : Int32)) ∧ ((((v141 &&& (192 : Int32)) = (128 : Int32)) ∧ ((v148 &&& (192 : Int32)) = (128 : Int32)))))))])) (fun B => ∃ (j584_l17 : Int32), B = Tg433.setTop (mkF m 584 #[iv p0, iv p1, iv p2, iv p3, iv p4, iv p5, iv v4, iv v14, iv v21, iv v26, rv b30, iv v92, iv v134, iv v141, iv v148, iv (4 : Int32), iv v232, iv j584_l17, iv (4 : Int32), iv (own_b (((v134 &&& (192 : Int32)) = (128 : Int32)) ∧ ((((v141 &&& (192 : Int32)) = (128 : Int32)) ∧ ((v148 &&& (192 : Int32)) = (128 : Int32)))))), iv v329, iv v336, iv v343, iv v388, iv v436, iv (65536 : Int32), iv (1114111 : Int32), iv (own_b (¬ (v436 < (65536 : Int32)) ∧ (¬ ((1114111 : Int32) < v388))))] []) ∧ j584_l17 = (if ((v134 &&& (192 : Int32)) = (128 : Int32)) ∧ ((((v141 &&& (192 : Int32)) = (128 : Int32)) ∧ ((v148 &&& (192 : Int32)) = (128 : Int32)))) then (if ¬ (v436 < (65536 : Int32)) ∧ (¬ ((1114111 : Int32) < v388)) then (4 : Int32) else (-1 : Int32)) else (-1 : Int32))) := by
        by_cases c526 : ((v134 &&& (192 : Int32)) = (128 : Int32)) ∧ ((((v141 &&& (192 : Int32)) = (128 : Int32)) ∧ ((v148 &&& (192 : Int32)) = (128 : Int32))))
        · refine own_st (B := Tg433.setTop (mkF m 531 #[iv p0, iv p1, iv p2, iv p3, iv p4, iv p5, iv v4, iv v14, iv v21, iv v26, rv b30, iv v92, iv v134, iv v141, iv v148, iv (4 : Int32), iv v232, .unset, iv (4 : Int32), iv (own_b (((v134 &&& (192 : Int32)) = (128 : Int32)) ∧ ((((v141 &&& (192 : Int32)) = (128 : Int32)) ∧ ((v148 &&& (192 : Int32)) = (128 : Int32)))))), iv v329, iv v336, iv v343, iv v388, iv v436, iv (65536 : Int32), iv (1114111 : Int32), iv (own_b (¬ (v436 < (65536 : Int32)) ∧ (¬ ((1114111 : Int32) < v388))))] [(.int (own_b (¬ (v436 < (65536 : Int32)) ∧ (¬ ((1114111 : Int32) < v388)))))])) (fun target kt => ?_) ?_
          · show Steps p.tables e below (Tg433.setTop (mkF m 526 #[iv p0, iv p1, iv p2, iv p3, iv p4, iv p5, iv v4, iv v14, iv v21, iv v26, rv b30, iv v92, iv v134, iv v141, iv v148, iv (4 : Int32), iv v232, .unset, iv (4 : Int32), iv (own_b (((v134 &&& (192 : Int32)) = (128 : Int32)) ∧ ((((v141 &&& (192 : Int32)) = (128 : Int32)) ∧ ((v148 &&& (192 : Int32)) = (128 : Int32)))))), iv v329, iv v336, iv v343, iv v388, iv v436, iv (65536 : Int32), iv (1114111 : Int32), iv (own_b (¬ (v436 < (65536 : Int32)) ∧ (¬ ((1114111 : Int32) < v388))))] [(.int (own_b (((v134 &&& (192 : Int32)) = (128 : Int32)) ∧ ((((v141 &&& (192 : Int32)) = (128 : Int32)) ∧ ((v148 &&& (192 : Int32)) = (128 : Int32)))))))])) target
            refine XS.ifNo Xg433.here hx rfl (hb hby at_526) rfl ((if0 _ _).trans (feq (own_bn0 rfl c526)).1) ?_
            refine XS.iload Xg433.here hx rfl (hb hby at_529) rfl ?_
            exact kt
          by_cases c531 : ¬ (v436 < (65536 : Int32)) ∧ (¬ ((1114111 : Int32) < v388))
          · refine own_st (B := Tg433.setTop (mkF m 584 #[iv p0, iv p1, iv p2, iv p3, iv p4, iv p5, iv v4, iv v14, iv v21, iv v26, rv b30, iv v92, iv v134, iv v141, iv v148, iv (4 : Int32), iv v232, iv (4 : Int32), iv (4 : Int32), iv (own_b (((v134 &&& (192 : Int32)) = (128 : Int32)) ∧ ((((v141 &&& (192 : Int32)) = (128 : Int32)) ∧ ((v148 &&& (192 : Int32)) = (128 : Int32)))))), iv v329, iv v336, iv v343, iv v388, iv v436, iv (65536 : Int32), iv (1114111 : Int32), iv (own_b (¬ (v436 < (65536 : Int32)) ∧ (¬ ((1114111 : Int32) < v388))))] [])) (fun target kt => ?_) ?_
            · show Steps p.tables e below (Tg433.setTop (mkF m 531 #[iv p0, iv p1, iv p2, iv p3, iv p4, iv p5, iv v4, iv v14, iv v21, iv v26, rv b30, iv v92, iv v134, iv v141, iv v148, iv (4 : Int32), iv v232, .unset, iv (4 : Int32), iv (own_b (((v134 &&& (192 : Int32)) = (128 : Int32)) ∧ ((((v141 &&& (192 : Int32)) = (128 : Int32)) ∧ ((v148 &&& (192 : Int32)) = (128 : Int32)))))), iv v329, iv v336, iv v343, iv v388, iv v436, iv (65536 : Int32), iv (1114111 : Int32), iv (own_b (¬ (v436 < (65536 : Int32)) ∧ (¬ ((1114111 : Int32) < v388))))] [(.int (own_b (¬ (v436 < (65536 : Int32)) ∧ (¬ ((1114111 : Int32) < v388)))))])) target
              refine XS.ifYes Xg433.here hx rfl (pc0 := 531) (pc' := 540) rfl (hb hby at_531) rfl ((if0 _ _).trans (feq (own_bn0 rfl c531)).2) (by decide) (by decide) ?_
              refine XS.iload Xg433.here hx rfl (hb hby at_540) rfl ?_
              refine XS.iload Xg433.here hx rfl (hb hby at_542) rfl ?_
              refine XS.icmpYes Xg433.here hx rfl (pc0 := 544) (pc' := 553) rfl (hb hby at_544) rfl (flt (by decide : ¬ ((4 : Int32) < (4 : Int32)))).2.1 (by decide) (by decide) ?_
              refine XS.iload Xg433.here hx rfl (hb hby at_553) rfl ?_
              refine XS.iconst Xg433.here hx rfl (hb hby at_555) ?_
              refine XS.icmpYes Xg433.here hx rfl (pc0 := 556) (pc' := 580) rfl (hb hby at_556) rfl (feq (by decide : ¬ ((4 : Int32) = (3 : Int32)))).2 (by decide) (by decide) ?_
              refine XS.iload Xg433.here hx rfl (hb hby at_580) rfl ?_
              show Steps p.tables e below (Tg433.setTop (mkF m 582 #[iv p0, iv p1, iv p2, iv p3, iv p4, iv p5, iv v4, iv v14, iv v21, iv v26, rv b30, iv v92, iv v134, iv v141, iv v148, iv (4 : Int32), iv v232, .unset, iv (4 : Int32), iv (own_b (((v134 &&& (192 : Int32)) = (128 : Int32)) ∧ ((((v141 &&& (192 : Int32)) = (128 : Int32)) ∧ ((v148 &&& (192 : Int32)) = (128 : Int32)))))), iv v329, iv v336, iv v343, iv v388, iv v436, iv (65536 : Int32), iv (1114111 : Int32), iv (own_b (¬ (v436 < (65536 : Int32)) ∧ (¬ ((1114111 : Int32) < v388))))] [(.int (4 : Int32))])) target
              refine XS.istore Xg433.here hx rfl (hb hby at_582) rfl (l' := #[iv p0, iv p1, iv p2, iv p3, iv p4, iv p5, iv v4, iv v14, iv v21, iv v26, rv b30, iv v92, iv v134, iv v141, iv v148, iv (4 : Int32), iv v232, iv (4 : Int32), iv (4 : Int32), iv (own_b (((v134 &&& (192 : Int32)) = (128 : Int32)) ∧ ((((v141 &&& (192 : Int32)) = (128 : Int32)) ∧ ((v148 &&& (192 : Int32)) = (128 : Int32)))))), iv v329, iv v336, iv v343, iv v388, iv v436, iv (65536 : Int32), iv (1114111 : Int32), iv (own_b (¬ (v436 < (65536 : Int32)) ∧ (¬ ((1114111 : Int32) < v388))))]) rfl ?_
              exact kt
            exact ⟨_, ⟨(4 : Int32), rfl, (Eq.trans (if_pos c531).symm (if_pos c526).symm)⟩, fun _ k => k⟩
          · refine own_st (B := Tg433.setTop (mkF m 584 #[iv p0, iv p1, iv p2, iv p3, iv p4, iv p5, iv v4, iv v14, iv v21, iv v26, rv b30, iv v92, iv v134, iv v141, iv v148, iv (4 : Int32), iv v232, iv (-1 : Int32), iv (4 : Int32), iv (own_b (((v134 &&& (192 : Int32)) = (128 : Int32)) ∧ ((((v141 &&& (192 : Int32)) = (128 : Int32)) ∧ ((v148 &&& (192 : Int32)) = (128 : Int32)))))), iv v329, iv v336, iv v343, iv v388, iv v436, iv (65536 : Int32), iv (1114111 : Int32), iv (own_b (¬ (v436 < (65536 : Int32)) ∧ (¬ ((1114111 : Int32) < v388))))] [])) (fun target kt => ?_) ?_
            · show Steps p.tables e below (Tg433.setTop (mkF m 531 #[iv p0, iv p1, iv p2, iv p3, iv p4, iv p5, iv v4, iv v14, iv v21, iv v26, rv b30, iv v92, iv v134, iv v141, iv v148, iv (4 : Int32), iv v232, .unset, iv (4 : Int32), iv (own_b (((v134 &&& (192 : Int32)) = (128 : Int32)) ∧ ((((v141 &&& (192 : Int32)) = (128 : Int32)) ∧ ((v148 &&& (192 : Int32)) = (128 : Int32)))))), iv v329, iv v336, iv v343, iv v388, iv v436, iv (65536 : Int32), iv (1114111 : Int32), iv (own_b (¬ (v436 < (65536 : Int32)) ∧ (¬ ((1114111 : Int32) < v388))))] [(.int (own_b (¬ (v436 < (65536 : Int32)) ∧ (¬ ((1114111 : Int32) < v388)))))])) target
              refine XS.ifNo Xg433.here hx rfl (hb hby at_531) rfl ((if0 _ _).trans (teq (own_b00 rfl c531)).2) ?_
              refine XS.iconst Xg433.here hx rfl (hb hby at_534) ?_
              refine XS.istore Xg433.here hx rfl (hb hby at_535) rfl (l' := #[iv p0, iv p1, iv p2, iv p3, iv p4, iv p5, iv v4, iv v14, iv v21, iv v26, rv b30, iv v92, iv v134, iv v141, iv v148, iv (4 : Int32), iv v232, iv (-1 : Int32), iv (4 : Int32), iv (own_b (((v134 &&& (192 : Int32)) = (128 : Int32)) ∧ ((((v141 &&& (192 : Int32)) = (128 : Int32)) ∧ ((v148 &&& (192 : Int32)) = (128 : Int32)))))), iv v329, iv v336, iv v343, iv v388, iv v436, iv (65536 : Int32), iv (1114111 : Int32), iv (own_b (¬ (v436 < (65536 : Int32)) ∧ (¬ ((1114111 : Int32) < v388))))]) rfl ?_
              refine XS.goto Xg433.here hx rfl (pc0 := 537) (pc' := 584) rfl (hb hby at_537) (by decide) (by decide) ?_
              exact kt
            exact ⟨_, ⟨(-1 : Int32), rfl, (Eq.trans (if_neg c531).symm (if_pos c526).symm)⟩, fun _ k => k⟩
        · refine own_st (B := Tg433.setTop (mkF m 584 #[iv p0, iv p1, iv p2, iv p3, iv p4, iv p5, iv v4, iv v14, iv v21, iv v26, rv b30, iv v92, iv v134, iv v141, iv v148, iv (4 : Int32), iv v232, iv (-1 : Int32), iv (4 : Int32), iv (own_b (((v134 &&& (192 : Int32)) = (128 : Int32)) ∧ ((((v141 &&& (192 : Int32)) = (128 : Int32)) ∧ ((v148 &&& (192 : Int32)) = (128 : Int32)))))), iv v329, iv v336, iv v343, iv v388, iv v436, iv (65536 : Int32), iv (1114111 : Int32), iv (own_b (¬ (v436 < (65536 : Int32)) ∧ (¬ ((1114111 : Int32) < v388))))] [])) (fun target kt => ?_) ?_
          · show Steps p.tables e below (Tg433.setTop (mkF m 526 #[iv p0, iv p1, iv p2, iv p3, iv p4, iv p5, iv v4, iv v14, iv v21, iv v26, rv b30, iv v92, iv v134, iv v141, iv v148, iv (4 : Int32), iv v232, .unset, iv (4 : Int32), iv (own_b (((v134 &&& (192 : Int32)) = (128 : Int32)) ∧ ((((v141 &&& (192 : Int32)) = (128 : Int32)) ∧ ((v148 &&& (192 : Int32)) = (128 : Int32)))))), iv v329, iv v336, iv v343, iv v388, iv v436, iv (65536 : Int32), iv (1114111 : Int32), iv (own_b (¬ (v436 < (65536 : Int32)) ∧ (¬ ((1114111 : Int32) < v388))))] [(.int (own_b (((v134 &&& (192 : Int32)) = (128 : Int32)) ∧ ((((v141 &&& (192 : Int32)) = (128 : Int32)) ∧ ((v148 &&& (192 : Int32)) = (128 : Int32)))))))])) target
            refine XS.ifYes Xg433.here hx rfl (pc0 := 526) (pc' := 534) rfl (hb hby at_526) rfl ((if0 _ _).trans (teq (own_b00 rfl c526)).1) (by decide) (by decide) ?_
            refine XS.iconst Xg433.here hx rfl (hb hby at_534) ?_
            refine XS.istore Xg433.here hx rfl (hb hby at_535) rfl (l' := #[iv p0, iv p1, iv p2, iv p3, iv p4, iv p5, iv v4, iv v14, iv v21, iv v26, rv b30, iv v92, iv v134, iv v141, iv v148, iv (4 : Int32), iv v232, iv (-1 : Int32), iv (4 : Int32), iv (own_b (((v134 &&& (192 : Int32)) = (128 : Int32)) ∧ ((((v141 &&& (192 : Int32)) = (128 : Int32)) ∧ ((v148 &&& (192 : Int32)) = (128 : Int32)))))), iv v329, iv v336, iv v343, iv v388, iv v436, iv (65536 : Int32), iv (1114111 : Int32), iv (own_b (¬ (v436 < (65536 : Int32)) ∧ (¬ ((1114111 : Int32) < v388))))]) rfl ?_
            refine XS.goto Xg433.here hx rfl (pc0 := 537) (pc' := 584) rfl (hb hby at_537) (by decide) (by decide) ?_
            exact kt
          exact ⟨_, ⟨(-1 : Int32), rfl, (if_neg c526).symm⟩, fun _ k => k⟩
      refine own_st st_M584 ?_
      refine own_st (B := Tg433.setTop (mkF m 590 #[iv p0, iv p1, iv p2, iv p3, iv p4, iv p5, iv v4, iv v14, iv v21, iv v26, rv b30, iv v92, iv v134, iv v141, iv v148, iv (4 : Int32), iv v232, iv j584_l17, iv (4 : Int32), iv (own_b (((v134 &&& (192 : Int32)) = (128 : Int32)) ∧ ((((v141 &&& (192 : Int32)) = (128 : Int32)) ∧ ((v148 &&& (192 : Int32)) = (128 : Int32)))))), iv v329, iv v336, iv v343, iv v388, iv v436, iv (65536 : Int32), iv (1114111 : Int32), iv (own_b (¬ (v436 < (65536 : Int32)) ∧ (¬ ((1114111 : Int32) < v388))))] [(.int v21), (.int v4), (.ref b30)])) (fun target kt => ?_) ?_
      · show Steps p.tables e below (Tg433.setTop (mkF m 584 #[iv p0, iv p1, iv p2, iv p3, iv p4, iv p5, iv v4, iv v14, iv v21, iv v26, rv b30, iv v92, iv v134, iv v141, iv v148, iv (4 : Int32), iv v232, iv j584_l17, iv (4 : Int32), iv (own_b (((v134 &&& (192 : Int32)) = (128 : Int32)) ∧ ((((v141 &&& (192 : Int32)) = (128 : Int32)) ∧ ((v148 &&& (192 : Int32)) = (128 : Int32)))))), iv v329, iv v336, iv v343, iv v388, iv v436, iv (65536 : Int32), iv (1114111 : Int32), iv (own_b (¬ (v436 < (65536 : Int32)) ∧ (¬ ((1114111 : Int32) < v388))))] [])) target
        refine XS.aload Xg433.here hx rfl (hb hby at_584) rfl rfl ?_
        refine XS.iload Xg433.here hx rfl (hb hby at_586) rfl ?_
        refine XS.iload Xg433.here hx rfl (hb hby at_588) rfl ?_
        exact kt
      obtain ⟨_, _, ⟨Tg590, Lg590, kg590, ng590⟩, -, Xg590, ⟨Lcg590, hQg590, lg590, yg590, zg590⟩, stg590⟩ := Jvm.LawKit.callS Xg433 hx (y := (⟨"com/example/psyche/psyche/XmlChars", "sequenceLength", "([BII)I"⟩ : MethodName)) hown (mvT hZ (hw _ (List.mem_of_getElem? (i := 1) rfl))) (mvT hZ (hw _ (List.mem_of_getElem? (i := 2) rfl))) (mvT hZ (hw _ (List.mem_of_getElem? (i := 3) rfl))) (mvT hZ (hw _ (List.mem_of_getElem? (i := 4) rfl))) (by decide) (backOf (W := 0) (own_rm1_D l Z a0 hw [] b30 v4 v21 a128 hg128 n0 Zz_12 F_24 (show v4 = (0 : Int32) ∨ v4 = (1 : Int32) ∨ v4 = (2 : Int32) ∨ v4 = (3 : Int32) from hat) (show ¬ ((a128 (v4).toNatClampNeg) &&& (255 : Int32)) < (194 : Int32) from (by rw [hLD, Int32.lt_iff_toInt_lt, show (194 : Int32).toInt = 194 by decide]; omega)) (show ¬ ((a128 (v4).toNatClampNeg) &&& (255 : Int32)) < (224 : Int32) from (by rw [hLD, Int32.lt_iff_toInt_lt, show (224 : Int32).toInt = 224 by decide]; omega)) (show ¬ ((a128 (v4).toNatClampNeg) &&& (255 : Int32)) < (240 : Int32) from (by rw [hLD, Int32.lt_iff_toInt_lt, show (240 : Int32).toInt = 240 by decide]; omega))) hZ (hw _ (List.mem_of_getElem? (i := 4) rfl)) (hw _ (List.mem_of_getElem? (i := 3) rfl)) (by decide) (by decide)) (g := (mkF m 590 #[iv p0, iv p1, iv p2, iv p3, iv p4, iv p5, iv v4, iv v14, iv v21, iv v26, rv b30, iv v92, iv v134, iv v141, iv v148, iv (4 : Int32), iv v232, iv j584_l17, iv (4 : Int32), iv (own_b (((v134 &&& (192 : Int32)) = (128 : Int32)) ∧ ((((v141 &&& (192 : Int32)) = (128 : Int32)) ∧ ((v148 &&& (192 : Int32)) = (128 : Int32)))))), iv v329, iv v336, iv v343, iv v388, iv v436, iv (65536 : Int32), iv (1114111 : Int32), iv (own_b (¬ (v436 < (65536 : Int32)) ∧ (¬ ((1114111 : Int32) < v388))))] [(.int v21), (.int v4), (.ref b30)])) rfl (by rw [hml]; rfl) (argsL := [(.ref b30), (.int v4), (.int v21)]) (rest := []) (lenOf own_pd0 rfl) rfl (by show 2 * 0 + _ ≤ _; exact Nat.le_of_eq rfl) (hb hby at_590) (fun _ _ => ⟨rfl, eg433, (by decide : 1 + 0 ≤ _), (by decide : 8 + 0 ≤ _)⟩)
      dsimp only [Pt.U, Pt.locs, Pt.cells, Pt.slots] at Xg590 lg590 yg590 zg590 stg590 hQg590
      subst lg590 yg590 zg590
      obtain ⟨rfl, Ng590q, eg590⟩ := hQg590
      have Ng590 := Fr.app Ng433 Ng590q
      refine own_st (stg590) ?_
      refine own_st (B := Tg590.setTop (mkF m 595 #[iv p0, iv p1, iv p2, iv p3, iv p4, iv p5, iv v4, iv v14, iv v21, iv v26, rv b30, iv v92, iv v134, iv v141, iv v148, iv (4 : Int32), iv v232, iv j584_l17, iv (4 : Int32), iv (own_b (((v134 &&& (192 : Int32)) = (128 : Int32)) ∧ ((((v141 &&& (192 : Int32)) = (128 : Int32)) ∧ ((v148 &&& (192 : Int32)) = (128 : Int32)))))), iv v329, iv v336, iv v343, iv v388, iv v436, iv (65536 : Int32), iv (1114111 : Int32), iv (own_b (¬ (v436 < (65536 : Int32)) ∧ (¬ ((1114111 : Int32) < v388))))] [(.int j584_l17), (.int (if ((a128 (v4).toNatClampNeg) &&& (255 : Int32)) < (245 : Int32) then (if (v4 + (1 : Int32)) < v21 then (if ((a128 (v4 + (1 : Int32)).toNatClampNeg) &&& (255 : Int32)) < (if ((a128 (v4).toNatClampNeg) &&& (255 : Int32)) = (240 : Int32) then (144 : Int32) else (128 : Int32)) then (-1 : Int32) else (if (if ((a128 (v4).toNatClampNeg) &&& (255 : Int32)) = (240 : Int32) then (191 : Int32) else (if ((a128 (v4).toNatClampNeg) &&& (255 : Int32)) = (244 : Int32) then (143 : Int32) else (191 : Int32))) < ((a128 (v4 + (1 : Int32)).toNatClampNeg) &&& (255 : Int32)) then (-1 : Int32) else (if (v4 + (2 : Int32)) < v21 then (if ((a128 (v4 + (2 : Int32)).toNatClampNeg) &&& (255 : Int32)) < (128 : Int32) then (-1 : Int32) else (if (191 : Int32) < ((a128 (v4 + (2 : Int32)).toNatClampNeg) &&& (255 : Int32)) then (-1 : Int32) else (if (v4 + (3 : Int32)) < v21 then (if ((a128 (v4 + (3 : Int32)).toNatClampNeg) &&& (255 : Int32)) < (128 : Int32) then (-1 : Int32) else (if (191 : Int32) < ((a128 (v4 + (3 : Int32)).toNatClampNeg) &&& (255 : Int32)) then (-1 : Int32) else (if ((a128 (v4).toNatClampNeg) &&& (255 : Int32)) = (239 : Int32) then (if (a128 (v4 + (1 : Int32)).toNatClampNeg) = (-65 : Int32) then (if ((a128 (v4 + (2 : Int32)).toNatClampNeg) &&& (254 : Int32)) = (190 : Int32) then (-2 : Int32) else (4 : Int32)) else (4 : Int32)) else (4 : Int32)))) else (0 : Int32)))) else (0 : Int32)))) else (0 : Int32)) else (-1 : Int32)))])) (fun target kt => ?_) ?_
      · show Steps p.tables e below (Tg590.setTop (mkF m 593 #[iv p0, iv p1, iv p2, iv p3, iv p4, iv p5, iv v4, iv v14, iv v21, iv v26, rv b30, iv v92, iv v134, iv v141, iv v148, iv (4 : Int32), iv v232, iv j584_l17, iv (4 : Int32), iv (own_b (((v134 &&& (192 : Int32)) = (128 : Int32)) ∧ ((((v141 &&& (192 : Int32)) = (128 : Int32)) ∧ ((v148 &&& (192 : Int32)) = (128 : Int32)))))), iv v329, iv v336, iv v343, iv v388, iv v436, iv (65536 : Int32), iv (1114111 : Int32), iv (own_b (¬ (v436 < (65536 : Int32)) ∧ (¬ ((1114111 : Int32) < v388))))] [(.int (if ((a128 (v4).toNatClampNeg) &&& (255 : Int32)) < (245 : Int32) then (if (v4 + (1 : Int32)) < v21 then (if ((a128 (v4 + (1 : Int32)).toNatClampNeg) &&& (255 : Int32)) < (if ((a128 (v4).toNatClampNeg) &&& (255 : Int32)) = (240 : Int32) then (144 : Int32) else (128 : Int32)) then (-1 : Int32) else (if (if ((a128 (v4).toNatClampNeg) &&& (255 : Int32)) = (240 : Int32) then (191 : Int32) else (if ((a128 (v4).toNatClampNeg) &&& (255 : Int32)) = (244 : Int32) then (143 : Int32) else (191 : Int32))) < ((a128 (v4 + (1 : Int32)).toNatClampNeg) &&& (255 : Int32)) then (-1 : Int32) else (if (v4 + (2 : Int32)) < v21 then (if ((a128 (v4 + (2 : Int32)).toNatClampNeg) &&& (255 : Int32)) < (128 : Int32) then (-1 : Int32) else (if (191 : Int32) < ((a128 (v4 + (2 : Int32)).toNatClampNeg) &&& (255 : Int32)) then (-1 : Int32) else (if (v4 + (3 : Int32)) < v21 then (if ((a128 (v4 + (3 : Int32)).toNatClampNeg) &&& (255 : Int32)) < (128 : Int32) then (-1 : Int32) else (if (191 : Int32) < ((a128 (v4 + (3 : Int32)).toNatClampNeg) &&& (255 : Int32)) then (-1 : Int32) else (if ((a128 (v4).toNatClampNeg) &&& (255 : Int32)) = (239 : Int32) then (if (a128 (v4 + (1 : Int32)).toNatClampNeg) = (-65 : Int32) then (if ((a128 (v4 + (2 : Int32)).toNatClampNeg) &&& (254 : Int32)) = (190 : Int32) then (-2 : Int32) else (4 : Int32)) else (4 : Int32)) else (4 : Int32)))) else (0 : Int32)))) else (0 : Int32)))) else (0 : Int32)) else (-1 : Int32)))])) target
        refine XS.iload Xg590.here hx rfl (hb hby at_593) rfl ?_
        exact kt
      have c595 : (if ((a128 (v4).toNatClampNeg) &&& (255 : Int32)) < (245 : Int32) then (if (v4 + (1 : Int32)) < v21 then (if ((a128 (v4 + (1 : Int32)).toNatClampNeg) &&& (255 : Int32)) < (if ((a128 (v4).toNatClampNeg) &&& (255 : Int32)) = (240 : Int32) then (144 : Int32) else (128 : Int32)) then (-1 : Int32) else (if (if ((a128 (v4).toNatClampNeg) &&& (255 : Int32)) = (240 : Int32) then (191 : Int32) else (if ((a128 (v4).toNatClampNeg) &&& (255 : Int32)) = (244 : Int32) then (143 : Int32) else (191 : Int32))) < ((a128 (v4 + (1 : Int32)).toNatClampNeg) &&& (255 : Int32)) then (-1 : Int32) else (if (v4 + (2 : Int32)) < v21 then (if ((a128 (v4 + (2 : Int32)).toNatClampNeg) &&& (255 : Int32)) < (128 : Int32) then (-1 : Int32) else (if (191 : Int32) < ((a128 (v4 + (2 : Int32)).toNatClampNeg) &&& (255 : Int32)) then (-1 : Int32) else (if (v4 + (3 : Int32)) < v21 then (if ((a128 (v4 + (3 : Int32)).toNatClampNeg) &&& (255 : Int32)) < (128 : Int32) then (-1 : Int32) else (if (191 : Int32) < ((a128 (v4 + (3 : Int32)).toNatClampNeg) &&& (255 : Int32)) then (-1 : Int32) else (if ((a128 (v4).toNatClampNeg) &&& (255 : Int32)) = (239 : Int32) then (if (a128 (v4 + (1 : Int32)).toNatClampNeg) = (-65 : Int32) then (if ((a128 (v4 + (2 : Int32)).toNatClampNeg) &&& (254 : Int32)) = (190 : Int32) then (-2 : Int32) else (4 : Int32)) else (4 : Int32)) else (4 : Int32)))) else (0 : Int32)))) else (0 : Int32)))) else (0 : Int32)) else (-1 : Int32)) = j584_l17 := by
        have hc1 : 0 ≤ v134.toInt ∧ v134.toInt < 256 := by rw [hv134, own_m255]; omega
        have hc2 : 0 ≤ v141.toInt ∧ v141.toInt < 256 := by rw [hv141, own_m255]; omega
        have hc3 : 0 ≤ v148.toInt ∧ v148.toInt < 256 := by rw [hv148, own_m255]; omega
        have hbits : v232.toInt = v92.toInt % 8 := by rw [hv232]; exact own_m7 v92
        have hq1 : v329.toInt = v134.toInt % 64 := by rw [hv329]; exact own_m63 v134
        have hq2 : v336.toInt = v141.toInt % 64 := by rw [hv336]; exact own_m63 v141
        have hq3 : v343.toInt = v148.toInt % 64 := by rw [hv343]; exact own_m63 v148
        have hz0 : (0 : Int32).toInt = 0 := by decide
        have hz63 : (63 : Int32).toInt = 63 := by decide
        have hmn : v388.toInt = (v92.toInt % 8) * 262144 + (v134.toInt % 64) * 4096 + (v141.toInt % 64) * 64 + (v148.toInt % 64) * 1 := by
          rw [hv388, if_neg (by decide), if_neg (by decide), own_p4 _ _ _ _ (by omega) (by omega) (by omega) (by omega) (by omega) (by omega) (by omega) (by omega)]
          omega
        have hmx : v436.toInt = (v92.toInt % 8) * 262144 + (v134.toInt % 64) * 4096 + (v141.toInt % 64) * 64 + (v148.toInt % 64) * 1 := by
          rw [hv436, if_neg (by decide), if_neg (by decide), own_p4 _ _ _ _ (by omega) (by omega) (by omega) (by omega) (by omega) (by omega) (by omega) (by omega)]
          omega
        have hkv := own_kv v14 (4 : Int32) (4 : Int32) hv261
        rw [show (4 : Int32).toInt = 4 by decide] at hkv
        rw [hj584_l17]
        simp only [hLD, hA1, hA2, hA3, hM1, hM2, own_c192 v134 hc1.1 hc1.2, own_c192 v141 hc2.1 hc2.2, own_c192 v148 hc3.1 hc3.2, own_lim1 v4 v14 hat hav v21 hv21, own_lim2 v4 v14 hat hav v21 hv21, own_lim3 v4 v14 hat hav v21 hv21]
        exact own_F3_4 v92 v134 v141 v148 v14 v388 v436 (by omega) hc1 hc2 hc3 hav (hkv.2 rfl) hmn hmx
      refine own_st (B := Tg590.setTop (mkF m 603 #[iv p0, iv p1, iv p2, iv p3, iv p4, iv p5, iv v4, iv v14, iv v21, iv v26, rv b30, iv v92, iv v134, iv v141, iv v148, iv (4 : Int32), iv v232, iv j584_l17, iv (4 : Int32), iv (own_b (((v134 &&& (192 : Int32)) = (128 : Int32)) ∧ ((((v141 &&& (192 : Int32)) = (128 : Int32)) ∧ ((v148 &&& (192 : Int32)) = (128 : Int32)))))), iv v329, iv v336, iv v343, iv v388, iv v436, iv (65536 : Int32), iv (1114111 : Int32), iv (own_b (¬ (v436 < (65536 : Int32)) ∧ (¬ ((1114111 : Int32) < v388))))] [(.int (1 : Int32))])) (fun target kt => ?_) ?_
      · show Steps p.tables e below (Tg590.setTop (mkF m 595 #[iv p0, iv p1, iv p2, iv p3, iv p4, iv p5, iv v4, iv v14, iv v21, iv v26, rv b30, iv v92, iv v134, iv v141, iv v148, iv (4 : Int32), iv v232, iv j584_l17, iv (4 : Int32), iv (own_b (((v134 &&& (192 : Int32)) = (128 : Int32)) ∧ ((((v141 &&& (192 : Int32)) = (128 : Int32)) ∧ ((v148 &&& (192 : Int32)) = (128 : Int32)))))), iv v329, iv v336, iv v343, iv v388, iv v436, iv (65536 : Int32), iv (1114111 : Int32), iv (own_b (¬ (v436 < (65536 : Int32)) ∧ (¬ ((1114111 : Int32) < v388))))] [(.int j584_l17), (.int (if ((a128 (v4).toNatClampNeg) &&& (255 : Int32)) < (245 : Int32) then (if (v4 + (1 : Int32)) < v21 then (if ((a128 (v4 + (1 : Int32)).toNatClampNeg) &&& (255 : Int32)) < (if ((a128 (v4).toNatClampNeg) &&& (255 : Int32)) = (240 : Int32) then (144 : Int32) else (128 : Int32)) then (-1 : Int32) else (if (if ((a128 (v4).toNatClampNeg) &&& (255 : Int32)) = (240 : Int32) then (191 : Int32) else (if ((a128 (v4).toNatClampNeg) &&& (255 : Int32)) = (244 : Int32) then (143 : Int32) else (191 : Int32))) < ((a128 (v4 + (1 : Int32)).toNatClampNeg) &&& (255 : Int32)) then (-1 : Int32) else (if (v4 + (2 : Int32)) < v21 then (if ((a128 (v4 + (2 : Int32)).toNatClampNeg) &&& (255 : Int32)) < (128 : Int32) then (-1 : Int32) else (if (191 : Int32) < ((a128 (v4 + (2 : Int32)).toNatClampNeg) &&& (255 : Int32)) then (-1 : Int32) else (if (v4 + (3 : Int32)) < v21 then (if ((a128 (v4 + (3 : Int32)).toNatClampNeg) &&& (255 : Int32)) < (128 : Int32) then (-1 : Int32) else (if (191 : Int32) < ((a128 (v4 + (3 : Int32)).toNatClampNeg) &&& (255 : Int32)) then (-1 : Int32) else (if ((a128 (v4).toNatClampNeg) &&& (255 : Int32)) = (239 : Int32) then (if (a128 (v4 + (1 : Int32)).toNatClampNeg) = (-65 : Int32) then (if ((a128 (v4 + (2 : Int32)).toNatClampNeg) &&& (254 : Int32)) = (190 : Int32) then (-2 : Int32) else (4 : Int32)) else (4 : Int32)) else (4 : Int32)))) else (0 : Int32)))) else (0 : Int32)))) else (0 : Int32)) else (-1 : Int32)))])) target
        refine XS.icmpNo Xg590.here hx rfl (hb hby at_595) rfl (teq c595).2 ?_
        refine XS.iconst Xg590.here hx rfl (hb hby at_598) ?_
        refine XS.goto Xg590.here hx rfl (pc0 := 599) (pc' := 603) rfl (hb hby at_599) (by decide) (by decide) ?_
        exact kt
      obtain ⟨fs, hr, hrun, hended, hW, hsame⟩ := Xg590.leave (v := some (.int (1 : Int32))) (fun h => by rw [Bd.returns] at h; cases h)
      have hend : Steps p.tables e below (Tg590.setTop (mkF m 603 #[iv p0, iv p1, iv p2, iv p3, iv p4, iv p5, iv v4, iv v14, iv v21, iv v26, rv b30, iv v92, iv v134, iv v141, iv v148, iv (4 : Int32), iv v232, iv j584_l17, iv (4 : Int32), iv (own_b (((v134 &&& (192 : Int32)) = (128 : Int32)) ∧ ((((v141 &&& (192 : Int32)) = (128 : Int32)) ∧ ((v148 &&& (192 : Int32)) = (128 : Int32)))))), iv v329, iv v336, iv v343, iv v388, iv v436, iv (65536 : Int32), iv (1114111 : Int32), iv (own_b (¬ (v436 < (65536 : Int32)) ∧ (¬ ((1114111 : Int32) < v388))))] [(.int (1 : Int32))])) (Tg590.setFrames fs) := by
        exact retN Xg590 hx (t := .boolean) Bd.returns (by simp) (hb hby at_603) hr
      refine own_fin hend ⟨_, hrun, hended, _, _, rfl, ?_, ⟨_, rfl⟩, hW, hsame.mono (by decide) (by decide)⟩
      show own_Q0 Z p0 p1 p2 p3 p4 p5 h0 n0 _ Tg590.heap _
      rw [eg590]
      exact ⟨rfl, Ng590⟩
  · skip
    refine own_st (B := Tg128.setTop (mkF m 155 #[iv p0, iv p1, iv p2, iv p3, iv p4, iv p5, iv v4, iv v14, iv v21, iv v26, rv b30, iv v92, iv v134, iv v141, iv v148, .unset, .unset, .unset, .unset, .unset, .unset, .unset, .unset, .unset, .unset, .unset, .unset, .unset] [(.int (192 : Int32)), (.int v92)])) (fun target kt => ?_) ?_
    · show Steps p.tables e below (Tg128.setTop (mkF m 152 #[iv p0, iv p1, iv p2, iv p3, iv p4, iv p5, iv v4, iv v14, iv v21, iv v26, rv b30, iv v92, iv v134, iv v141, iv v148, .unset, .unset, .unset, .unset, .unset, .unset, .unset, .unset, .unset, .unset, .unset, .unset, .unset] [(.int v92)])) target
      refine XS.sipush Xg128.here hx rfl (hb hby at_152) ?_
      exact kt
    have c155 : ¬ (v92 < (192 : Int32)) := by
      rw [Int32.lt_iff_toInt_lt, show (192 : Int32).toInt = 192 by decide]
      omega
    refine own_st (B := Tg128.setTop (mkF m 163 #[iv p0, iv p1, iv p2, iv p3, iv p4, iv p5, iv v4, iv v14, iv v21, iv v26, rv b30, iv v92, iv v134, iv v141, iv v148, .unset, .unset, .unset, .unset, .unset, .unset, .unset, .unset, .unset, .unset, .unset, .unset, .unset] [(.int (224 : Int32)), (.int v92)])) (fun target kt => ?_) ?_
    · show Steps p.tables e below (Tg128.setTop (mkF m 155 #[iv p0, iv p1, iv p2, iv p3, iv p4, iv p5, iv v4, iv v14, iv v21, iv v26, rv b30, iv v92, iv v134, iv v141, iv v148, .unset, .unset, .unset, .unset, .unset, .unset, .unset, .unset, .unset, .unset, .unset, .unset, .unset] [(.int (192 : Int32)), (.int v92)])) target
      refine XS.icmpNo Xg128.here hx rfl (hb hby at_155) rfl (flt c155).1 ?_
      refine XS.iload Xg128.here hx rfl (hb hby at_158) rfl ?_
      refine XS.sipush Xg128.here hx rfl (hb hby at_160) ?_
      exact kt
    have c163 : ¬ (v92 < (224 : Int32)) := by
      rw [Int32.lt_iff_toInt_lt, show (224 : Int32).toInt = 224 by decide]
      omega
    refine own_st (B := Tg128.setTop (mkF m 184 #[iv p0, iv p1, iv p2, iv p3, iv p4, iv p5, iv v4, iv v14, iv v21, iv v26, rv b30, iv v92, iv v134, iv v141, iv v148, .unset, .unset, .unset, .unset, .unset, .unset, .unset, .unset, .unset, .unset, .unset, .unset, .unset] [(.int (224 : Int32)), (.int v92)])) (fun target kt => ?_) ?_
    · show Steps p.tables e below (Tg128.setTop (mkF m 163 #[iv p0, iv p1, iv p2, iv p3, iv p4, iv p5, iv v4, iv v14, iv v21, iv v26, rv b30, iv v92, iv v134, iv v141, iv v148, .unset, .unset, .unset, .unset, .unset, .unset, .unset, .unset, .unset, .unset, .unset, .unset, .unset] [(.int (224 : Int32)), (.int v92)])) target
      refine XS.icmpYes Xg128.here hx rfl (pc0 := 163) (pc' := 179) rfl (hb hby at_163) rfl (flt c163).2.1 (by decide) (by decide) ?_
      refine XS.iload Xg128.here hx rfl (hb hby at_179) rfl ?_
      refine XS.sipush Xg128.here hx rfl (hb hby at_181) ?_
      exact kt
    have c184 : ¬ (v92 < (224 : Int32)) := by
      rw [Int32.lt_iff_toInt_lt, show (224 : Int32).toInt = 224 by decide]
      omega
    refine own_st (B := Tg128.setTop (mkF m 192 #[iv p0, iv p1, iv p2, iv p3, iv p4, iv p5, iv v4, iv v14, iv v21, iv v26, rv b30, iv v92, iv v134, iv v141, iv v148, .unset, .unset, .unset, .unset, .unset, .unset, .unset, .unset, .unset, .unset, .unset, .unset, .unset] [(.int (240 : Int32)), (.int v92)])) (fun target kt => ?_) ?_
    · show Steps p.tables e below (Tg128.setTop (mkF m 184 #[iv p0, iv p1, iv p2, iv p3, iv p4, iv p5, iv v4, iv v14, iv v21, iv v26, rv b30, iv v92, iv v134, iv v141, iv v148, .unset, .unset, .unset, .unset, .unset, .unset, .unset, .unset, .unset, .unset, .unset, .unset, .unset] [(.int (224 : Int32)), (.int v92)])) target
      refine XS.icmpNo Xg128.here hx rfl (hb hby at_184) rfl (flt c184).1 ?_
      refine XS.iload Xg128.here hx rfl (hb hby at_187) rfl ?_
      refine XS.sipush Xg128.here hx rfl (hb hby at_189) ?_
      exact kt
    have c192 : ¬ (v92 < (240 : Int32)) := by
      rw [Int32.lt_iff_toInt_lt, show (240 : Int32).toInt = 240 by decide]
      omega
    refine own_st (B := Tg128.setTop (mkF m 213 #[iv p0, iv p1, iv p2, iv p3, iv p4, iv p5, iv v4, iv v14, iv v21, iv v26, rv b30, iv v92, iv v134, iv v141, iv v148, .unset, .unset, .unset, .unset, .unset, .unset, .unset, .unset, .unset, .unset, .unset, .unset, .unset] [(.int (240 : Int32)), (.int v92)])) (fun target kt => ?_) ?_
    · show Steps p.tables e below (Tg128.setTop (mkF m 192 #[iv p0, iv p1, iv p2, iv p3, iv p4, iv p5, iv v4, iv v14, iv v21, iv v26, rv b30, iv v92, iv v134, iv v141, iv v148, .unset, .unset, .unset, .unset, .unset, .unset, .unset, .unset, .unset, .unset, .unset, .unset, .unset] [(.int (240 : Int32)), (.int v92)])) target
      refine XS.icmpYes Xg128.here hx rfl (pc0 := 192) (pc' := 208) rfl (hb hby at_192) rfl (flt c192).2.1 (by decide) (by decide) ?_
      refine XS.iload Xg128.here hx rfl (hb hby at_208) rfl ?_
      refine XS.sipush Xg128.here hx rfl (hb hby at_210) ?_
      exact kt
    have c213 : ¬ (v92 < (240 : Int32)) := by
      rw [Int32.lt_iff_toInt_lt, show (240 : Int32).toInt = 240 by decide]
      omega
    refine own_st (B := Tg128.setTop (mkF m 221 #[iv p0, iv p1, iv p2, iv p3, iv p4, iv p5, iv v4, iv v14, iv v21, iv v26, rv b30, iv v92, iv v134, iv v141, iv v148, .unset, .unset, .unset, .unset, .unset, .unset, .unset, .unset, .unset, .unset, .unset, .unset, .unset] [(.int (248 : Int32)), (.int v92)])) (fun target kt => ?_) ?_
    · show Steps p.tables e below (Tg128.setTop (mkF m 213 #[iv p0, iv p1, iv p2, iv p3, iv p4, iv p5, iv v4, iv v14, iv v21, iv v26, rv b30, iv v92, iv v134, iv v141, iv v148, .unset, .unset, .unset, .unset, .unset, .unset, .unset, .unset, .unset, .unset, .unset, .unset, .unset] [(.int (240 : Int32)), (.int v92)])) target
      refine XS.icmpNo Xg128.here hx rfl (hb hby at_213) rfl (flt c213).1 ?_
      refine XS.iload Xg128.here hx rfl (hb hby at_216) rfl ?_
      refine XS.sipush Xg128.here hx rfl (hb hby at_218) ?_
      exact kt
    have c221 : ¬ (v92 < (248 : Int32)) := by
      rw [Int32.lt_iff_toInt_lt, show (248 : Int32).toInt = 248 by decide]
      omega
    refine own_st (B := Tg128.setTop (mkF m 590 #[iv p0, iv p1, iv p2, iv p3, iv p4, iv p5, iv v4, iv v14, iv v21, iv v26, rv b30, iv v92, iv v134, iv v141, iv v148, iv (0 : Int32), iv (0 : Int32), iv (-1 : Int32), .unset, .unset, .unset, .unset, .unset, .unset, .unset, .unset, .unset, .unset] [(.int v21), (.int v4), (.ref b30)])) (fun target kt => ?_) ?_
    · show Steps p.tables e below (Tg128.setTop (mkF m 221 #[iv p0, iv p1, iv p2, iv p3, iv p4, iv p5, iv v4, iv v14, iv v21, iv v26, rv b30, iv v92, iv v134, iv v141, iv v148, .unset, .unset, .unset, .unset, .unset, .unset, .unset, .unset, .unset, .unset, .unset, .unset, .unset] [(.int (248 : Int32)), (.int v92)])) target
      refine XS.icmpYes Xg128.here hx rfl (pc0 := 221) (pc' := 237) rfl (hb hby at_221) rfl (flt c221).2.1 (by decide) (by decide) ?_
      refine XS.iconst Xg128.here hx rfl (hb hby at_237) ?_
      refine XS.istore Xg128.here hx rfl (hb hby at_238) rfl (l' := #[iv p0, iv p1, iv p2, iv p3, iv p4, iv p5, iv v4, iv v14, iv v21, iv v26, rv b30, iv v92, iv v134, iv v141, iv v148, iv (0 : Int32), .unset, .unset, .unset, .unset, .unset, .unset, .unset, .unset, .unset, .unset, .unset, .unset]) rfl ?_
      refine XS.iconst Xg128.here hx rfl (hb hby at_240) ?_
      refine XS.istore Xg128.here hx rfl (hb hby at_241) rfl (l' := #[iv p0, iv p1, iv p2, iv p3, iv p4, iv p5, iv v4, iv v14, iv v21, iv v26, rv b30, iv v92, iv v134, iv v141, iv v148, iv (0 : Int32), iv (0 : Int32), .unset, .unset, .unset, .unset, .unset, .unset, .unset, .unset, .unset, .unset, .unset]) rfl ?_
      refine XS.iload Xg128.here hx rfl (hb hby at_243) rfl ?_
      refine XS.ifNo Xg128.here hx rfl (hb hby at_245) rfl ((if0 _ _).trans (teq (by decide : (0 : Int32) = (0 : Int32))).2) ?_
      refine XS.iconst Xg128.here hx rfl (hb hby at_248) ?_
      show Steps p.tables e below (Tg128.setTop (mkF m 249 #[iv p0, iv p1, iv p2, iv p3, iv p4, iv p5, iv v4, iv v14, iv v21, iv v26, rv b30, iv v92, iv v134, iv v141, iv v148, iv (0 : Int32), iv (0 : Int32), .unset, .unset, .unset, .unset, .unset, .unset, .unset, .unset, .unset, .unset, .unset] [(.int (-1 : Int32))])) target
      refine XS.istore Xg128.here hx rfl (hb hby at_249) rfl (l' := #[iv p0, iv p1, iv p2, iv p3, iv p4, iv p5, iv v4, iv v14, iv v21, iv v26, rv b30, iv v92, iv v134, iv v141, iv v148, iv (0 : Int32), iv (0 : Int32), iv (-1 : Int32), .unset, .unset, .unset, .unset, .unset, .unset, .unset, .unset, .unset, .unset]) rfl ?_
      refine XS.goto Xg128.here hx rfl (pc0 := 251) (pc' := 584) rfl (hb hby at_251) (by decide) (by decide) ?_
      refine XS.aload Xg128.here hx rfl (hb hby at_584) rfl rfl ?_
      refine XS.iload Xg128.here hx rfl (hb hby at_586) rfl ?_
      refine XS.iload Xg128.here hx rfl (hb hby at_588) rfl ?_
      exact kt
    obtain ⟨_, _, ⟨Tg590, Lg590, kg590, ng590⟩, -, Xg590, ⟨Lcg590, hQg590, lg590, yg590, zg590⟩, stg590⟩ := Jvm.LawKit.callS Xg128 hx (y := (⟨"com/example/psyche/psyche/XmlChars", "sequenceLength", "([BII)I"⟩ : MethodName)) hown (mvT hZ (hw _ (List.mem_of_getElem? (i := 1) rfl))) (mvT hZ (hw _ (List.mem_of_getElem? (i := 2) rfl))) (mvT hZ (hw _ (List.mem_of_getElem? (i := 3) rfl))) (mvT hZ (hw _ (List.mem_of_getElem? (i := 4) rfl))) (by decide) (backOf (W := 0) (own_rm1_D l Z a0 hw [] b30 v4 v21 a128 hg128 n0 Zz_12 F_24 (show v4 = (0 : Int32) ∨ v4 = (1 : Int32) ∨ v4 = (2 : Int32) ∨ v4 = (3 : Int32) from hat) (show ¬ ((a128 (v4).toNatClampNeg) &&& (255 : Int32)) < (194 : Int32) from (by rw [hLD, Int32.lt_iff_toInt_lt, show (194 : Int32).toInt = 194 by decide]; omega)) (show ¬ ((a128 (v4).toNatClampNeg) &&& (255 : Int32)) < (224 : Int32) from (by rw [hLD, Int32.lt_iff_toInt_lt, show (224 : Int32).toInt = 224 by decide]; omega)) (show ¬ ((a128 (v4).toNatClampNeg) &&& (255 : Int32)) < (240 : Int32) from (by rw [hLD, Int32.lt_iff_toInt_lt, show (240 : Int32).toInt = 240 by decide]; omega))) hZ (hw _ (List.mem_of_getElem? (i := 4) rfl)) (hw _ (List.mem_of_getElem? (i := 3) rfl)) (by decide) (by decide)) (g := (mkF m 590 #[iv p0, iv p1, iv p2, iv p3, iv p4, iv p5, iv v4, iv v14, iv v21, iv v26, rv b30, iv v92, iv v134, iv v141, iv v148, iv (0 : Int32), iv (0 : Int32), iv (-1 : Int32), .unset, .unset, .unset, .unset, .unset, .unset, .unset, .unset, .unset, .unset] [(.int v21), (.int v4), (.ref b30)])) rfl (by rw [hml]; rfl) (argsL := [(.ref b30), (.int v4), (.int v21)]) (rest := []) (lenOf own_pd0 rfl) rfl (by show 2 * 0 + _ ≤ _; exact Nat.le_of_eq rfl) (hb hby at_590) (fun _ _ => ⟨rfl, eg128, (by decide : 1 + 0 ≤ _), (by decide : 8 + 0 ≤ _)⟩)
    dsimp only [Pt.U, Pt.locs, Pt.cells, Pt.slots] at Xg590 lg590 yg590 zg590 stg590 hQg590
    subst lg590 yg590 zg590
    obtain ⟨rfl, Ng590q, eg590⟩ := hQg590
    have Ng590 := Fr.app Ng128 Ng590q
    refine own_st (stg590) ?_
    refine own_st (B := Tg590.setTop (mkF m 595 #[iv p0, iv p1, iv p2, iv p3, iv p4, iv p5, iv v4, iv v14, iv v21, iv v26, rv b30, iv v92, iv v134, iv v141, iv v148, iv (0 : Int32), iv (0 : Int32), iv (-1 : Int32), .unset, .unset, .unset, .unset, .unset, .unset, .unset, .unset, .unset, .unset] [(.int (-1 : Int32)), (.int (if ((a128 (v4).toNatClampNeg) &&& (255 : Int32)) < (245 : Int32) then (if (v4 + (1 : Int32)) < v21 then (if ((a128 (v4 + (1 : Int32)).toNatClampNeg) &&& (255 : Int32)) < (if ((a128 (v4).toNatClampNeg) &&& (255 : Int32)) = (240 : Int32) then (144 : Int32) else (128 : Int32)) then (-1 : Int32) else (if (if ((a128 (v4).toNatClampNeg) &&& (255 : Int32)) = (240 : Int32) then (191 : Int32) else (if ((a128 (v4).toNatClampNeg) &&& (255 : Int32)) = (244 : Int32) then (143 : Int32) else (191 : Int32))) < ((a128 (v4 + (1 : Int32)).toNatClampNeg) &&& (255 : Int32)) then (-1 : Int32) else (if (v4 + (2 : Int32)) < v21 then (if ((a128 (v4 + (2 : Int32)).toNatClampNeg) &&& (255 : Int32)) < (128 : Int32) then (-1 : Int32) else (if (191 : Int32) < ((a128 (v4 + (2 : Int32)).toNatClampNeg) &&& (255 : Int32)) then (-1 : Int32) else (if (v4 + (3 : Int32)) < v21 then (if ((a128 (v4 + (3 : Int32)).toNatClampNeg) &&& (255 : Int32)) < (128 : Int32) then (-1 : Int32) else (if (191 : Int32) < ((a128 (v4 + (3 : Int32)).toNatClampNeg) &&& (255 : Int32)) then (-1 : Int32) else (if ((a128 (v4).toNatClampNeg) &&& (255 : Int32)) = (239 : Int32) then (if (a128 (v4 + (1 : Int32)).toNatClampNeg) = (-65 : Int32) then (if ((a128 (v4 + (2 : Int32)).toNatClampNeg) &&& (254 : Int32)) = (190 : Int32) then (-2 : Int32) else (4 : Int32)) else (4 : Int32)) else (4 : Int32)))) else (0 : Int32)))) else (0 : Int32)))) else (0 : Int32)) else (-1 : Int32)))])) (fun target kt => ?_) ?_
    · show Steps p.tables e below (Tg590.setTop (mkF m 593 #[iv p0, iv p1, iv p2, iv p3, iv p4, iv p5, iv v4, iv v14, iv v21, iv v26, rv b30, iv v92, iv v134, iv v141, iv v148, iv (0 : Int32), iv (0 : Int32), iv (-1 : Int32), .unset, .unset, .unset, .unset, .unset, .unset, .unset, .unset, .unset, .unset] [(.int (if ((a128 (v4).toNatClampNeg) &&& (255 : Int32)) < (245 : Int32) then (if (v4 + (1 : Int32)) < v21 then (if ((a128 (v4 + (1 : Int32)).toNatClampNeg) &&& (255 : Int32)) < (if ((a128 (v4).toNatClampNeg) &&& (255 : Int32)) = (240 : Int32) then (144 : Int32) else (128 : Int32)) then (-1 : Int32) else (if (if ((a128 (v4).toNatClampNeg) &&& (255 : Int32)) = (240 : Int32) then (191 : Int32) else (if ((a128 (v4).toNatClampNeg) &&& (255 : Int32)) = (244 : Int32) then (143 : Int32) else (191 : Int32))) < ((a128 (v4 + (1 : Int32)).toNatClampNeg) &&& (255 : Int32)) then (-1 : Int32) else (if (v4 + (2 : Int32)) < v21 then (if ((a128 (v4 + (2 : Int32)).toNatClampNeg) &&& (255 : Int32)) < (128 : Int32) then (-1 : Int32) else (if (191 : Int32) < ((a128 (v4 + (2 : Int32)).toNatClampNeg) &&& (255 : Int32)) then (-1 : Int32) else (if (v4 + (3 : Int32)) < v21 then (if ((a128 (v4 + (3 : Int32)).toNatClampNeg) &&& (255 : Int32)) < (128 : Int32) then (-1 : Int32) else (if (191 : Int32) < ((a128 (v4 + (3 : Int32)).toNatClampNeg) &&& (255 : Int32)) then (-1 : Int32) else (if ((a128 (v4).toNatClampNeg) &&& (255 : Int32)) = (239 : Int32) then (if (a128 (v4 + (1 : Int32)).toNatClampNeg) = (-65 : Int32) then (if ((a128 (v4 + (2 : Int32)).toNatClampNeg) &&& (254 : Int32)) = (190 : Int32) then (-2 : Int32) else (4 : Int32)) else (4 : Int32)) else (4 : Int32)))) else (0 : Int32)))) else (0 : Int32)))) else (0 : Int32)) else (-1 : Int32)))])) target
      refine XS.iload Xg590.here hx rfl (hb hby at_593) rfl ?_
      exact kt
    have c595 : (if ((a128 (v4).toNatClampNeg) &&& (255 : Int32)) < (245 : Int32) then (if (v4 + (1 : Int32)) < v21 then (if ((a128 (v4 + (1 : Int32)).toNatClampNeg) &&& (255 : Int32)) < (if ((a128 (v4).toNatClampNeg) &&& (255 : Int32)) = (240 : Int32) then (144 : Int32) else (128 : Int32)) then (-1 : Int32) else (if (if ((a128 (v4).toNatClampNeg) &&& (255 : Int32)) = (240 : Int32) then (191 : Int32) else (if ((a128 (v4).toNatClampNeg) &&& (255 : Int32)) = (244 : Int32) then (143 : Int32) else (191 : Int32))) < ((a128 (v4 + (1 : Int32)).toNatClampNeg) &&& (255 : Int32)) then (-1 : Int32) else (if (v4 + (2 : Int32)) < v21 then (if ((a128 (v4 + (2 : Int32)).toNatClampNeg) &&& (255 : Int32)) < (128 : Int32) then (-1 : Int32) else (if (191 : Int32) < ((a128 (v4 + (2 : Int32)).toNatClampNeg) &&& (255 : Int32)) then (-1 : Int32) else (if (v4 + (3 : Int32)) < v21 then (if ((a128 (v4 + (3 : Int32)).toNatClampNeg) &&& (255 : Int32)) < (128 : Int32) then (-1 : Int32) else (if (191 : Int32) < ((a128 (v4 + (3 : Int32)).toNatClampNeg) &&& (255 : Int32)) then (-1 : Int32) else (if ((a128 (v4).toNatClampNeg) &&& (255 : Int32)) = (239 : Int32) then (if (a128 (v4 + (1 : Int32)).toNatClampNeg) = (-65 : Int32) then (if ((a128 (v4 + (2 : Int32)).toNatClampNeg) &&& (254 : Int32)) = (190 : Int32) then (-2 : Int32) else (4 : Int32)) else (4 : Int32)) else (4 : Int32)))) else (0 : Int32)))) else (0 : Int32)))) else (0 : Int32)) else (-1 : Int32)) = (-1 : Int32) := by
      have hc1 : 0 ≤ v134.toInt ∧ v134.toInt < 256 := by rw [hv134, own_m255]; omega
      have hc2 : 0 ≤ v141.toInt ∧ v141.toInt < 256 := by rw [hv141, own_m255]; omega
      have hc3 : 0 ≤ v148.toInt ∧ v148.toInt < 256 := by rw [hv148, own_m255]; omega
      simp only [hLD, hA1, hA2, hA3, hM1, hM2, own_c192 v134 hc1.1 hc1.2, own_c192 v141 hc2.1 hc2.2, own_c192 v148 hc3.1 hc3.2, own_lim1 v4 v14 hat hav v21 hv21, own_lim2 v4 v14 hat hav v21 hv21, own_lim3 v4 v14 hat hav v21 hv21]
      exact own_F4_0 v92 v134 v141 v148 v14 0 0 (by omega) hc1 hc2 hc3 hav
    refine own_st (B := Tg590.setTop (mkF m 603 #[iv p0, iv p1, iv p2, iv p3, iv p4, iv p5, iv v4, iv v14, iv v21, iv v26, rv b30, iv v92, iv v134, iv v141, iv v148, iv (0 : Int32), iv (0 : Int32), iv (-1 : Int32), .unset, .unset, .unset, .unset, .unset, .unset, .unset, .unset, .unset, .unset] [(.int (1 : Int32))])) (fun target kt => ?_) ?_
    · show Steps p.tables e below (Tg590.setTop (mkF m 595 #[iv p0, iv p1, iv p2, iv p3, iv p4, iv p5, iv v4, iv v14, iv v21, iv v26, rv b30, iv v92, iv v134, iv v141, iv v148, iv (0 : Int32), iv (0 : Int32), iv (-1 : Int32), .unset, .unset, .unset, .unset, .unset, .unset, .unset, .unset, .unset, .unset] [(.int (-1 : Int32)), (.int (if ((a128 (v4).toNatClampNeg) &&& (255 : Int32)) < (245 : Int32) then (if (v4 + (1 : Int32)) < v21 then (if ((a128 (v4 + (1 : Int32)).toNatClampNeg) &&& (255 : Int32)) < (if ((a128 (v4).toNatClampNeg) &&& (255 : Int32)) = (240 : Int32) then (144 : Int32) else (128 : Int32)) then (-1 : Int32) else (if (if ((a128 (v4).toNatClampNeg) &&& (255 : Int32)) = (240 : Int32) then (191 : Int32) else (if ((a128 (v4).toNatClampNeg) &&& (255 : Int32)) = (244 : Int32) then (143 : Int32) else (191 : Int32))) < ((a128 (v4 + (1 : Int32)).toNatClampNeg) &&& (255 : Int32)) then (-1 : Int32) else (if (v4 + (2 : Int32)) < v21 then (if ((a128 (v4 + (2 : Int32)).toNatClampNeg) &&& (255 : Int32)) < (128 : Int32) then (-1 : Int32) else (if (191 : Int32) < ((a128 (v4 + (2 : Int32)).toNatClampNeg) &&& (255 : Int32)) then (-1 : Int32) else (if (v4 + (3 : Int32)) < v21 then (if ((a128 (v4 + (3 : Int32)).toNatClampNeg) &&& (255 : Int32)) < (128 : Int32) then (-1 : Int32) else (if (191 : Int32) < ((a128 (v4 + (3 : Int32)).toNatClampNeg) &&& (255 : Int32)) then (-1 : Int32) else (if ((a128 (v4).toNatClampNeg) &&& (255 : Int32)) = (239 : Int32) then (if (a128 (v4 + (1 : Int32)).toNatClampNeg) = (-65 : Int32) then (if ((a128 (v4 + (2 : Int32)).toNatClampNeg) &&& (254 : Int32)) = (190 : Int32) then (-2 : Int32) else (4 : Int32)) else (4 : Int32)) else (4 : Int32)))) else (0 : Int32)))) else (0 : Int32)))) else (0 : Int32)) else (-1 : Int32)))])) target
      refine XS.icmpNo Xg590.here hx rfl (hb hby at_595) rfl (teq c595).2 ?_
      refine XS.iconst Xg590.here hx rfl (hb hby at_598) ?_
      refine XS.goto Xg590.here hx rfl (pc0 := 599) (pc' := 603) rfl (hb hby at_599) (by decide) (by decide) ?_
      exact kt
    obtain ⟨fs, hr, hrun, hended, hW, hsame⟩ := Xg590.leave (v := some (.int (1 : Int32))) (fun h => by rw [Bd.returns] at h; cases h)
    have hend : Steps p.tables e below (Tg590.setTop (mkF m 603 #[iv p0, iv p1, iv p2, iv p3, iv p4, iv p5, iv v4, iv v14, iv v21, iv v26, rv b30, iv v92, iv v134, iv v141, iv v148, iv (0 : Int32), iv (0 : Int32), iv (-1 : Int32), .unset, .unset, .unset, .unset, .unset, .unset, .unset, .unset, .unset, .unset] [(.int (1 : Int32))])) (Tg590.setFrames fs) := by
      exact retN Xg590 hx (t := .boolean) Bd.returns (by simp) (hb hby at_603) hr
    refine own_fin hend ⟨_, hrun, hended, _, _, rfl, ?_, ⟨_, rfl⟩, hW, hsame.mono (by decide) (by decide)⟩
    show own_Q0 Z p0 p1 p2 p3 p4 p5 h0 n0 _ Tg590.heap _
    rw [eg590]
    exact ⟨rfl, Ng590⟩
set_option maxRecDepth 65536 in
set_option maxHeartbeats 40000000 in
theorem own_comes_1 {Post : Tables → Env → Array Value → State → Outcome → State → Prop} (hpost : ∀ tb e args s v u, (limb_1_1.after args s (.returned v) u = true ∧ limb_1_2.after args s (.returned v) u = true ∧ True) → FrameEnd s (.returned v) u (Jvm.fieldLocs frame_1_writes args s ++ Jvm.arrayLocs frame_1_arrays args s ++ Jvm.staticLocs frame_1_statics s) 16 128 → Post tb e args s (.returned v) u) :
    ArmFor flags0 classFile x code maxLocals ret World_1 tables_1 room_1 Calls_1 rest_1 Pre_1 Post := by
  intro l hfl _ _ p e ha hc hk s m args below hf hA hF happ hP
  obtain ⟨hcalls, hrest, hpre⟩ := hP
  obtain ⟨-, -, -, hnamed, -, -, -, hat⟩ := (Spec.applies_iff hf).mp happ
  obtain ⟨hg, hn⟩ := and_e (Cond.before_iff.mp (show (Jvm.Cond.and given_1 narrow_1).before args s = true from hpre))
  obtain ⟨g1, g2⟩ := and_e hg
  obtain ⟨g3, g4⟩ := and_e g2
  obtain ⟨g5, g6⟩ := and_e g4
  obtain ⟨g7, g8⟩ := and_e g6
  obtain ⟨g9, g10⟩ := and_e g8
  obtain ⟨g11, g12⟩ := and_e g10
  obtain ⟨w0, w1, w2, w3, w4, w5, rfl⟩ : ∃ w0 w1 w2 w3 w4 w5 : Value, args = #[w0, w1, w2, w3, w4, w5] := by
    have hs : args.size = 6 := by simpa [Cond.value, given_1] using g1
    obtain ⟨L⟩ := args
    match L, hs with
    | [w0, w1, w2, w3, w4, w5], _ => exact ⟨w0, w1, w2, w3, w4, w5, rfl⟩
  have hw := fun d (hd : d ∈ tables_1) => atoms_spec (ws := Jvm.Cond.code x code maxLocals ret :: tables_1) hat d (List.mem_cons_of_mem _ hd)
  obtain ⟨i0, ei0⟩ := is_v g3
  obtain rfl : w0 = (.int i0) := Option.some.inj ei0
  obtain ⟨i1, ei1⟩ := is_v g5
  obtain rfl : w1 = (.int i1) := Option.some.inj ei1
  obtain ⟨i2, ei2⟩ := is_v g7
  obtain rfl : w2 = (.int i2) := Option.some.inj ei2
  obtain ⟨i3, ei3⟩ := is_v g9
  obtain rfl : w3 = (.int i3) := Option.some.inj ei3
  obtain ⟨i4, ei4⟩ := is_v g11
  obtain rfl : w4 = (.int i4) := Option.some.inj ei4
  obtain ⟨i5, ei5⟩ := is_v g12
  obtain rfl : w5 = (.int i5) := Option.some.inj ei5
  obtain ⟨n, o, h1, h2, h3, _, L, rfl, ⟨rfl, N⟩, hq⟩ := own_rm0 l s _ hw tables_1 i0 i1 i2 i3 i4 i5 s.heap s.heap.size (Nat.le_refl _) p e ha hc hk s m _ below hf ((Spec.applies_iff_loose hf).mp happ).1 ⟨rfl, State.Warmed39.refl s, rfl⟩ trivial
  refine ⟨n, _, h1, h2, h3, hpost _ _ _ _ _ _ ⟨Cond.after_iff.mpr rfl, Cond.after_iff.mpr (eq_i res_at (Term.int_eval (1)) rfl), trivial⟩ ⟨hq.1, hq.2.1, (hq.2.2.sift fun y hy => Or.inr (N y hy)).mono (by decide) (by decide)⟩⟩
theorem main_1_1 : Claimed_1_1 := own_comes_1 fun _ _ _ _ _ _ h hF => ⟨h.1, hF⟩
theorem main_1_2 : Claimed_1_2 := own_comes_1 fun _ _ _ _ _ _ h hF => ⟨h.2.1, hF⟩
end Jvm.Pilot.@@N@@
namespace Jvm.Pilot.@@N@@
open Jvm Jvm.ClassFile Sem Op Lib Jvm.Free Jvm.Stand Jvm.Pilot.@@N@@.Jvm.D
/-! MADE BY PROGRAM (witnessworld.py) out of the Statement's table words and the real class files: 8 classes; the members and pool entries that the words name. The judged class is class 1, her method 2. -/
namespace start1
open Jvm.ClassFile
def u (s : String) : CpInfo := .utf8 (stringToUtf16 s)
/-- a pool by its gaps: so many unusable entries, then the entry; so many at the end -/
def gap : Nat → List CpInfo → List CpInfo
  | 0, r => r
  | n + 1, r => .unusable :: gap n r
def poolList (es : List (Nat × CpInfo)) (last : Nat) : List CpInfo := es.foldr (fun e r => gap e.1 (e.2 :: r)) (gap last [])
def pool (es : List (Nat × CpInfo)) (last : Nat) : Array CpInfo := ⟨poolList es last⟩
def fileOf (pool : Array CpInfo) (this : Nat) (attrs : Array Attribute := #[]) (ms : Array MethodInfo := #[]) (fl : Nat := 33) (sup : Nat := 0) (ifs : Array Nat := #[]) (fds : Array FieldInfo := #[]) : ClassFile where
  minorVersion := 0
  majorVersion := 65
  constantPool := pool
  accessFlags := fl
  thisClass := this
  superClass := sup
  interfaces := ifs
  fields := fds
  methods := ms
  attributes := attrs
def plain (name : String) (sup : Option ClassId) : Class where
  name := name
  kind := .ordinary
  loader := none
  accessFlags := 33
  super := sup
  interfaces := #[]
  cf := none
  fields := #[]
  methods := #[]
  instanceTypes := #[]
  staticTypes := #[]
  resolved := #[]
  callSites := []
  init := .initialized
  statics := none
  mirror := none

def pool0 : Array CpInfo := pool [(5, u "<init>"), (0, u "()V"), (1, .class_ 10), (1, u "java/lang/Object")] 113

def k0m0 : Method := { name := "<init>", desc := "()V", sig := { parameters := [], returnType := none }, accessFlags := 1, code := none }
/-- java/lang/Object -/
def k0 : Class := { plain "java/lang/Object" none with
  accessFlags := 33
  interfaces := #[]
  cf := some (fileOf pool0 8 #[] #[{ accessFlags := 1, nameIndex := 5, descriptorIndex := 6, attributes := #[] }] 33 0 #[] #[])
  fields := #[]
  methods := #[k0m0]
  instanceTypes := #[]
  staticTypes := #[]
  resolved := Array.replicate 124 none
  statics := none }

def pool1 : Array CpInfo := pool [(2, .class_ 4), (1, u "java/lang/Object"), (0, u "<init>"), (0, u "()V"), (0, .class_ 8), (0, u "com/example/psyche/psyche/XmlChars"), (0, .methodref 10 11), (0, .class_ 12), (0, .nameAndType 13 14), (0, u "java/lang/Math"), (0, u "min"), (0, u "(II)I"), (0, .methodref 16 17), (0, .class_ 18), (0, .nameAndType 19 20), (0, u "com/example/psyche/psyche/XmlCharsSequenceLengthPinLaw"), (0, u "compose"), (0, u "(IIIII)I"), (0, .integer 65535), (0, .integer 65536), (0, .integer 1114111), (0, .integer 55296), (0, .integer 57343), (0, .integer 65534), (0, .methodref 7 28), (0, .nameAndType 29 30), (0, u "sequenceLength"), (0, u "([BII)I"), (3, u "law"), (0, u "(IIIIII)Z")] 4

def k1m0 : Method := { name := "<init>", desc := "()V", sig := { parameters := [], returnType := none }, accessFlags := 2, code := none }
def k1c1 : Code := { maxStack := 3, maxLocals := 5, code := method_2_code, exceptionTable := #[], attributes := #[] }
def k1m1 : Method := { name := "compose", desc := "(IIIII)I", sig := { parameters := [.int, .int, .int, .int, .int], returnType := some .int }, accessFlags := 10, code := some k1c1 }
def k1c2 : Code := { maxStack := 6, maxLocals := 28, code := code, exceptionTable := #[], attributes := #[] }
def k1m2 : Method := { name := "law", desc := "(IIIIII)Z", sig := { parameters := [.int, .int, .int, .int, .int, .int], returnType := some .boolean }, accessFlags := 9, code := some k1c2 }
/-- com/example/psyche/psyche/XmlCharsSequenceLengthPinLaw -/
def k1 : Class := { plain "com/example/psyche/psyche/XmlCharsSequenceLengthPinLaw" (some 0) with
  accessFlags := 49
  interfaces := #[]
  cf := some (fileOf pool1 16 #[] #[{ accessFlags := 2, nameIndex := 5, descriptorIndex := 6, attributes := #[] }, { accessFlags := 10, nameIndex := 19, descriptorIndex := 20, attributes := #[] }, { accessFlags := 9, nameIndex := 34, descriptorIndex := 35, attributes := #[] }] 49 2 #[] #[])
  fields := #[]
  methods := #[k1m0, k1m1, k1m2]
  instanceTypes := #[]
  staticTypes := #[]
  resolved := Array.replicate 40 none
  statics := none }

def pool2 : Array CpInfo := pool [(2, .class_ 4), (1, u "java/lang/Object"), (0, u "<init>"), (0, u "()V"), (1, .class_ 10), (1, u "com/example/psyche/psyche/XmlChars"), (0, u "ASCII_NAME_START"), (0, u "[Z"), (2, u "ASCII_NAME_CHAR"), (2, u "sequenceLength"), (0, u "([BII)I"), (15, u "XMLNS"), (0, u "[B"), (82, u "NOT_UTF8"), (0, u "I"), (2, u "NOT_A_CHARACTER"), (1, u "CHARACTER_REFERENCE_FORM"), (0, u "Ljava/lang/String;"), (2, u "ENTITY_REFERENCE_FORM"), (2, u "DOUBLE_HYPHEN_IN_COMMENT"), (2, u "COLON_IN_TARGET"), (29, .class_ 166), (0, u "com/example/psyche/psyche/XmlChars$CharacterReference")] 16

def k2m0 : Method := { name := "<init>", desc := "()V", sig := { parameters := [], returnType := none }, accessFlags := 2, code := none }
def k2c1 : Code := { maxStack := 3, maxLocals := 9, code := prog_171_method_20_code, exceptionTable := #[], attributes := #[] }
def k2m1 : Method := { name := "sequenceLength", desc := "([BII)I", sig := { parameters := [(.array .byte), .int, .int], returnType := some .int }, accessFlags := 8, code := some k2c1 }
/-- com/example/psyche/psyche/XmlChars -/
def k2 : Class := { plain "com/example/psyche/psyche/XmlChars" (some 0) with
  accessFlags := 48
  interfaces := #[]
  cf := some (fileOf pool2 8 #[.nestMembers #[165]] #[{ accessFlags := 2, nameIndex := 5, descriptorIndex := 6, attributes := #[] }, { accessFlags := 8, nameIndex := 18, descriptorIndex := 19, attributes := #[] }] 48 2 #[] #[{ accessFlags := 24, nameIndex := 119, descriptorIndex := 120, attributes := #[] }, { accessFlags := 24, nameIndex := 123, descriptorIndex := 120, attributes := #[] }, { accessFlags := 24, nameIndex := 125, descriptorIndex := 126, attributes := #[] }, { accessFlags := 24, nameIndex := 129, descriptorIndex := 126, attributes := #[] }, { accessFlags := 24, nameIndex := 132, descriptorIndex := 126, attributes := #[] }, { accessFlags := 24, nameIndex := 135, descriptorIndex := 126, attributes := #[] }, { accessFlags := 26, nameIndex := 35, descriptorIndex := 36, attributes := #[] }, { accessFlags := 26, nameIndex := 11, descriptorIndex := 12, attributes := #[] }, { accessFlags := 26, nameIndex := 15, descriptorIndex := 12, attributes := #[] }])
  fields := #[{ name := "NOT_UTF8", type := .int, accessFlags := 24, slot := 0, constantValue := 0 }, { name := "NOT_A_CHARACTER", type := .int, accessFlags := 24, slot := 1, constantValue := 0 }, { name := "CHARACTER_REFERENCE_FORM", type := (.object "java/lang/String"), accessFlags := 24, slot := 2, constantValue := 0 }, { name := "ENTITY_REFERENCE_FORM", type := (.object "java/lang/String"), accessFlags := 24, slot := 3, constantValue := 0 }, { name := "DOUBLE_HYPHEN_IN_COMMENT", type := (.object "java/lang/String"), accessFlags := 24, slot := 4, constantValue := 0 }, { name := "COLON_IN_TARGET", type := (.object "java/lang/String"), accessFlags := 24, slot := 5, constantValue := 0 }, { name := "XMLNS", type := (.array .byte), accessFlags := 26, slot := 6, constantValue := 0 }, { name := "ASCII_NAME_START", type := (.array .boolean), accessFlags := 26, slot := 7, constantValue := 0 }, { name := "ASCII_NAME_CHAR", type := (.array .boolean), accessFlags := 26, slot := 8, constantValue := 0 }]
  methods := #[k2m0, k2m1]
  instanceTypes := #[]
  staticTypes := #[.int, .int, (.object "java/lang/String"), (.object "java/lang/String"), (.object "java/lang/String"), (.object "java/lang/String"), (.array .byte), (.array .boolean), (.array .boolean)]
  resolved := Array.replicate 183 none
  statics := none }

def pool3 : Array CpInfo := pool [(1, .class_ 2), (0, u "java/lang/Math"), (1, .class_ 6), (1, u "java/lang/Object"), (0, u "<init>"), (0, u "()V"), (89, .class_ 100), (1, u "java/lang/Math$RandomNumberGeneratorHolder"), (71, u "negativeZeroFloatBits"), (0, u "J"), (2, u "negativeZeroDoubleBits"), (24, u "min"), (43, u "$assertionsDisabled"), (0, u "Z"), (88, u "(II)I"), (2, u "twoToTheDoubleScaleDown"), (0, u "D"), (4, u "twoToTheDoubleScaleUp"), (9, u "E"), (3, u "PI"), (2, u "TAU"), (2, u "DEGREES_TO_RADIANS"), (0, u "RADIANS_TO_DEGREES")] 94

def k3m0 : Method := { name := "<init>", desc := "()V", sig := { parameters := [], returnType := none }, accessFlags := 2, code := none }
def k3c1 : Code := { maxStack := 2, maxLocals := 2, code := jdk_29_method_69_code, exceptionTable := #[], attributes := #[] }
def k3m1 : Method := { name := "min", desc := "(II)I", sig := { parameters := [.int, .int], returnType := some .int }, accessFlags := 9, code := some k3c1 }
/-- java/lang/Math -/
def k3 : Class := { plain "java/lang/Math" (some 0) with
  accessFlags := 49
  interfaces := #[]
  cf := some (fileOf pool3 1 #[.nestMembers #[98]] #[{ accessFlags := 2, nameIndex := 7, descriptorIndex := 8, attributes := #[] }, { accessFlags := 9, nameIndex := 201, descriptorIndex := 335, attributes := #[] }] 49 4 #[] #[{ accessFlags := 25, nameIndex := 354, descriptorIndex := 339, attributes := #[] }, { accessFlags := 25, nameIndex := 358, descriptorIndex := 339, attributes := #[] }, { accessFlags := 25, nameIndex := 361, descriptorIndex := 339, attributes := #[] }, { accessFlags := 26, nameIndex := 364, descriptorIndex := 339, attributes := #[] }, { accessFlags := 26, nameIndex := 365, descriptorIndex := 339, attributes := #[] }, { accessFlags := 26, nameIndex := 172, descriptorIndex := 173, attributes := #[] }, { accessFlags := 26, nameIndex := 176, descriptorIndex := 173, attributes := #[] }, { accessFlags := 8, nameIndex := 344, descriptorIndex := 339, attributes := #[] }, { accessFlags := 8, nameIndex := 338, descriptorIndex := 339, attributes := #[] }, { accessFlags := 4120, nameIndex := 245, descriptorIndex := 246, attributes := #[] }])
  fields := #[{ name := "E", type := .double, accessFlags := 25, slot := 0, constantValue := 0 }, { name := "PI", type := .double, accessFlags := 25, slot := 1, constantValue := 0 }, { name := "TAU", type := .double, accessFlags := 25, slot := 2, constantValue := 0 }, { name := "DEGREES_TO_RADIANS", type := .double, accessFlags := 26, slot := 3, constantValue := 0 }, { name := "RADIANS_TO_DEGREES", type := .double, accessFlags := 26, slot := 4, constantValue := 0 }, { name := "negativeZeroFloatBits", type := .long, accessFlags := 26, slot := 5, constantValue := 0 }, { name := "negativeZeroDoubleBits", type := .long, accessFlags := 26, slot := 6, constantValue := 0 }, { name := "twoToTheDoubleScaleUp", type := .double, accessFlags := 8, slot := 7, constantValue := 0 }, { name := "twoToTheDoubleScaleDown", type := .double, accessFlags := 8, slot := 8, constantValue := 0 }, { name := "$assertionsDisabled", type := .boolean, accessFlags := 4120, slot := 9, constantValue := 0 }]
  methods := #[k3m0, k3m1]
  instanceTypes := #[]
  staticTypes := #[.double, .double, .double, .double, .double, .long, .long, .double, .double, .boolean]
  resolved := Array.replicate 460 none
  statics := none }

def pool4 : Array CpInfo := pool [(1, u "java/lang/Cloneable"), (0, .class_ 1), (0, u "java/lang/Object"), (0, .class_ 3)] 3

/-- java/lang/Cloneable -/
def k4 : Class := { plain "java/lang/Cloneable" (some 0) with
  accessFlags := 1537
  interfaces := #[]
  cf := some (fileOf pool4 2 #[] #[] 1537 4 #[] #[])
  fields := #[]
  methods := #[]
  instanceTypes := #[]
  staticTypes := #[]
  resolved := Array.replicate 8 none
  statics := none }

def pool5 : Array CpInfo := pool [(1, u "java/io/Serializable"), (0, .class_ 1), (0, u "java/lang/Object"), (0, .class_ 3)] 3

/-- java/io/Serializable -/
def k5 : Class := { plain "java/io/Serializable" (some 0) with
  accessFlags := 1537
  interfaces := #[]
  cf := some (fileOf pool5 2 #[] #[] 1537 4 #[] #[])
  fields := #[]
  methods := #[]
  instanceTypes := #[]
  staticTypes := #[]
  resolved := Array.replicate 8 none
  statics := none }

/-- the primitive byte -/
def k6 : Class := { plain "byte" none with kind := .primitive 'B', accessFlags := 0x411 }
/-- [B -/
def k7 : Class := { plain "[B" (some 0) with kind := .array 6 .byte, interfaces := #[4, 5], accessFlags := 1041 }

def heap : Heap := #[]
def classes : Array Class := #[k0, k1, k2, k3, k4, k5, k6, k7]
def interned : List (Array UInt16 × Addr) := []
def slotsUsed : Nat := 0
def theMethod : MethodId := ⟨1, 2⟩
def args0 : Array Value := #[.int 3, .int 4, .int 5, .int 6, .int 7, .int 8]
def aboutOver (below : List Frame) : State where
  vm := { classes := classes, interned := interned.toArray }
  heap := heap
  slotsUsed := slotsUsed
  threads := #[{ frames := .invoking theMethod args0 :: below }]
def below0 : List Frame := [.native { method := ⟨0, 0⟩, args := #[] }]
def about1 : State := aboutOver below0
def p0 : Program := .bare "" "" ""
def e0 : Env := launch0.env 0 0 0
theorem w_frames : about1.frames = Frame.invoking theMethod args0 :: below0 := rfl
set_option maxRecDepth 65536 in
theorem w_args : argsFit about1.vm theMethod args0 = true := by decide +kernel
set_option maxRecDepth 65536 in
theorem w_heap : heapFits about1 = true := by decide +kernel
set_option maxRecDepth 65536 in
theorem w_runnable : about1.curStatus? = some .runnable := by decide +kernel
set_option maxRecDepth 65536 in
theorem w_alone : about1.alone = true := by decide +kernel
set_option maxRecDepth 65536 in
theorem w_named : about1.methodNamed? x = some theMethod := by decide +kernel
set_option maxRecDepth 65536 in
theorem w_hears : about1.hears theMethod below0 = true := by decide +kernel
set_option maxRecDepth 65536 in
theorem w_ripe : about1.ripe theMethod args0 below0 = true := by decide +kernel
theorem w_running : about1.status = .running := rfl
set_option maxRecDepth 65536 in
theorem w_room : about1.hasRoom e0.platform room_1 = true :=
  launch0.hasRoom_least _ room_1 (by decide +kernel) (by decide +kernel) (by decide +kernel) (by decide +kernel) (by decide +kernel) (by decide +kernel)
theorem allAtoms_all (ts : List Jvm.Cond) (a : Array Jvm.Value) (st : Jvm.State) : (allAtoms ts).before a st = ts.all (fun c => c.before a st) := by
  induction ts with
  | nil => rfl
  | cons c t ih =>
    show (Jvm.Cond.and c (allAtoms t)).before a st = _
    rw [Jvm.Cond.before_and, ih, List.all_cons]
def words1 : List Jvm.Cond := Jvm.Cond.code x code maxLocals ret :: tables_1
/-- a 'code' word, met by the world's own term for the bytes: nothing is compared byte by byte -/
theorem code_word {y : MethodName} {bytes : ByteArray} {mx : Nat} {rt : Option FieldType} {a : Array Value} {s : State} {m : MethodId} {meth : Method} {c : Code} (h1 : s.methodNamed? y = some m) (h2 : s.vm.method? m = some meth) (h3 : meth.code = some c) (h4 : c.code = bytes)
    (h5 : (c.maxLocals == mx && c.exceptionTable.isEmpty && decide (c.maxStack ≤ mostOperands) && decide (meth.sig.returnType = rt) && !meth.locks && decide (parseMethodDescriptor y.desc = some meth.sig)) = true) : (Jvm.Cond.code y bytes mx rt).before a s = true := by
  simp only [Bool.and_eq_true, beq_iff_eq, Bool.not_eq_true', decide_eq_true_eq] at h5
  obtain ⟨⟨⟨⟨⟨g1, g2⟩, g3⟩, g4⟩, g5⟩, g6⟩ := h5
  simp [Cond.before, Cond.holds, Cond.value, h1, h2, h3, h4, g1, g2, g3, g4, g5, g6]
def isCode : Jvm.Cond → Bool
  | .code _ _ _ _ => true
  | _ => false
theorem all_split {L : List Jvm.Cond} {P : Jvm.Cond → Bool} (h1 : L.all (fun c => isCode c || P c) = true) (h2 : ∀ c ∈ L.filter isCode, P c = true) : L.all P = true := by
  refine List.all_eq_true.mpr fun c hc => ?_
  have h := List.all_eq_true.mp h1 c hc
  rcases Bool.eq_false_or_eq_true (isCode c) with hi | hi
  · exact h2 c (List.mem_filter.mpr ⟨hc, hi⟩)
  · simpa [hi] using h
set_option maxRecDepth 65536 in
theorem w_c0 : (Jvm.Cond.code x code maxLocals ret).before args0 about1 = true := code_word (m := ⟨1, 2⟩) (meth := k1m2) (c := k1c2) (by decide +kernel) rfl rfl rfl (by decide +kernel)
set_option maxRecDepth 65536 in
theorem w_c1 : (Jvm.Cond.code ({ cls := "com/example/psyche/psyche/XmlChars", name := "sequenceLength", desc := "([BII)I" } : Jvm.MethodName) prog_171_method_20_code (9 : Nat) (Option.some Jvm.ClassFile.FieldType.int)).before args0 about1 = true := code_word (m := ⟨2, 1⟩) (meth := k2m1) (c := k2c1) (by decide +kernel) rfl rfl rfl (by decide +kernel)
set_option maxRecDepth 65536 in
theorem w_c2 : (Jvm.Cond.code ({ cls := "java/lang/Math", name := "min", desc := "(II)I" } : Jvm.MethodName) jdk_29_method_69_code (2 : Nat) (Option.some Jvm.ClassFile.FieldType.int)).before args0 about1 = true := code_word (m := ⟨3, 1⟩) (meth := k3m1) (c := k3c1) (by decide +kernel) rfl rfl rfl (by decide +kernel)
set_option maxRecDepth 65536 in
theorem w_c3 : (Jvm.Cond.code ({ cls := "com/example/psyche/psyche/XmlCharsSequenceLengthPinLaw", name := "compose", desc := "(IIIII)I" } : Jvm.MethodName) method_2_code (5 : Nat) (Option.some Jvm.ClassFile.FieldType.int)).before args0 about1 = true := code_word (m := ⟨1, 1⟩) (meth := k1m1) (c := k1c1) (by decide +kernel) rfl rfl rfl (by decide +kernel)
def codes1 : List Jvm.Cond := [Jvm.Cond.code x code maxLocals ret, Jvm.Cond.code ({ cls := "com/example/psyche/psyche/XmlChars", name := "sequenceLength", desc := "([BII)I" } : Jvm.MethodName) prog_171_method_20_code (9 : Nat) (Option.some Jvm.ClassFile.FieldType.int), Jvm.Cond.code ({ cls := "java/lang/Math", name := "min", desc := "(II)I" } : Jvm.MethodName) jdk_29_method_69_code (2 : Nat) (Option.some Jvm.ClassFile.FieldType.int), Jvm.Cond.code ({ cls := "com/example/psyche/psyche/XmlCharsSequenceLengthPinLaw", name := "compose", desc := "(IIIII)I" } : Jvm.MethodName) method_2_code (5 : Nat) (Option.some Jvm.ClassFile.FieldType.int)]
set_option maxRecDepth 65536 in
theorem codes_eq : words1.filter isCode = codes1 := rfl
theorem w_codes : ∀ c ∈ words1.filter isCode, c.before args0 about1 = true := by
  rw [codes_eq]
  intro c hc
  simp only [codes1, List.mem_cons, List.not_mem_nil, or_false] at hc
  rcases hc with rfl | rfl | rfl | rfl
  · exact w_c0
  · exact w_c1
  · exact w_c2
  · exact w_c3
set_option maxRecDepth 65536 in
theorem w_t1 : words1.all (fun c => isCode c || c.before args0 about1) = true := by decide +kernel
theorem w_tables : (allAtoms (Jvm.Cond.code x code maxLocals ret :: tables_1)).before args0 about1 = true := by
  rw [allAtoms_all]
  show words1.all (fun c => c.before args0 about1) = true
  refine all_split ?_ w_codes
  rw [w_t1]
set_option maxRecDepth 65536 in
theorem w_case : (Jvm.Cond.and given_1 narrow_1).before args0 about1 = true := by decide +kernel
theorem w_applies : (headSpec (Jvm.Cond.code x code maxLocals ret :: tables_1) room_1).applies x e0.platform about1 = true :=
  (Spec.applies_iff w_frames).mpr ⟨w_running, w_runnable, w_alone, w_named, w_hears, w_ripe, w_room, w_tables⟩
theorem atStart : AtStart classFile x code maxLocals ret World_1 tables_1 room_1 Calls_1 rest_1 Pre_1 launch0 p0 e0 about1 theMethod args0 below0 :=
  ⟨lists_1, trivial, launch0.admits_env _ _ _, launch0.least_env, fairChoices_fair.cas, fairChoices_fair.clock, w_frames, w_args, w_heap, w_applies, trivial, trivial, w_case⟩
end start1
theorem witness_1 : WitnessClaimed_1 := ⟨start1.p0, start1.e0, start1.about1, start1.theMethod, start1.args0, start1.below0, start1.atStart⟩
end Jvm.Pilot.@@N@@
