import JvmDerived
import JvmDerived.Pilot.@@N@@Statement
import JvmDerived.Pilot.@@N@@Code
set_option linter.unusedVariables false
set_option linter.unusedSimpArgs false
namespace Jvm.RoadKit
open Sem ClassFile Op Lib Jvm.Stand Jvm.Free Jvm.LawKit
section New
variable {p : Program} {l : Launch} {e : Env} {R : Room} {s : State} {m : MethodId} {args : Array Value} {below : List Frame} {meth : Method} {c : Code} {T : State} {locs : List Loc} {cells slots : Nat}
theorem retI (X : Stand p l e R s m args below meth c T locs cells slots) (hx : p.tables.exec = Jvm.exec) {pc : Nat} {Ls : Array Slot} {z : Int32} {rest : List Value} (hret : meth.sig.returnType = some .int) (hd : decode c.code pc = .ok (.ireturn, 1)) {fs : List Frame}
    (hl : ∀ (f : JFrame) (acts : List Action), f.method = m → f.locked = none → f.entered = [] → (doReturn e (T.setTop f) acts (some (.int z))).1 = T.setFrames fs) : Steps p.tables e below (T.setTop (mkF m pc Ls (.int z :: rest))) (T.setFrames fs) := by
  have hm' : T.vm.method? m = some meth := X.method'
  have hn : narrow .int (.int z) = .int z := rfl
  show Steps p.tables e below (T.setTop { method := m, pc := pc, locals := Ls, stack := _ :: rest, locked := none }) _
  jvm_step X.here [X.here.top, hx, hd, hm', hret, hn]
  first | (intro acts; rw [hl _ acts rfl rfl rfl]) | rw [hl _ _ rfl rfl rfl]
  exact Steps.refl _
theorem own_lremM {g : JFrame} {target : State} (X : Stand p l e R s m args below meth c T locs cells slots) (hx : p.tables.exec = Jvm.exec) (hg : g.method = m) {x y : Int64} {rest : List Value} (hd : decode c.code g.pc = .ok (.lrem, 1)) (hs : g.stack = .long y :: .long x :: rest) (hy : y ≠ 0)
    (hr : Steps p.tables e below (T.setTop { g with pc := g.pc + 1, stack := .long (x % y) :: rest }) target) : Steps p.tables e below (T.setTop g) target :=
  XS.lrem X.here hx hg hd hs hy (by rw [lrem_mod]; exact hr)
end New
/-- from the state A the run comes to a state that P describes -/
def own_Lead (tb : Tables) (e : Env) (below : List Frame) (A : State) (P : State → Prop) : Prop := ∃ B, P B ∧ ∀ t, Steps tb e below B t → Steps tb e below A t
theorem own_st {tb : Tables} {e : Env} {below : List Frame} {A B : State} {P : State → Prop} (st : ∀ t, Steps tb e below B t → Steps tb e below A t) (h : own_Lead tb e below B P) : own_Lead tb e below A P := by
  obtain ⟨C, hp, hs⟩ := h
  exact ⟨C, hp, fun t k => st t (hs t k)⟩
theorem own_fin {tb : Tables} {e : Env} {below : List Frame} {A B : State} {P : State → Prop} (st : Steps tb e below A B) (h : P B) : own_Lead tb e below A P := ⟨B, h, fun t k => st.trans k⟩
theorem own_run {tb : Tables} {e : Env} {below : List Frame} {A : State} {K : State → Outcome → Prop} (h : own_Lead tb e below A (fun B => ∃ o, K B o)) : ∃ s₂ o, Steps tb e below A s₂ ∧ K s₂ o := by
  obtain ⟨B, ⟨o, hk⟩, st⟩ := h
  exact ⟨B, o, st B (Steps.refl _), hk⟩
/-- the array at a has n places, the i-th holds g i -/
def own_RayJ (Z : State) (h : Heap) (a : Addr) (n : Nat) (g : Nat → Int64) : Prop := ∃ c : Cell, Arr Z h a c .long ∧ c.slots.size = n ∧ ∀ i, i < n → c.slots[i]? = some (Value.long (g i))
theorem own_RayJ.ext {Z : State} {h h' : Heap} {a : Addr} {n : Nat} {g : Nat → Int64} (F : own_RayJ Z h a n g) (E : Ext h h') : own_RayJ Z h' a n g := by obtain ⟨c, A, r⟩ := F; exact ⟨c, A.ext E, r⟩
theorem own_RayJ.other {Z : State} {h h' : Heap} {a b : Addr} {n sl : Nat} {v : Value} {g : Nat → Int64} (F : own_RayJ Z h b n g) (W : Wr h h' a sl v) (q : b ≠ a) : own_RayJ Z h' b n g := by obtain ⟨c, A, r⟩ := F; exact ⟨c, A.other W q, r⟩
theorem own_RayJ.keep {Z : State} {h h' : Heap} {a : Addr} {n : Nat} {ws : List Addr} {g : Nat → Int64} (F : own_RayJ Z h a n g) (K : Keep h h' ws) (q : a ∉ ws) : own_RayJ Z h' a n g := by obtain ⟨c, A, r⟩ := F; exact ⟨c, ⟨K.2.1 a c A.1 q, A.2⟩, r⟩
theorem own_RayJ.lt {Z : State} {h : Heap} {a : Addr} {n : Nat} {g : Nat → Int64} (F : own_RayJ Z h a n g) : a < h.size := by obtain ⟨c, A, r⟩ := F; exact A.lt
theorem own_RayJ.cast {Z : State} {h : Heap} {a : Addr} {n : Nat} {g g' : Nat → Int64} (e : g = g') (F : own_RayJ Z h a n g) : own_RayJ Z h a n g' := e ▸ F
theorem own_RayJ_new {Z : State} {h : Heap} {a : Addr} {k : ClassId} {z : Int32} {n : Nat} (A : Arr Z h a (newA k .long z) .long) (q : ¬ z < 0) (e : z.toNatClampNeg = n) : own_RayJ Z h a n (fun _ => (0 : Int64)) := by
  obtain ⟨c, A', -, S, -, H, -⟩ := Arv.new A q
  refine ⟨c, A', S.trans e, fun i hi => ?_⟩
  have := H i (by rw [S, e]; exact hi)
  first | exact this | simpa [defaultValue] using this
theorem own_RayJ_set {Z : State} {h h' : Heap} {a : Addr} {n k : Nat} {g : Nat → Int64} {j : Int32} {v : Int64} (F : own_RayJ Z h a n g) (W : Wr h h' a j.toNatClampNeg (Value.long v)) (e : j.toNatClampNeg = k) : own_RayJ Z h' a n (fun i => if i = k then v else g i) := by
  obtain ⟨c, A, S, H⟩ := F
  refine ⟨_, A.same W, by first | exact (sz_set _ _ _).trans S | simp [Cell.setSlot, S], fun i hi => ?_⟩
  show (c.slots.setIfInBounds j.toNatClampNeg (Value.long v))[i]? = _
  rw [Array.getElem?_setIfInBounds, e]
  by_cases hk : k = i
  · subst hk
    simp [S, hi]
  · have := H i hi
    simp [hk, Ne.symm hk, this]
theorem own_RayJ_nth {c : Cell} {n : Nat} {g : Nat → Int64} {j : Int32} (H : ∀ i, i < n → c.slots[i]? = some (Value.long (g i))) (S : c.slots.size = n) (hin : ¬ (j < 0 ∨ c.slots.size ≤ j.toNatClampNeg)) : c.slots[j.toNatClampNeg]? = some (Value.long (g j.toNatClampNeg)) :=
  (H _ (S ▸ Nat.lt_of_not_le fun q => hin (Or.inr q)))
section Copy
variable {p : Program} {l : Launch} {e : Env} {R : Room} {s : State} {m : MethodId} {args : Array Value} {below : List Frame} {meth : Method} {c : Code} {T : State} {locs : List Loc} {cells slots : Nat} {Z : State} {h : Heap} {a b : Addr}
end Copy
theorem own_inb {c : Cell} {n : Nat} {j : Int32} (S : c.slots.size = n) (q : ¬ j < 0 ∧ j.toNatClampNeg < n) : ¬ (j < 0 ∨ c.slots.size ≤ j.toNatClampNeg) := fun w => w.elim q.1 fun z => absurd q.2 (Nat.not_lt.mpr (S ▸ z))
section Cold
variable {p : Program} {l : Launch} {e : Env} {R : Room} {s : State} {vm0 : Vm} {m : MethodId} {args : Array Value} {below : List Frame} {meth : Method} {c : Code} {T : State} {locs : List Loc} {cells slots : Nat} {Z : State} {a0 : Array Value} {h : Heap}
end Cold
end Jvm.RoadKit
namespace Jvm.Pilot.@@N@@
open Jvm Jvm.ClassFile Sem Op Lib Jvm.Free Jvm.Stand Jvm.LawKit Jvm.RoadKit Bundle Jvm.Pilot.@@N@@.Jvm.D
theorem own_pn0 : plainName "com/example/evenkeel/evenkeel/ProviderArraysOwnerPinLaw" = true := by first | (simp [plainName, overriddenIn]; done) | decide +kernel
theorem own_d1_0 : decode method_3_code 0 = .ok (.lload 10, 2) := by decide +kernel
theorem own_d1_2 : decode method_3_code 2 = .ok (.lload_n 0, 1) := by decide +kernel
theorem own_d1_3 : decode method_3_code 3 = .ok (.lcmp, 1) := by decide +kernel
theorem own_d1_4 : decode method_3_code 4 = .ok (.ifCond .ge 5, 3) := by decide +kernel
theorem own_d1_7 : decode method_3_code 7 = .ok (.iconst 0, 1) := by decide +kernel
theorem own_d1_8 : decode method_3_code 8 = .ok (.ireturn, 1) := by decide +kernel
theorem own_d1_9 : decode method_3_code 9 = .ok (.lload 10, 2) := by decide +kernel
theorem own_d1_11 : decode method_3_code 11 = .ok (.lload_n 2, 1) := by decide +kernel
theorem own_d1_12 : decode method_3_code 12 = .ok (.lcmp, 1) := by decide +kernel
theorem own_d1_13 : decode method_3_code 13 = .ok (.ifCond .ge 5, 3) := by decide +kernel
theorem own_d1_16 : decode method_3_code 16 = .ok (.iconst 1, 1) := by decide +kernel
theorem own_d1_17 : decode method_3_code 17 = .ok (.ireturn, 1) := by decide +kernel
theorem own_d1_18 : decode method_3_code 18 = .ok (.lload 10, 2) := by decide +kernel
theorem own_d1_20 : decode method_3_code 20 = .ok (.lload 4, 2) := by decide +kernel
theorem own_d1_22 : decode method_3_code 22 = .ok (.lcmp, 1) := by decide +kernel
theorem own_d1_23 : decode method_3_code 23 = .ok (.ifCond .ge 5, 3) := by decide +kernel
theorem own_d1_26 : decode method_3_code 26 = .ok (.iconst 2, 1) := by decide +kernel
theorem own_d1_27 : decode method_3_code 27 = .ok (.ireturn, 1) := by decide +kernel
theorem own_d1_28 : decode method_3_code 28 = .ok (.lload 10, 2) := by decide +kernel
theorem own_d1_30 : decode method_3_code 30 = .ok (.lload 6, 2) := by decide +kernel
theorem own_d1_32 : decode method_3_code 32 = .ok (.lcmp, 1) := by decide +kernel
theorem own_d1_33 : decode method_3_code 33 = .ok (.ifCond .ge 5, 3) := by decide +kernel
theorem own_d1_36 : decode method_3_code 36 = .ok (.iconst 3, 1) := by decide +kernel
theorem own_d1_37 : decode method_3_code 37 = .ok (.ireturn, 1) := by decide +kernel
theorem own_d1_38 : decode method_3_code 38 = .ok (.lload 10, 2) := by decide +kernel
theorem own_d1_40 : decode method_3_code 40 = .ok (.lload 8, 2) := by decide +kernel
theorem own_d1_42 : decode method_3_code 42 = .ok (.lcmp, 1) := by decide +kernel
theorem own_d1_43 : decode method_3_code 43 = .ok (.ifCond .ge 5, 3) := by decide +kernel
theorem own_d1_46 : decode method_3_code 46 = .ok (.iconst 4, 1) := by decide +kernel
theorem own_d1_47 : decode method_3_code 47 = .ok (.ireturn, 1) := by decide +kernel
theorem own_d1_48 : decode method_3_code 48 = .ok (.iconst 5, 1) := by decide +kernel
theorem own_d1_49 : decode method_3_code 49 = .ok (.ireturn, 1) := by decide +kernel
theorem own_ef1 (m : MethodId) (q0 : Int64) (q1 : Int64) (q2 : Int64) (q3 : Int64) (q4 : Int64) (q5 : Int64) : entryFrame m #[(.long q0), (.long q1), (.long q2), (.long q3), (.long q4), (.long q5)] 12 = mkF m 0 #[.val (.long q0), .second, .val (.long q1), .second, .val (.long q2), .second, .val (.long q3), .second, .val (.long q4), .second, .val (.long q5), .second] [] := by first | (simp [entryFrame, mkF, argsToLocals, Value.category]; done) | rfl
def own_Q1 (Z : State) (q0 : Int64) (q1 : Int64) (q2 : Int64) (q3 : Int64) (q4 : Int64) (q5 : Int64) (h0 : Heap) (n0 : Nat) (v : Option Value) (h : Heap) (L : List Loc) : Prop := (v = some (.int (if q5 < q0 then (0 : Int32) else (if q5 < q1 then (1 : Int32) else (if q5 < q2 then (2 : Int32) else (if q5 < q3 then (3 : Int32) else (if q5 < q4 then (4 : Int32) else (5 : Int32)))))))) ∧ (Fr n0 L) ∧ (h = h0)
set_option maxRecDepth 65536 in
set_option maxHeartbeats 40000000 in
theorem own_rm1 (l : Launch) (Z : State) (a0 : Array Value) (hw : ∀ d ∈ tables_1, d.before a0 Z = true) (ws : List Jvm.Cond) (q0 : Int64) (q1 : Int64) (q2 : Int64) (q3 : Int64) (q4 : Int64) (q5 : Int64) (h0 : Heap) (n0 : Nat) (Z0 : n0 ≤ h0.size) :
    MetFree l (⟨"com/example/evenkeel/evenkeel/ProviderArraysOwnerPinLaw", "reference", "(JJJJJJ)I"⟩ : MethodName) (head1 (Jvm.Cond.code (⟨"com/example/evenkeel/evenkeel/ProviderArraysOwnerPinLaw", "reference", "(JJJJJJ)I"⟩ : MethodName) method_3_code 12 (some .int) :: ws) ({ frames := 0, cells := 0, slots := 0, locals := 0 } : Room)) (fun a U => a = #[(.long q0), (.long q1), (.long q2), (.long q3), (.long q4), (.long q5)] ∧ Z.Warmed39 U.vm ∧ U.heap = h0) (fun _ _ _ _ _ => True) (fun _ U o U' => ∃ v L, o = .returned v ∧ own_Q1 Z q0 q1 q2 q3 q4 q5 h0 n0 v U'.heap L ∧ FrameEnd U o U' L ({ frames := 0, cells := 0, slots := 0, locals := 0 } : Room).cells ({ frames := 0, cells := 0, slots := 0, locals := 0 } : Room).slots) := by
  refine MetFree.of_bodySF (plainFor_of_name own_pn0) hisR ?_
  intro p e s m args below meth c s₁ Bd hml0 hP hK
  obtain ⟨rfl, hZ, hh⟩ := hP
  have hx := Bd.exec
  have hby := Bd.bytes
  have hml : c.maxLocals = 12 := hml0
  have hown : s.vm.findClass "com/example/evenkeel/evenkeel/ProviderArraysOwnerPinLaw" = some m.cls := findClass_of_methodNamed Bd.named
  have hnm := (name_of_methodNamed Bd.named Bd.method).1
  have X0 : Stand p l e ({ frames := 0, cells := 0, slots := 0, locals := 0 } : Room) s m #[(.long q0), (.long q1), (.long q2), (.long q3), (.long q4), (.long q5)] below meth c s₁ [] 0 0 := Stand.of_body Bd
  have e0 : s₁.heap = h0 := by rw [← hh, Bd.state]; rfl
  have N0 := Fr.nil n0
  have pre0 : ∀ t, Steps p.tables e below (s₁.setTop (mkF m 0 #[.val (.long q0), .second, .val (.long q1), .second, .val (.long q2), .second, .val (.long q3), .second, .val (.long q4), .second, .val (.long q5), .second] [])) t → Steps p.tables e below (s₁.setTop (entryFrame m #[(.long q0), (.long q1), (.long q2), (.long q3), (.long q4), (.long q5)] 12)) t := fun t k => castTop (own_ef1 m q0 q1 q2 q3 q4 q5) k
  refine own_run (own_st pre0 ?_)
  refine own_st (B := s₁.setTop (mkF m 4 #[.val (.long q0), .second, .val (.long q1), .second, .val (.long q2), .second, .val (.long q3), .second, .val (.long q4), .second, .val (.long q5), .second] [(.int (lcmpW q5 q0))])) (fun target kt => ?_) ?_
  · show Steps p.tables e below (s₁.setTop (mkF m 0 #[.val (.long q0), .second, .val (.long q1), .second, .val (.long q2), .second, .val (.long q3), .second, .val (.long q4), .second, .val (.long q5), .second] [])) target
    refine XS.lload X0.here hx rfl (hb hby own_d1_0) rfl ?_
    show Steps p.tables e below (s₁.setTop (mkF m 2 #[.val (.long q0), .second, .val (.long q1), .second, .val (.long q2), .second, .val (.long q3), .second, .val (.long q4), .second, .val (.long q5), .second] [(.long q5)])) target
    refine XS.lloadN X0.here hx rfl (hb hby own_d1_2) rfl ?_
    show Steps p.tables e below (s₁.setTop (mkF m 3 #[.val (.long q0), .second, .val (.long q1), .second, .val (.long q2), .second, .val (.long q3), .second, .val (.long q4), .second, .val (.long q5), .second] [(.long q0), (.long q5)])) target
    refine XS.lcmp X0.here hx rfl (hb hby own_d1_3) rfl ?_
    exact kt
  by_cases c4 : q5 < q0
  · refine own_st (B := s₁.setTop (mkF m 8 #[.val (.long q0), .second, .val (.long q1), .second, .val (.long q2), .second, .val (.long q3), .second, .val (.long q4), .second, .val (.long q5), .second] [(.int (0 : Int32))])) (fun target kt => ?_) ?_
    · show Steps p.tables e below (s₁.setTop (mkF m 4 #[.val (.long q0), .second, .val (.long q1), .second, .val (.long q2), .second, .val (.long q3), .second, .val (.long q4), .second, .val (.long q5), .second] [(.int (lcmpW q5 q0))])) target
      refine XS.ifNo X0.here hx rfl (hb hby own_d1_4) rfl ((if0 _ _).trans (tlt ((lw_lt q5 q0).mpr c4)).2.1) ?_
      show Steps p.tables e below (s₁.setTop (mkF m 7 #[.val (.long q0), .second, .val (.long q1), .second, .val (.long q2), .second, .val (.long q3), .second, .val (.long q4), .second, .val (.long q5), .second] [])) target
      refine XS.iconst X0.here hx rfl (hb hby own_d1_7) ?_
      exact kt
    obtain ⟨fs, hr, hrun, hended, hW, hsame⟩ := X0.leave (v := some (.int (0 : Int32))) (fun h => by rw [Bd.returns] at h; cases h)
    have hend : Steps p.tables e below (s₁.setTop (mkF m 8 #[.val (.long q0), .second, .val (.long q1), .second, .val (.long q2), .second, .val (.long q3), .second, .val (.long q4), .second, .val (.long q5), .second] [(.int (0 : Int32))])) (s₁.setFrames fs) := by
      exact retI X0 hx Bd.returns (hb hby own_d1_8) hr
    refine own_fin hend ⟨_, hrun, hended, _, _, rfl, ?_, ⟨_, rfl⟩, hW, hsame.mono (by decide) (by decide)⟩
    show own_Q1 Z q0 q1 q2 q3 q4 q5 h0 n0 _ s₁.heap _
    rw [e0]
    exact ⟨(congrArg (fun z => some (Value.int z)) (if_pos c4).symm), N0, rfl⟩
  · refine own_st (B := s₁.setTop (mkF m 13 #[.val (.long q0), .second, .val (.long q1), .second, .val (.long q2), .second, .val (.long q3), .second, .val (.long q4), .second, .val (.long q5), .second] [(.int (lcmpW q5 q1))])) (fun target kt => ?_) ?_
    · show Steps p.tables e below (s₁.setTop (mkF m 4 #[.val (.long q0), .second, .val (.long q1), .second, .val (.long q2), .second, .val (.long q3), .second, .val (.long q4), .second, .val (.long q5), .second] [(.int (lcmpW q5 q0))])) target
      refine XS.ifYes X0.here hx rfl (pc0 := 4) (pc' := 9) rfl (hb hby own_d1_4) rfl ((if0 _ _).trans (flt (fun q => c4 ((lw_lt q5 q0).mp q))).2.1) (by decide) (by decide) ?_
      show Steps p.tables e below (s₁.setTop (mkF m 9 #[.val (.long q0), .second, .val (.long q1), .second, .val (.long q2), .second, .val (.long q3), .second, .val (.long q4), .second, .val (.long q5), .second] [])) target
      refine XS.lload X0.here hx rfl (hb hby own_d1_9) rfl ?_
      show Steps p.tables e below (s₁.setTop (mkF m 11 #[.val (.long q0), .second, .val (.long q1), .second, .val (.long q2), .second, .val (.long q3), .second, .val (.long q4), .second, .val (.long q5), .second] [(.long q5)])) target
      refine XS.lloadN X0.here hx rfl (hb hby own_d1_11) rfl ?_
      show Steps p.tables e below (s₁.setTop (mkF m 12 #[.val (.long q0), .second, .val (.long q1), .second, .val (.long q2), .second, .val (.long q3), .second, .val (.long q4), .second, .val (.long q5), .second] [(.long q1), (.long q5)])) target
      refine XS.lcmp X0.here hx rfl (hb hby own_d1_12) rfl ?_
      exact kt
    by_cases c13 : q5 < q1
    · refine own_st (B := s₁.setTop (mkF m 17 #[.val (.long q0), .second, .val (.long q1), .second, .val (.long q2), .second, .val (.long q3), .second, .val (.long q4), .second, .val (.long q5), .second] [(.int (1 : Int32))])) (fun target kt => ?_) ?_
      · show Steps p.tables e below (s₁.setTop (mkF m 13 #[.val (.long q0), .second, .val (.long q1), .second, .val (.long q2), .second, .val (.long q3), .second, .val (.long q4), .second, .val (.long q5), .second] [(.int (lcmpW q5 q1))])) target
        refine XS.ifNo X0.here hx rfl (hb hby own_d1_13) rfl ((if0 _ _).trans (tlt ((lw_lt q5 q1).mpr c13)).2.1) ?_
        show Steps p.tables e below (s₁.setTop (mkF m 16 #[.val (.long q0), .second, .val (.long q1), .second, .val (.long q2), .second, .val (.long q3), .second, .val (.long q4), .second, .val (.long q5), .second] [])) target
        refine XS.iconst X0.here hx rfl (hb hby own_d1_16) ?_
        exact kt
      obtain ⟨fs, hr, hrun, hended, hW, hsame⟩ := X0.leave (v := some (.int (1 : Int32))) (fun h => by rw [Bd.returns] at h; cases h)
      have hend : Steps p.tables e below (s₁.setTop (mkF m 17 #[.val (.long q0), .second, .val (.long q1), .second, .val (.long q2), .second, .val (.long q3), .second, .val (.long q4), .second, .val (.long q5), .second] [(.int (1 : Int32))])) (s₁.setFrames fs) := by
        exact retI X0 hx Bd.returns (hb hby own_d1_17) hr
      refine own_fin hend ⟨_, hrun, hended, _, _, rfl, ?_, ⟨_, rfl⟩, hW, hsame.mono (by decide) (by decide)⟩
      show own_Q1 Z q0 q1 q2 q3 q4 q5 h0 n0 _ s₁.heap _
      rw [e0]
      exact ⟨(congrArg (fun z => some (Value.int z)) (Eq.trans (if_pos c13).symm (if_neg c4).symm)), N0, rfl⟩
    · refine own_st (B := s₁.setTop (mkF m 23 #[.val (.long q0), .second, .val (.long q1), .second, .val (.long q2), .second, .val (.long q3), .second, .val (.long q4), .second, .val (.long q5), .second] [(.int (lcmpW q5 q2))])) (fun target kt => ?_) ?_
      · show Steps p.tables e below (s₁.setTop (mkF m 13 #[.val (.long q0), .second, .val (.long q1), .second, .val (.long q2), .second, .val (.long q3), .second, .val (.long q4), .second, .val (.long q5), .second] [(.int (lcmpW q5 q1))])) target
        refine XS.ifYes X0.here hx rfl (pc0 := 13) (pc' := 18) rfl (hb hby own_d1_13) rfl ((if0 _ _).trans (flt (fun q => c13 ((lw_lt q5 q1).mp q))).2.1) (by decide) (by decide) ?_
        show Steps p.tables e below (s₁.setTop (mkF m 18 #[.val (.long q0), .second, .val (.long q1), .second, .val (.long q2), .second, .val (.long q3), .second, .val (.long q4), .second, .val (.long q5), .second] [])) target
        refine XS.lload X0.here hx rfl (hb hby own_d1_18) rfl ?_
        show Steps p.tables e below (s₁.setTop (mkF m 20 #[.val (.long q0), .second, .val (.long q1), .second, .val (.long q2), .second, .val (.long q3), .second, .val (.long q4), .second, .val (.long q5), .second] [(.long q5)])) target
        refine XS.lload X0.here hx rfl (hb hby own_d1_20) rfl ?_
        show Steps p.tables e below (s₁.setTop (mkF m 22 #[.val (.long q0), .second, .val (.long q1), .second, .val (.long q2), .second, .val (.long q3), .second, .val (.long q4), .second, .val (.long q5), .second] [(.long q2), (.long q5)])) target
        refine XS.lcmp X0.here hx rfl (hb hby own_d1_22) rfl ?_
        exact kt
      by_cases c23 : q5 < q2
      · refine own_st (B := s₁.setTop (mkF m 27 #[.val (.long q0), .second, .val (.long q1), .second, .val (.long q2), .second, .val (.long q3), .second, .val (.long q4), .second, .val (.long q5), .second] [(.int (2 : Int32))])) (fun target kt => ?_) ?_
        · show Steps p.tables e below (s₁.setTop (mkF m 23 #[.val (.long q0), .second, .val (.long q1), .second, .val (.long q2), .second, .val (.long q3), .second, .val (.long q4), .second, .val (.long q5), .second] [(.int (lcmpW q5 q2))])) target
          refine XS.ifNo X0.here hx rfl (hb hby own_d1_23) rfl ((if0 _ _).trans (tlt ((lw_lt q5 q2).mpr c23)).2.1) ?_
          show Steps p.tables e below (s₁.setTop (mkF m 26 #[.val (.long q0), .second, .val (.long q1), .second, .val (.long q2), .second, .val (.long q3), .second, .val (.long q4), .second, .val (.long q5), .second] [])) target
          refine XS.iconst X0.here hx rfl (hb hby own_d1_26) ?_
          exact kt
        obtain ⟨fs, hr, hrun, hended, hW, hsame⟩ := X0.leave (v := some (.int (2 : Int32))) (fun h => by rw [Bd.returns] at h; cases h)
        have hend : Steps p.tables e below (s₁.setTop (mkF m 27 #[.val (.long q0), .second, .val (.long q1), .second, .val (.long q2), .second, .val (.long q3), .second, .val (.long q4), .second, .val (.long q5), .second] [(.int (2 : Int32))])) (s₁.setFrames fs) := by
          exact retI X0 hx Bd.returns (hb hby own_d1_27) hr
        refine own_fin hend ⟨_, hrun, hended, _, _, rfl, ?_, ⟨_, rfl⟩, hW, hsame.mono (by decide) (by decide)⟩
        show own_Q1 Z q0 q1 q2 q3 q4 q5 h0 n0 _ s₁.heap _
        rw [e0]
        exact ⟨(congrArg (fun z => some (Value.int z)) (Eq.trans (Eq.trans (if_pos c23).symm (if_neg c13).symm) (if_neg c4).symm)), N0, rfl⟩
      · refine own_st (B := s₁.setTop (mkF m 33 #[.val (.long q0), .second, .val (.long q1), .second, .val (.long q2), .second, .val (.long q3), .second, .val (.long q4), .second, .val (.long q5), .second] [(.int (lcmpW q5 q3))])) (fun target kt => ?_) ?_
        · show Steps p.tables e below (s₁.setTop (mkF m 23 #[.val (.long q0), .second, .val (.long q1), .second, .val (.long q2), .second, .val (.long q3), .second, .val (.long q4), .second, .val (.long q5), .second] [(.int (lcmpW q5 q2))])) target
          refine XS.ifYes X0.here hx rfl (pc0 := 23) (pc' := 28) rfl (hb hby own_d1_23) rfl ((if0 _ _).trans (flt (fun q => c23 ((lw_lt q5 q2).mp q))).2.1) (by decide) (by decide) ?_
          show Steps p.tables e below (s₁.setTop (mkF m 28 #[.val (.long q0), .second, .val (.long q1), .second, .val (.long q2), .second, .val (.long q3), .second, .val (.long q4), .second, .val (.long q5), .second] [])) target
          refine XS.lload X0.here hx rfl (hb hby own_d1_28) rfl ?_
          show Steps p.tables e below (s₁.setTop (mkF m 30 #[.val (.long q0), .second, .val (.long q1), .second, .val (.long q2), .second, .val (.long q3), .second, .val (.long q4), .second, .val (.long q5), .second] [(.long q5)])) target
          refine XS.lload X0.here hx rfl (hb hby own_d1_30) rfl ?_
          show Steps p.tables e below (s₁.setTop (mkF m 32 #[.val (.long q0), .second, .val (.long q1), .second, .val (.long q2), .second, .val (.long q3), .second, .val (.long q4), .second, .val (.long q5), .second] [(.long q3), (.long q5)])) target
          refine XS.lcmp X0.here hx rfl (hb hby own_d1_32) rfl ?_
          exact kt
        by_cases c33 : q5 < q3
        · refine own_st (B := s₁.setTop (mkF m 37 #[.val (.long q0), .second, .val (.long q1), .second, .val (.long q2), .second, .val (.long q3), .second, .val (.long q4), .second, .val (.long q5), .second] [(.int (3 : Int32))])) (fun target kt => ?_) ?_
          · show Steps p.tables e below (s₁.setTop (mkF m 33 #[.val (.long q0), .second, .val (.long q1), .second, .val (.long q2), .second, .val (.long q3), .second, .val (.long q4), .second, .val (.long q5), .second] [(.int (lcmpW q5 q3))])) target
            refine XS.ifNo X0.here hx rfl (hb hby own_d1_33) rfl ((if0 _ _).trans (tlt ((lw_lt q5 q3).mpr c33)).2.1) ?_
            show Steps p.tables e below (s₁.setTop (mkF m 36 #[.val (.long q0), .second, .val (.long q1), .second, .val (.long q2), .second, .val (.long q3), .second, .val (.long q4), .second, .val (.long q5), .second] [])) target
            refine XS.iconst X0.here hx rfl (hb hby own_d1_36) ?_
            exact kt
          obtain ⟨fs, hr, hrun, hended, hW, hsame⟩ := X0.leave (v := some (.int (3 : Int32))) (fun h => by rw [Bd.returns] at h; cases h)
          have hend : Steps p.tables e below (s₁.setTop (mkF m 37 #[.val (.long q0), .second, .val (.long q1), .second, .val (.long q2), .second, .val (.long q3), .second, .val (.long q4), .second, .val (.long q5), .second] [(.int (3 : Int32))])) (s₁.setFrames fs) := by
            exact retI X0 hx Bd.returns (hb hby own_d1_37) hr
          refine own_fin hend ⟨_, hrun, hended, _, _, rfl, ?_, ⟨_, rfl⟩, hW, hsame.mono (by decide) (by decide)⟩
          show own_Q1 Z q0 q1 q2 q3 q4 q5 h0 n0 _ s₁.heap _
          rw [e0]
          exact ⟨(congrArg (fun z => some (Value.int z)) (Eq.trans (Eq.trans (Eq.trans (if_pos c33).symm (if_neg c23).symm) (if_neg c13).symm) (if_neg c4).symm)), N0, rfl⟩
        · refine own_st (B := s₁.setTop (mkF m 43 #[.val (.long q0), .second, .val (.long q1), .second, .val (.long q2), .second, .val (.long q3), .second, .val (.long q4), .second, .val (.long q5), .second] [(.int (lcmpW q5 q4))])) (fun target kt => ?_) ?_
          · show Steps p.tables e below (s₁.setTop (mkF m 33 #[.val (.long q0), .second, .val (.long q1), .second, .val (.long q2), .second, .val (.long q3), .second, .val (.long q4), .second, .val (.long q5), .second] [(.int (lcmpW q5 q3))])) target
            refine XS.ifYes X0.here hx rfl (pc0 := 33) (pc' := 38) rfl (hb hby own_d1_33) rfl ((if0 _ _).trans (flt (fun q => c33 ((lw_lt q5 q3).mp q))).2.1) (by decide) (by decide) ?_
            show Steps p.tables e below (s₁.setTop (mkF m 38 #[.val (.long q0), .second, .val (.long q1), .second, .val (.long q2), .second, .val (.long q3), .second, .val (.long q4), .second, .val (.long q5), .second] [])) target
            refine XS.lload X0.here hx rfl (hb hby own_d1_38) rfl ?_
            show Steps p.tables e below (s₁.setTop (mkF m 40 #[.val (.long q0), .second, .val (.long q1), .second, .val (.long q2), .second, .val (.long q3), .second, .val (.long q4), .second, .val (.long q5), .second] [(.long q5)])) target
            refine XS.lload X0.here hx rfl (hb hby own_d1_40) rfl ?_
            show Steps p.tables e below (s₁.setTop (mkF m 42 #[.val (.long q0), .second, .val (.long q1), .second, .val (.long q2), .second, .val (.long q3), .second, .val (.long q4), .second, .val (.long q5), .second] [(.long q4), (.long q5)])) target
            refine XS.lcmp X0.here hx rfl (hb hby own_d1_42) rfl ?_
            exact kt
          by_cases c43 : q5 < q4
          · refine own_st (B := s₁.setTop (mkF m 47 #[.val (.long q0), .second, .val (.long q1), .second, .val (.long q2), .second, .val (.long q3), .second, .val (.long q4), .second, .val (.long q5), .second] [(.int (4 : Int32))])) (fun target kt => ?_) ?_
            · show Steps p.tables e below (s₁.setTop (mkF m 43 #[.val (.long q0), .second, .val (.long q1), .second, .val (.long q2), .second, .val (.long q3), .second, .val (.long q4), .second, .val (.long q5), .second] [(.int (lcmpW q5 q4))])) target
              refine XS.ifNo X0.here hx rfl (hb hby own_d1_43) rfl ((if0 _ _).trans (tlt ((lw_lt q5 q4).mpr c43)).2.1) ?_
              show Steps p.tables e below (s₁.setTop (mkF m 46 #[.val (.long q0), .second, .val (.long q1), .second, .val (.long q2), .second, .val (.long q3), .second, .val (.long q4), .second, .val (.long q5), .second] [])) target
              refine XS.iconst X0.here hx rfl (hb hby own_d1_46) ?_
              exact kt
            obtain ⟨fs, hr, hrun, hended, hW, hsame⟩ := X0.leave (v := some (.int (4 : Int32))) (fun h => by rw [Bd.returns] at h; cases h)
            have hend : Steps p.tables e below (s₁.setTop (mkF m 47 #[.val (.long q0), .second, .val (.long q1), .second, .val (.long q2), .second, .val (.long q3), .second, .val (.long q4), .second, .val (.long q5), .second] [(.int (4 : Int32))])) (s₁.setFrames fs) := by
              exact retI X0 hx Bd.returns (hb hby own_d1_47) hr
            refine own_fin hend ⟨_, hrun, hended, _, _, rfl, ?_, ⟨_, rfl⟩, hW, hsame.mono (by decide) (by decide)⟩
            show own_Q1 Z q0 q1 q2 q3 q4 q5 h0 n0 _ s₁.heap _
            rw [e0]
            exact ⟨(congrArg (fun z => some (Value.int z)) (Eq.trans (Eq.trans (Eq.trans (Eq.trans (if_pos c43).symm (if_neg c33).symm) (if_neg c23).symm) (if_neg c13).symm) (if_neg c4).symm)), N0, rfl⟩
          · refine own_st (B := s₁.setTop (mkF m 49 #[.val (.long q0), .second, .val (.long q1), .second, .val (.long q2), .second, .val (.long q3), .second, .val (.long q4), .second, .val (.long q5), .second] [(.int (5 : Int32))])) (fun target kt => ?_) ?_
            · show Steps p.tables e below (s₁.setTop (mkF m 43 #[.val (.long q0), .second, .val (.long q1), .second, .val (.long q2), .second, .val (.long q3), .second, .val (.long q4), .second, .val (.long q5), .second] [(.int (lcmpW q5 q4))])) target
              refine XS.ifYes X0.here hx rfl (pc0 := 43) (pc' := 48) rfl (hb hby own_d1_43) rfl ((if0 _ _).trans (flt (fun q => c43 ((lw_lt q5 q4).mp q))).2.1) (by decide) (by decide) ?_
              show Steps p.tables e below (s₁.setTop (mkF m 48 #[.val (.long q0), .second, .val (.long q1), .second, .val (.long q2), .second, .val (.long q3), .second, .val (.long q4), .second, .val (.long q5), .second] [])) target
              refine XS.iconst X0.here hx rfl (hb hby own_d1_48) ?_
              exact kt
            obtain ⟨fs, hr, hrun, hended, hW, hsame⟩ := X0.leave (v := some (.int (5 : Int32))) (fun h => by rw [Bd.returns] at h; cases h)
            have hend : Steps p.tables e below (s₁.setTop (mkF m 49 #[.val (.long q0), .second, .val (.long q1), .second, .val (.long q2), .second, .val (.long q3), .second, .val (.long q4), .second, .val (.long q5), .second] [(.int (5 : Int32))])) (s₁.setFrames fs) := by
              exact retI X0 hx Bd.returns (hb hby own_d1_49) hr
            refine own_fin hend ⟨_, hrun, hended, _, _, rfl, ?_, ⟨_, rfl⟩, hW, hsame.mono (by decide) (by decide)⟩
            show own_Q1 Z q0 q1 q2 q3 q4 q5 h0 n0 _ s₁.heap _
            rw [e0]
            exact ⟨(congrArg (fun z => some (Value.int z)) (Eq.trans (Eq.trans (Eq.trans (Eq.trans (if_neg c43).symm (if_neg c33).symm) (if_neg c23).symm) (if_neg c13).symm) (if_neg c4).symm)), N0, rfl⟩
/-- where the search stands: r is among the x6 places from x5 on -/
def own_inv (r x5 x6 : Int32) : Prop := 0 ≤ x5.toInt ∧ 1 ≤ x6.toInt ∧ x5.toInt + x6.toInt ≤ 6 ∧ x5.toInt ≤ r.toInt ∧ r.toInt < x5.toInt + x6.toInt
theorem own_half (x : Int32) (h : 0 ≤ x.toInt) : ((x.toUInt32 >>> ((1 : Int32) &&& 31).toUInt32).toInt32).toInt = x.toInt / 2 := by
  have h1 := c_iushr x 1 1 (by decide) (by decide)
  rw [h1]
  have h2 := rng32 x
  omega
theorem own_idx (r x5 x6 h : Int32) (I : own_inv r x5 x6) (h1 : (1 : Int32) < x6) (hh : h.toInt = x6.toInt / 2) :
    ((x5 + h) - (1 : Int32)).toInt = x5.toInt + x6.toInt / 2 - 1 ∧ (x5 + h).toInt = x5.toInt + x6.toInt / 2 ∧ (x6 - h).toInt = x6.toInt - x6.toInt / 2 := by
  obtain ⟨i1, i2, i3, i4, i5⟩ := I
  have k1 := c_iadd x5 h
  have k2 := c_isub (x5 + h) 1
  have k3 := c_isub x6 h
  have e1 : (1 : Int32).toInt = 1 := by decide
  have r1 := rng32 (x5 + h)
  have r2 := rng32 ((x5 + h) - 1)
  have r3 := rng32 (x6 - h)
  rw [Int32.lt_iff_toInt_lt, e1] at h1
  rw [e1] at k2
  refine ⟨?_, ?_, ?_⟩ <;> omega
theorem own_natC (j : Int32) (n : Nat) (h : 0 ≤ j.toInt) (h2 : j.toInt < n) : ¬ j < 0 ∧ j.toNatClampNeg < n := by
  have e0 : (0 : Int32).toInt = 0 := by decide
  refine ⟨?_, ?_⟩
  · rw [Int32.lt_iff_toInt_lt, e0]
    omega
  · have : j.toNatClampNeg = j.toInt.toNat := rfl
    rw [this]
    omega
theorem own_turn (r x5 x6 h : Int32) (q : Int64) (g : Nat → Int64) (I : own_inv r x5 x6) (h1 : (1 : Int32) < x6) (hh : h.toInt = x6.toInt / 2)
    (g1 : ∀ i : Nat, (i : Int) < r.toInt → ¬ q < g i) (g2 : ∀ i : Nat, r.toInt ≤ (i : Int) → i < 6 → q < g i) (y : Int32)
    (hy : y = (if q < (g ((x5 + h) - (1 : Int32)).toNatClampNeg) then x5 else (x5 + h))) : own_inv r y (x6 - h) ∧ (x6 - h).toInt < x6.toInt := by
  obtain ⟨j1, j2, j3⟩ := own_idx r x5 x6 h I h1 hh
  obtain ⟨i1, i2, i3, i4, i5⟩ := I
  have e1 : (1 : Int32).toInt = 1 := by decide
  rw [Int32.lt_iff_toInt_lt, e1] at h1
  have hN : (((x5 + h) - (1 : Int32)).toNatClampNeg : Int) = x5.toInt + x6.toInt / 2 - 1 := by
    have : ((x5 + h) - (1 : Int32)).toNatClampNeg = ((x5 + h) - (1 : Int32)).toInt.toNat := rfl
    rw [this, j1]
    omega
  refine ⟨?_, by omega⟩
  by_cases hc : q < (g ((x5 + h) - (1 : Int32)).toNatClampNeg)
  · rw [if_pos hc] at hy
    have hr : r.toInt ≤ x5.toInt + x6.toInt / 2 - 1 := by
      apply Classical.byContradiction
      intro hn
      exact g1 _ (by rw [hN]; omega) hc
    rw [hy]
    refine ⟨?_, ?_, ?_, ?_, ?_⟩ <;> omega
  · rw [if_neg hc] at hy
    have hr : x5.toInt + x6.toInt / 2 ≤ r.toInt := by
      apply Classical.byContradiction
      intro hn
      exact hc (g2 _ (by rw [hN]; omega) (by omega))
    rw [hy]
    refine ⟨?_, ?_, ?_, ?_, ?_⟩ <;> omega
theorem own_d2_10 : decode prog_66_method_11_code 10 = .ok (.iload 6, 2) := by decide +kernel
theorem own_d2_12 : decode prog_66_method_11_code 12 = .ok (.iconst 1, 1) := by decide +kernel
theorem own_d2_13 : decode prog_66_method_11_code 13 = .ok (.if_icmp .le 45, 3) := by decide +kernel
theorem own_d2_16 : decode prog_66_method_11_code 16 = .ok (.iload 6, 2) := by decide +kernel
theorem own_d2_18 : decode prog_66_method_11_code 18 = .ok (.iconst 1, 1) := by decide +kernel
theorem own_d2_19 : decode prog_66_method_11_code 19 = .ok (.iushr, 1) := by decide +kernel
theorem own_d2_20 : decode prog_66_method_11_code 20 = .ok (.istore 7, 2) := by decide +kernel
theorem own_d2_22 : decode prog_66_method_11_code 22 = .ok (.aload_n 0, 1) := by decide +kernel
theorem own_d2_23 : decode prog_66_method_11_code 23 = .ok (.iload 5, 2) := by decide +kernel
theorem own_d2_25 : decode prog_66_method_11_code 25 = .ok (.iload 7, 2) := by decide +kernel
theorem own_d2_27 : decode prog_66_method_11_code 27 = .ok (.iadd, 1) := by decide +kernel
theorem own_d2_28 : decode prog_66_method_11_code 28 = .ok (.iconst 1, 1) := by decide +kernel
theorem own_d2_29 : decode prog_66_method_11_code 29 = .ok (.isub, 1) := by decide +kernel
theorem own_d2_30 : decode prog_66_method_11_code 30 = .ok (.laload, 1) := by decide +kernel
theorem own_d2_31 : decode prog_66_method_11_code 31 = .ok (.lload_n 3, 1) := by decide +kernel
theorem own_d2_32 : decode prog_66_method_11_code 32 = .ok (.lcmp, 1) := by decide +kernel
theorem own_d2_33 : decode prog_66_method_11_code 33 = .ok (.ifCond .gt 11, 3) := by decide +kernel
theorem own_d2_36 : decode prog_66_method_11_code 36 = .ok (.iload 5, 2) := by decide +kernel
theorem own_d2_38 : decode prog_66_method_11_code 38 = .ok (.iload 7, 2) := by decide +kernel
theorem own_d2_40 : decode prog_66_method_11_code 40 = .ok (.iadd, 1) := by decide +kernel
theorem own_d2_41 : decode prog_66_method_11_code 41 = .ok (.goto 5, 3) := by decide +kernel
theorem own_d2_44 : decode prog_66_method_11_code 44 = .ok (.iload 5, 2) := by decide +kernel
theorem own_d2_46 : decode prog_66_method_11_code 46 = .ok (.istore 5, 2) := by decide +kernel
theorem own_d2_48 : decode prog_66_method_11_code 48 = .ok (.iload 6, 2) := by decide +kernel
theorem own_d2_50 : decode prog_66_method_11_code 50 = .ok (.iload 7, 2) := by decide +kernel
theorem own_d2_52 : decode prog_66_method_11_code 52 = .ok (.isub, 1) := by decide +kernel
theorem own_d2_53 : decode prog_66_method_11_code 53 = .ok (.istore 6, 2) := by decide +kernel
theorem own_d2_55 : decode prog_66_method_11_code 55 = .ok (.goto (-45), 3) := by decide +kernel
set_option maxRecDepth 65536 in
set_option maxHeartbeats 40000000 in
theorem own_loop {p : Program} {l : Launch} {e : Env} {R : Room} {s : State} {m : MethodId} {args : Array Value} {below : List Frame} {meth : Method} {c : Code} {Z : State} {a0 : Array Value} {h0 : Heap} (r0 : Addr) (p1 p2 : Int32) (q3 : Int64) (r : Int32) (g : Nat → Int64) (R_r0 : own_RayJ Z h0 r0 6 g)
    (hx : p.tables.exec = Jvm.exec) (hZ : Z.Warmed39 s.vm) (hw : ∀ d ∈ tables_1, d.before a0 Z = true) (hby : c.code = prog_66_method_11_code) (hg1 : ∀ i : Nat, (i : Int) < r.toInt → ¬ q3 < g i) (hg2 : ∀ i : Nat, r.toInt ≤ (i : Int) → i < 6 → q3 < g i) :
    ∀ (k : Nat) (T0 : State) (x5 x6 : Int32) (x7 : Slot), One x7 → x6.toInt ≤ k → own_inv r x5 x6 → Stand p l e R s m args below meth c T0 [] 0 0 → T0.heap = h0 → own_Lead p.tables e below (T0.setTop (mkF m 10 #[.val (.ref r0), .val (.int p1), .val (.int p2), .val (.long q3), .second, .val (.int x5), .val (.int x6), x7] [])) (fun B => ∃ (y6 : Int32) (y7 : Slot), B = T0.setTop (mkF m 58 #[.val (.ref r0), .val (.int p1), .val (.int p2), .val (.long q3), .second, .val (.int r), .val (.int y6), y7] [])) := by
  intro k
  induction k with
  | zero => intro T0 x5 x6 x7 hOx7 hk hI X1 e1; exact absurd hI.2.1 (by omega)
  | succ k ih =>
    intro T0 x5 x6 x7 hOx7 hk hI X1 e1
    refine own_st (B := T0.setTop (mkF m 13 #[.val (.ref r0), .val (.int p1), .val (.int p2), .val (.long q3), .second, .val (.int x5), .val (.int x6), x7] [(.int (1 : Int32)), (.int x6)])) (fun target kt => ?_) ?_
    · show Steps p.tables e below (T0.setTop (mkF m 10 #[.val (.ref r0), .val (.int p1), .val (.int p2), .val (.long q3), .second, .val (.int x5), .val (.int x6), x7] [])) target
      refine XS.iload X1.here hx rfl (hb hby own_d2_10) rfl ?_
      show Steps p.tables e below (T0.setTop (mkF m 12 #[.val (.ref r0), .val (.int p1), .val (.int p2), .val (.long q3), .second, .val (.int x5), .val (.int x6), x7] [(.int x6)])) target
      refine XS.iconst X1.here hx rfl (hb hby own_d2_12) ?_
      exact kt
    by_cases c13 : (1 : Int32) < x6
    · obtain ⟨v20, hv20⟩ : ∃ z : Int32, z = ((x6.toUInt32 >>> ((1 : Int32) &&& 31).toUInt32).toInt32) := ⟨_, rfl⟩
      refine own_st (B := T0.setTop (mkF m 20 #[.val (.ref r0), .val (.int p1), .val (.int p2), .val (.long q3), .second, .val (.int x5), .val (.int x6), x7] [(.int ((x6.toUInt32 >>> ((1 : Int32) &&& 31).toUInt32).toInt32))])) (fun target kt => ?_) ?_
      · show Steps p.tables e below (T0.setTop (mkF m 13 #[.val (.ref r0), .val (.int p1), .val (.int p2), .val (.long q3), .second, .val (.int x5), .val (.int x6), x7] [(.int (1 : Int32)), (.int x6)])) target
        refine XS.icmpNo X1.here hx rfl (hb hby own_d2_13) rfl (tlt c13).2.2.2 ?_
        show Steps p.tables e below (T0.setTop (mkF m 16 #[.val (.ref r0), .val (.int p1), .val (.int p2), .val (.long q3), .second, .val (.int x5), .val (.int x6), x7] [])) target
        refine XS.iload X1.here hx rfl (hb hby own_d2_16) rfl ?_
        show Steps p.tables e below (T0.setTop (mkF m 18 #[.val (.ref r0), .val (.int p1), .val (.int p2), .val (.long q3), .second, .val (.int x5), .val (.int x6), x7] [(.int x6)])) target
        refine XS.iconst X1.here hx rfl (hb hby own_d2_18) ?_
        show Steps p.tables e below (T0.setTop (mkF m 19 #[.val (.ref r0), .val (.int p1), .val (.int p2), .val (.long q3), .second, .val (.int x5), .val (.int x6), x7] [(.int (1 : Int32)), (.int x6)])) target
        refine XS.iushr X1.here hx rfl (hb hby own_d2_19) rfl ?_
        exact kt
      rw [← hv20]
      refine own_st (B := T0.setTop (mkF m 22 #[.val (.ref r0), .val (.int p1), .val (.int p2), .val (.long q3), .second, .val (.int x5), .val (.int x6), .val (.int v20)] [])) (fun target kt => ?_) ?_
      · show Steps p.tables e below (T0.setTop (mkF m 20 #[.val (.ref r0), .val (.int p1), .val (.int p2), .val (.long q3), .second, .val (.int x5), .val (.int x6), x7] [(.int v20)])) target
        refine XS.istoreS X1.here hx rfl (hb hby own_d2_20) rfl rfl hOx7 ?_
        exact kt
      have hH : v20.toInt = x6.toInt / 2 := by rw [hv20]; exact own_half x6 (by have := hI.2.1; omega)
      have hJ := own_idx r x5 x6 v20 hI c13 hH
      refine own_st (B := T0.setTop (mkF m 30 #[.val (.ref r0), .val (.int p1), .val (.int p2), .val (.long q3), .second, .val (.int x5), .val (.int x6), .val (.int v20)] [(.int ((x5 + v20) - (1 : Int32))), (.ref r0)])) (fun target kt => ?_) ?_
      · show Steps p.tables e below (T0.setTop (mkF m 22 #[.val (.ref r0), .val (.int p1), .val (.int p2), .val (.long q3), .second, .val (.int x5), .val (.int x6), .val (.int v20)] [])) target
        refine XS.aloadN X1.here hx rfl (hb hby own_d2_22) rfl rfl ?_
        show Steps p.tables e below (T0.setTop (mkF m 23 #[.val (.ref r0), .val (.int p1), .val (.int p2), .val (.long q3), .second, .val (.int x5), .val (.int x6), .val (.int v20)] [(.ref r0)])) target
        refine XS.iload X1.here hx rfl (hb hby own_d2_23) rfl ?_
        show Steps p.tables e below (T0.setTop (mkF m 25 #[.val (.ref r0), .val (.int p1), .val (.int p2), .val (.long q3), .second, .val (.int x5), .val (.int x6), .val (.int v20)] [(.int x5), (.ref r0)])) target
        refine XS.iload X1.here hx rfl (hb hby own_d2_25) rfl ?_
        show Steps p.tables e below (T0.setTop (mkF m 27 #[.val (.ref r0), .val (.int p1), .val (.int p2), .val (.long q3), .second, .val (.int x5), .val (.int x6), .val (.int v20)] [(.int v20), (.int x5), (.ref r0)])) target
        refine XS.iadd X1.here hx rfl (hb hby own_d2_27) rfl ?_
        show Steps p.tables e below (T0.setTop (mkF m 28 #[.val (.ref r0), .val (.int p1), .val (.int p2), .val (.long q3), .second, .val (.int x5), .val (.int x6), .val (.int v20)] [(.int (x5 + v20)), (.ref r0)])) target
        refine XS.iconst X1.here hx rfl (hb hby own_d2_28) ?_
        show Steps p.tables e below (T0.setTop (mkF m 29 #[.val (.ref r0), .val (.int p1), .val (.int p2), .val (.long q3), .second, .val (.int x5), .val (.int x6), .val (.int v20)] [(.int (1 : Int32)), (.int (x5 + v20)), (.ref r0)])) target
        refine XS.isub X1.here hx rfl (hb hby own_d2_29) rfl ?_
        exact kt
      obtain ⟨clg30, Arg30, Szg30, Atg30⟩ := id R_r0
      have hing30 : ¬ (((x5 + v20) - (1 : Int32)) < 0 ∨ clg30.slots.size ≤ (((x5 + v20) - (1 : Int32))).toNatClampNeg) := own_inb Szg30 (own_natC _ 6 (by rw [hJ.1]; have := hI.2.1; have := hI.1; have q1 := Int32.lt_iff_toInt_lt.mp c13; have q2 : (1 : Int32).toInt = 1 := (by decide); rw [q2] at q1; omega) (by rw [hJ.1]; have := hI.2.2.1; have := hI.2.1; omega))
      have hatg30 : clg30.slots[(((x5 + v20) - (1 : Int32))).toNatClampNeg]? = some (.long (g (((x5 + v20) - (1 : Int32))).toNatClampNeg)) := own_RayJ_nth Atg30 Szg30 hing30
      refine own_st (B := T0.setTop (mkF m 31 #[.val (.ref r0), .val (.int p1), .val (.int p2), .val (.long q3), .second, .val (.int x5), .val (.int x6), .val (.int v20)] [(.long (g (((x5 + v20) - (1 : Int32))).toNatClampNeg))])) (fun target kt => ?_) ?_
      · refine X1.laload hx (j := ((x5 + v20) - (1 : Int32))) (v := (.long (g (((x5 + v20) - (1 : Int32))).toNatClampNeg))) (by first | exact Arg30.1 | (rw [e1]; exact Arg30.1)) (State.isArrayOf_alike hZ.alike Arg30.2.1) Arg30.2.2 hing30 hatg30 (g := (mkF m 30 #[.val (.ref r0), .val (.int p1), .val (.int p2), .val (.long q3), .second, .val (.int x5), .val (.int x6), .val (.int v20)] [(.int ((x5 + v20) - (1 : Int32))), (.ref r0)])) rfl rfl (hb hby own_d2_30) _ ?_
        exact kt
      refine own_st (B := T0.setTop (mkF m 33 #[.val (.ref r0), .val (.int p1), .val (.int p2), .val (.long q3), .second, .val (.int x5), .val (.int x6), .val (.int v20)] [(.int (lcmpW (g (((x5 + v20) - (1 : Int32))).toNatClampNeg) q3))])) (fun target kt => ?_) ?_
      · show Steps p.tables e below (T0.setTop (mkF m 31 #[.val (.ref r0), .val (.int p1), .val (.int p2), .val (.long q3), .second, .val (.int x5), .val (.int x6), .val (.int v20)] [(.long (g (((x5 + v20) - (1 : Int32))).toNatClampNeg))])) target
        refine XS.lloadN X1.here hx rfl (hb hby own_d2_31) rfl ?_
        show Steps p.tables e below (T0.setTop (mkF m 32 #[.val (.ref r0), .val (.int p1), .val (.int p2), .val (.long q3), .second, .val (.int x5), .val (.int x6), .val (.int v20)] [(.long q3), (.long (g (((x5 + v20) - (1 : Int32))).toNatClampNeg))])) target
        refine XS.lcmp X1.here hx rfl (hb hby own_d2_32) rfl ?_
        exact kt
      obtain ⟨_, ⟨j46_s0, rfl, hj46_s0⟩, st_M46⟩ : own_Lead p.tables e below (T0.setTop (mkF m 33 #[.val (.ref r0), .val (.int p1), .val (.int p2), .val (.long q3), .second, .val (.int x5), .val (.int x6), .val (.int v20)] [(.int (lcmpW (g (((x5 + v20) - (1 : Int32))).toNatClampNeg) q3))])) (fun B => ∃ (j46_s0 : Int32), B = T0.setTop (mkF m 46 #[.val (.ref r0), .val (.int p1), .val (.int p2), .val (.long q3), .second, .val (.int x5), .val (.int x6), .val (.int v20)] [(.int j46_s0)]) ∧ j46_s0 = (if q3 < (g (((x5 + v20) - (1 : Int32))).toNatClampNeg) then x5 else (x5 + v20))) := by
        by_cases c33 : q3 < (g (((x5 + v20) - (1 : Int32))).toNatClampNeg)
        · refine own_st (B := T0.setTop (mkF m 46 #[.val (.ref r0), .val (.int p1), .val (.int p2), .val (.long q3), .second, .val (.int x5), .val (.int x6), .val (.int v20)] [(.int x5)])) (fun target kt => ?_) ?_
          · show Steps p.tables e below (T0.setTop (mkF m 33 #[.val (.ref r0), .val (.int p1), .val (.int p2), .val (.long q3), .second, .val (.int x5), .val (.int x6), .val (.int v20)] [(.int (lcmpW (g (((x5 + v20) - (1 : Int32))).toNatClampNeg) q3))])) target
            refine XS.ifYes X1.here hx rfl (pc0 := 33) (pc' := 44) rfl (hb hby own_d2_33) rfl ((if0 _ _).trans (tlt ((lw_gt (g (((x5 + v20) - (1 : Int32))).toNatClampNeg) q3).mpr c33)).2.2.1) (by decide) (by decide) ?_
            show Steps p.tables e below (T0.setTop (mkF m 44 #[.val (.ref r0), .val (.int p1), .val (.int p2), .val (.long q3), .second, .val (.int x5), .val (.int x6), .val (.int v20)] [])) target
            refine XS.iload X1.here hx rfl (hb hby own_d2_44) rfl ?_
            exact kt
          exact ⟨_, ⟨x5, rfl, (if_pos c33).symm⟩, fun _ k => k⟩
        · refine own_st (B := T0.setTop (mkF m 46 #[.val (.ref r0), .val (.int p1), .val (.int p2), .val (.long q3), .second, .val (.int x5), .val (.int x6), .val (.int v20)] [(.int (x5 + v20))])) (fun target kt => ?_) ?_
          · show Steps p.tables e below (T0.setTop (mkF m 33 #[.val (.ref r0), .val (.int p1), .val (.int p2), .val (.long q3), .second, .val (.int x5), .val (.int x6), .val (.int v20)] [(.int (lcmpW (g (((x5 + v20) - (1 : Int32))).toNatClampNeg) q3))])) target
            refine XS.ifNo X1.here hx rfl (hb hby own_d2_33) rfl ((if0 _ _).trans (flt (fun q => c33 ((lw_gt (g (((x5 + v20) - (1 : Int32))).toNatClampNeg) q3).mp q))).2.2.1) ?_
            show Steps p.tables e below (T0.setTop (mkF m 36 #[.val (.ref r0), .val (.int p1), .val (.int p2), .val (.long q3), .second, .val (.int x5), .val (.int x6), .val (.int v20)] [])) target
            refine XS.iload X1.here hx rfl (hb hby own_d2_36) rfl ?_
            show Steps p.tables e below (T0.setTop (mkF m 38 #[.val (.ref r0), .val (.int p1), .val (.int p2), .val (.long q3), .second, .val (.int x5), .val (.int x6), .val (.int v20)] [(.int x5)])) target
            refine XS.iload X1.here hx rfl (hb hby own_d2_38) rfl ?_
            show Steps p.tables e below (T0.setTop (mkF m 40 #[.val (.ref r0), .val (.int p1), .val (.int p2), .val (.long q3), .second, .val (.int x5), .val (.int x6), .val (.int v20)] [(.int v20), (.int x5)])) target
            refine XS.iadd X1.here hx rfl (hb hby own_d2_40) rfl ?_
            show Steps p.tables e below (T0.setTop (mkF m 41 #[.val (.ref r0), .val (.int p1), .val (.int p2), .val (.long q3), .second, .val (.int x5), .val (.int x6), .val (.int v20)] [(.int (x5 + v20))])) target
            refine XS.goto X1.here hx rfl (pc0 := 41) (pc' := 46) rfl (hb hby own_d2_41) (by decide) (by decide) ?_
            exact kt
          exact ⟨_, ⟨(x5 + v20), rfl, (if_neg c33).symm⟩, fun _ k => k⟩
      refine own_st st_M46 ?_
      obtain ⟨v53, hv53⟩ : ∃ z : Int32, z = (x6 - v20) := ⟨_, rfl⟩
      refine own_st (B := T0.setTop (mkF m 10 #[.val (.ref r0), .val (.int p1), .val (.int p2), .val (.long q3), .second, .val (.int j46_s0), .val (.int v53), .val (.int v20)] [])) (fun target kt => ?_) ?_
      · show Steps p.tables e below (T0.setTop (mkF m 46 #[.val (.ref r0), .val (.int p1), .val (.int p2), .val (.long q3), .second, .val (.int x5), .val (.int x6), .val (.int v20)] [(.int j46_s0)])) target
        refine XS.istore X1.here hx rfl (hb hby own_d2_46) rfl (l' := #[.val (.ref r0), .val (.int p1), .val (.int p2), .val (.long q3), .second, .val (.int j46_s0), .val (.int x6), .val (.int v20)]) rfl ?_
        show Steps p.tables e below (T0.setTop (mkF m 48 #[.val (.ref r0), .val (.int p1), .val (.int p2), .val (.long q3), .second, .val (.int j46_s0), .val (.int x6), .val (.int v20)] [])) target
        refine XS.iload X1.here hx rfl (hb hby own_d2_48) rfl ?_
        show Steps p.tables e below (T0.setTop (mkF m 50 #[.val (.ref r0), .val (.int p1), .val (.int p2), .val (.long q3), .second, .val (.int j46_s0), .val (.int x6), .val (.int v20)] [(.int x6)])) target
        refine XS.iload X1.here hx rfl (hb hby own_d2_50) rfl ?_
        show Steps p.tables e below (T0.setTop (mkF m 52 #[.val (.ref r0), .val (.int p1), .val (.int p2), .val (.long q3), .second, .val (.int j46_s0), .val (.int x6), .val (.int v20)] [(.int v20), (.int x6)])) target
        refine XS.isub X1.here hx rfl (hb hby own_d2_52) rfl ?_
        show Steps p.tables e below (T0.setTop (mkF m 53 #[.val (.ref r0), .val (.int p1), .val (.int p2), .val (.long q3), .second, .val (.int j46_s0), .val (.int x6), .val (.int v20)] [(.int (x6 - v20))])) target
        refine XS.istore X1.here hx rfl (hb hby own_d2_53) rfl (l' := #[.val (.ref r0), .val (.int p1), .val (.int p2), .val (.long q3), .second, .val (.int j46_s0), .val (.int v53), .val (.int v20)]) (by subst hv53; rfl) ?_
        show Steps p.tables e below (T0.setTop (mkF m 55 #[.val (.ref r0), .val (.int p1), .val (.int p2), .val (.long q3), .second, .val (.int j46_s0), .val (.int v53), .val (.int v20)] [])) target
        refine XS.goto X1.here hx rfl (pc0 := 55) (pc' := 10) rfl (hb hby own_d2_55) (by decide) (by decide) ?_
        exact kt
      have hT := own_turn r x5 x6 v20 q3 g hI c13 hH hg1 hg2 j46_s0 hj46_s0
      rw [← hv53] at hT
      exact ih T0 j46_s0 v53 (.val (.int v20)) (One.val rfl) (by have := hT.2; omega) hT.1 X1 e1
    · refine own_st (B := T0.setTop (mkF m 58 #[.val (.ref r0), .val (.int p1), .val (.int p2), .val (.long q3), .second, .val (.int x5), .val (.int x6), x7] [])) (fun target kt => ?_) ?_
      · show Steps p.tables e below (T0.setTop (mkF m 13 #[.val (.ref r0), .val (.int p1), .val (.int p2), .val (.long q3), .second, .val (.int x5), .val (.int x6), x7] [(.int (1 : Int32)), (.int x6)])) target
        refine XS.icmpYes X1.here hx rfl (pc0 := 13) (pc' := 58) rfl (hb hby own_d2_13) rfl (flt c13).2.2.2 (by decide) (by decide) ?_
        exact kt
      have hr : x5 = r := by
        obtain ⟨i1, i2, i3, i4, i5⟩ := hI
        have e1' : (1 : Int32).toInt = 1 := by decide
        have h1 := c13
        rw [Int32.lt_iff_toInt_lt, e1'] at h1
        rw [← Int32.toInt_inj]
        omega
      subst hr
      exact ⟨_, ⟨x6, x7, rfl⟩, fun _ k => k⟩
theorem own_pn1 : plainName "com/example/evenkeel/evenkeel/ProviderArrays" = true := by first | (simp [plainName, overriddenIn]; done) | decide +kernel
theorem own_d2_0 : decode prog_66_method_11_code 0 = .ok (.iload_n 1, 1) := by decide +kernel
theorem own_d2_1 : decode prog_66_method_11_code 1 = .ok (.istore 5, 2) := by decide +kernel
theorem own_d2_3 : decode prog_66_method_11_code 3 = .ok (.iload_n 2, 1) := by decide +kernel
theorem own_d2_4 : decode prog_66_method_11_code 4 = .ok (.iload_n 1, 1) := by decide +kernel
theorem own_d2_5 : decode prog_66_method_11_code 5 = .ok (.isub, 1) := by decide +kernel
theorem own_d2_6 : decode prog_66_method_11_code 6 = .ok (.iconst 1, 1) := by decide +kernel
theorem own_d2_7 : decode prog_66_method_11_code 7 = .ok (.iadd, 1) := by decide +kernel
theorem own_d2_8 : decode prog_66_method_11_code 8 = .ok (.istore 6, 2) := by decide +kernel
theorem own_d2_58 : decode prog_66_method_11_code 58 = .ok (.iload 5, 2) := by decide +kernel
theorem own_d2_60 : decode prog_66_method_11_code 60 = .ok (.ireturn, 1) := by decide +kernel
theorem own_ef2 (m : MethodId) (r0 : Addr) (p1 : Int32) (p2 : Int32) (q3 : Int64) : entryFrame m #[(.ref r0), (.int p1), (.int p2), (.long q3)] 8 = mkF m 0 #[.val (.ref r0), .val (.int p1), .val (.int p2), .val (.long q3), .second, .unset, .unset, .unset] [] := by first | (simp [entryFrame, mkF, argsToLocals, Value.category]; done) | rfl
def own_Q2 (Z : State) (r0 : Addr) (p1 : Int32) (p2 : Int32) (q3 : Int64) (r : Int32) (g : Nat → Int64) (h0 : Heap) (n0 : Nat) (v : Option Value) (h : Heap) (L : List Loc) : Prop := (v = some (.int r)) ∧ (Fr n0 L) ∧ (h = h0)
set_option maxRecDepth 65536 in
set_option maxHeartbeats 40000000 in
theorem own_rm2 (l : Launch) (Z : State) (a0 : Array Value) (hw : ∀ d ∈ tables_1, d.before a0 Z = true) (ws : List Jvm.Cond) (r0 : Addr) (p1 : Int32) (p2 : Int32) (q3 : Int64) (r : Int32) (g : Nat → Int64) (h0 : Heap) (n0 : Nat) (Z0 : n0 ≤ h0.size) (R_r0 : own_RayJ Z h0 r0 6 g) (hlow : 0 ≤ p1.toInt ∧ p1.toInt ≤ r.toInt) (hhigh : r.toInt ≤ p2.toInt ∧ p2.toInt < 6) (hg1 : ∀ i : Nat, (i : Int) < r.toInt → ¬ q3 < g i) (hg2 : ∀ i : Nat, r.toInt ≤ (i : Int) → i < 6 → q3 < g i) :
    MetFree l (⟨"com/example/evenkeel/evenkeel/ProviderArrays", "owner", "([JIIJ)I"⟩ : MethodName) (head1 (Jvm.Cond.code (⟨"com/example/evenkeel/evenkeel/ProviderArrays", "owner", "([JIIJ)I"⟩ : MethodName) prog_66_method_11_code 8 (some .int) :: ws) ({ frames := 0, cells := 0, slots := 0, locals := 0 } : Room)) (fun a U => a = #[(.ref r0), (.int p1), (.int p2), (.long q3)] ∧ Z.Warmed39 U.vm ∧ U.heap = h0) (fun _ _ _ _ _ => True) (fun _ U o U' => ∃ v L, o = .returned v ∧ own_Q2 Z r0 p1 p2 q3 r g h0 n0 v U'.heap L ∧ FrameEnd U o U' L ({ frames := 0, cells := 0, slots := 0, locals := 0 } : Room).cells ({ frames := 0, cells := 0, slots := 0, locals := 0 } : Room).slots) := by
  refine MetFree.of_bodySF (plainFor_of_name own_pn1) hisR ?_
  intro p e s m args below meth c s₁ Bd hml0 hP hK
  obtain ⟨rfl, hZ, hh⟩ := hP
  have hx := Bd.exec
  have hby := Bd.bytes
  have hml : c.maxLocals = 8 := hml0
  have hown : s.vm.findClass "com/example/evenkeel/evenkeel/ProviderArrays" = some m.cls := findClass_of_methodNamed Bd.named
  have hnm := (name_of_methodNamed Bd.named Bd.method).1
  have X0 : Stand p l e ({ frames := 0, cells := 0, slots := 0, locals := 0 } : Room) s m #[(.ref r0), (.int p1), (.int p2), (.long q3)] below meth c s₁ [] 0 0 := Stand.of_body Bd
  have e0 : s₁.heap = h0 := by rw [← hh, Bd.state]; rfl
  have N0 := Fr.nil n0
  have pre0 : ∀ t, Steps p.tables e below (s₁.setTop (mkF m 0 #[.val (.ref r0), .val (.int p1), .val (.int p2), .val (.long q3), .second, .unset, .unset, .unset] [])) t → Steps p.tables e below (s₁.setTop (entryFrame m #[(.ref r0), (.int p1), (.int p2), (.long q3)] 8)) t := fun t k => castTop (own_ef2 m r0 p1 p2 q3) k
  refine own_run (own_st pre0 ?_)
  obtain ⟨v8, hv8⟩ : ∃ z : Int32, z = ((p2 - p1) + (1 : Int32)) := ⟨_, rfl⟩
  refine own_st (B := s₁.setTop (mkF m 10 #[.val (.ref r0), .val (.int p1), .val (.int p2), .val (.long q3), .second, .val (.int p1), .val (.int v8), .unset] [])) (fun target kt => ?_) ?_
  · show Steps p.tables e below (s₁.setTop (mkF m 0 #[.val (.ref r0), .val (.int p1), .val (.int p2), .val (.long q3), .second, .unset, .unset, .unset] [])) target
    refine XS.iloadN X0.here hx rfl (hb hby own_d2_0) rfl ?_
    show Steps p.tables e below (s₁.setTop (mkF m 1 #[.val (.ref r0), .val (.int p1), .val (.int p2), .val (.long q3), .second, .unset, .unset, .unset] [(.int p1)])) target
    refine XS.istore X0.here hx rfl (hb hby own_d2_1) rfl (l' := #[.val (.ref r0), .val (.int p1), .val (.int p2), .val (.long q3), .second, .val (.int p1), .unset, .unset]) rfl ?_
    show Steps p.tables e below (s₁.setTop (mkF m 3 #[.val (.ref r0), .val (.int p1), .val (.int p2), .val (.long q3), .second, .val (.int p1), .unset, .unset] [])) target
    refine XS.iloadN X0.here hx rfl (hb hby own_d2_3) rfl ?_
    show Steps p.tables e below (s₁.setTop (mkF m 4 #[.val (.ref r0), .val (.int p1), .val (.int p2), .val (.long q3), .second, .val (.int p1), .unset, .unset] [(.int p2)])) target
    refine XS.iloadN X0.here hx rfl (hb hby own_d2_4) rfl ?_
    show Steps p.tables e below (s₁.setTop (mkF m 5 #[.val (.ref r0), .val (.int p1), .val (.int p2), .val (.long q3), .second, .val (.int p1), .unset, .unset] [(.int p1), (.int p2)])) target
    refine XS.isub X0.here hx rfl (hb hby own_d2_5) rfl ?_
    show Steps p.tables e below (s₁.setTop (mkF m 6 #[.val (.ref r0), .val (.int p1), .val (.int p2), .val (.long q3), .second, .val (.int p1), .unset, .unset] [(.int (p2 - p1))])) target
    refine XS.iconst X0.here hx rfl (hb hby own_d2_6) ?_
    show Steps p.tables e below (s₁.setTop (mkF m 7 #[.val (.ref r0), .val (.int p1), .val (.int p2), .val (.long q3), .second, .val (.int p1), .unset, .unset] [(.int (1 : Int32)), (.int (p2 - p1))])) target
    refine XS.iadd X0.here hx rfl (hb hby own_d2_7) rfl ?_
    show Steps p.tables e below (s₁.setTop (mkF m 8 #[.val (.ref r0), .val (.int p1), .val (.int p2), .val (.long q3), .second, .val (.int p1), .unset, .unset] [(.int ((p2 - p1) + (1 : Int32)))])) target
    refine XS.istore X0.here hx rfl (hb hby own_d2_8) rfl (l' := #[.val (.ref r0), .val (.int p1), .val (.int p2), .val (.long q3), .second, .val (.int p1), .val (.int v8), .unset]) (by subst hv8; rfl) ?_
    exact kt
  have hc8 : v8.toInt = p2.toInt - p1.toInt + 1 := by
    have k1 := c_isub p2 p1
    have k2 := c_iadd (p2 - p1) 1
    have e1' : (1 : Int32).toInt = 1 := by decide
    have r1 := rng32 (p2 - p1)
    have r2 := rng32 (p2 - p1 + 1)
    rw [e1'] at k2
    rw [hv8]
    omega
  obtain ⟨_, ⟨y6, y7, rfl⟩, stL⟩ := own_loop r0 p1 p2 q3 r g R_r0 hx hZ hw hby hg1 hg2 6 s₁ p1 v8 .unset One.u (by omega) ⟨by omega, by omega, by omega, by omega, by omega⟩ X0 e0
  refine own_st stL ?_
  refine own_st (B := s₁.setTop (mkF m 60 #[.val (.ref r0), .val (.int p1), .val (.int p2), .val (.long q3), .second, .val (.int r), .val (.int y6), y7] [(.int r)])) (fun target kt => ?_) ?_
  · show Steps p.tables e below (s₁.setTop (mkF m 58 #[.val (.ref r0), .val (.int p1), .val (.int p2), .val (.long q3), .second, .val (.int r), .val (.int y6), y7] [])) target
    refine XS.iload X0.here hx rfl (hb hby own_d2_58) rfl ?_
    exact kt
  obtain ⟨fs, hr, hrun, hended, hW, hsame⟩ := X0.leave (v := some (.int r)) (fun h => by rw [Bd.returns] at h; cases h)
  have hend : Steps p.tables e below (s₁.setTop (mkF m 60 #[.val (.ref r0), .val (.int p1), .val (.int p2), .val (.long q3), .second, .val (.int r), .val (.int y6), y7] [(.int r)])) (s₁.setFrames fs) := by
    exact retI X0 hx Bd.returns (hb hby own_d2_60) hr
  refine own_fin hend ⟨_, hrun, hended, _, _, rfl, ?_, ⟨_, rfl⟩, hW, hsame.mono (by decide) (by decide)⟩
  show own_Q2 Z r0 p1 p2 q3 r g h0 n0 _ s₁.heap _
  rw [e0]
  subst hv8
  exact ⟨(congrArg (fun z => some (Value.int z)) rfl), N0, rfl⟩
theorem own_m31 (x : Int64) : 0 ≤ (x &&& (2147483647 : Int64)).toInt ∧ (x &&& (2147483647 : Int64)).toInt < 2147483648 := by
  rw [c_maskL x 2147483647 31 (by decide) (by decide)]
  omega
theorem own_add31 (a x : Int64) (h0 : 0 ≤ a.toInt) (h1 : a.toInt < 1099511627776) : a.toInt ≤ (a + (x &&& (2147483647 : Int64))).toInt ∧ (a + (x &&& (2147483647 : Int64))).toInt < a.toInt + 2147483648 := by
  have h2 := own_m31 x
  have h3 := c_ladd a (x &&& 2147483647)
  have h4 := rng64 (a + (x &&& 2147483647))
  omega
theorem own_mod64 (a t : Int64) (ht : 0 < t.toInt) : 0 ≤ ((a &&& (9223372036854775807 : Int64)) % t).toInt ∧ ((a &&& (9223372036854775807 : Int64)) % t).toInt < t.toInt := by
  have h1 := c_maskL a 9223372036854775807 63 (by decide) (by decide)
  have h2 : 0 ≤ (a &&& (9223372036854775807 : Int64)).toInt := by rw [h1]; omega
  rw [Int64.toInt_mod, Int.tmod_eq_emod_of_nonneg h2]
  exact ⟨Int.emod_nonneg _ (by omega), Int.emod_lt_of_pos _ ht⟩
theorem own_mod32 (a t : Int32) (ht : 0 < t.toInt) : 0 ≤ ((a &&& (2147483647 : Int32)) % t).toInt ∧ ((a &&& (2147483647 : Int32)) % t).toInt < t.toInt := by
  have h1 := c_mask a 2147483647 31 (by decide) (by decide)
  have h2 : 0 ≤ (a &&& (2147483647 : Int32)).toInt := by rw [h1]; omega
  have h3 := (c_iremV (a &&& 2147483647) t).1 h2 ht
  exact ⟨h3.1, h3.2.1⟩
theorem own_ends (e0 e1 e2 e3 e4 e5 n : Int64) (m1 : e0.toInt ≤ e1.toInt) (m2 : e1.toInt ≤ e2.toInt) (m3 : e2.toInt ≤ e3.toInt) (m4 : e3.toInt ≤ e4.toInt) (m5 : e4.toInt ≤ e5.toInt) (hn : n.toInt < e5.toInt) (v : Int32)
    (hv : v = (if n < e0 then (0 : Int32) else (if n < e1 then (1 : Int32) else (if n < e2 then (2 : Int32) else (if n < e3 then (3 : Int32) else (if n < e4 then (4 : Int32) else (5 : Int32)))))))
    (g : Nat → Int64) (h0 : g 0 = e0) (h1 : g 1 = e1) (h2 : g 2 = e2) (h3 : g 3 = e3) (h4 : g 4 = e4) (h5 : g 5 = e5) :
    0 ≤ v.toInt ∧ v.toInt < 6 ∧ (∀ i : Nat, (i : Int) < v.toInt → ¬ n < g i) ∧ (∀ i : Nat, v.toInt ≤ (i : Int) → i < 6 → n < g i) := by
  have k0 : (0 : Int32).toInt = 0 := by decide
  have k1 : (1 : Int32).toInt = 1 := by decide
  have k2 : (2 : Int32).toInt = 2 := by decide
  have k3 : (3 : Int32).toInt = 3 := by decide
  have k4 : (4 : Int32).toInt = 4 := by decide
  have k5 : (5 : Int32).toInt = 5 := by decide
  have hv' : (v.toInt = 0 ∧ n.toInt < e0.toInt) ∨ (v.toInt = 1 ∧ ¬ n.toInt < e0.toInt ∧ n.toInt < e1.toInt) ∨ (v.toInt = 2 ∧ ¬ n.toInt < e1.toInt ∧ n.toInt < e2.toInt) ∨ (v.toInt = 3 ∧ ¬ n.toInt < e2.toInt ∧ n.toInt < e3.toInt) ∨ (v.toInt = 4 ∧ ¬ n.toInt < e3.toInt ∧ n.toInt < e4.toInt) ∨ (v.toInt = 5 ∧ ¬ n.toInt < e4.toInt) := by
    by_cases c0 : n < e0
    · rw [if_pos c0] at hv; rw [Int64.lt_iff_toInt_lt] at c0; rw [hv]; omega
    rw [if_neg c0] at hv
    rw [Int64.lt_iff_toInt_lt] at c0
    by_cases c1 : n < e1
    · rw [if_pos c1] at hv; rw [Int64.lt_iff_toInt_lt] at c1; rw [hv]; omega
    rw [if_neg c1] at hv
    rw [Int64.lt_iff_toInt_lt] at c1
    by_cases c2 : n < e2
    · rw [if_pos c2] at hv; rw [Int64.lt_iff_toInt_lt] at c2; rw [hv]; omega
    rw [if_neg c2] at hv
    rw [Int64.lt_iff_toInt_lt] at c2
    by_cases c3 : n < e3
    · rw [if_pos c3] at hv; rw [Int64.lt_iff_toInt_lt] at c3; rw [hv]; omega
    rw [if_neg c3] at hv
    rw [Int64.lt_iff_toInt_lt] at c3
    by_cases c4 : n < e4
    · rw [if_pos c4] at hv; rw [Int64.lt_iff_toInt_lt] at c4; rw [hv]; omega
    rw [if_neg c4] at hv
    rw [Int64.lt_iff_toInt_lt] at c4
    rw [hv]
    omega
  clear hv
  refine ⟨by omega, by omega, ?_, ?_⟩
  · intro i hi
    have : i = 0 ∨ i = 1 ∨ i = 2 ∨ i = 3 ∨ i = 4 := by omega
    rw [Int64.lt_iff_toInt_lt]
    rcases this with rfl | rfl | rfl | rfl | rfl
    · rw [h0]; omega
    · rw [h1]; omega
    · rw [h2]; omega
    · rw [h3]; omega
    · rw [h4]; omega
  · intro i hi h6
    have : i = 0 ∨ i = 1 ∨ i = 2 ∨ i = 3 ∨ i = 4 ∨ i = 5 := by omega
    rw [Int64.lt_iff_toInt_lt]
    rcases this with rfl | rfl | rfl | rfl | rfl | rfl
    · rw [h0]; omega
    · rw [h1]; omega
    · rw [h2]; omega
    · rw [h3]; omega
    · rw [h4]; omega
    · rw [h5]; omega
theorem own_pd0 : parseMethodDescriptor "(JJJJJJ)I" = some ⟨[.long, .long, .long, .long, .long, .long], some .int⟩ := by decide +kernel
theorem own_pd1 : parseMethodDescriptor "([JIIJ)I" = some ⟨[(.array .long), .int, .int, .long], some .int⟩ := by decide +kernel
theorem own_ef0 (m : MethodId) (q0 : Int64) (q1 : Int64) (q2 : Int64) (q3 : Int64) (p4 : Int32) (p5 : Int32) : entryFrame m #[(.long q0), (.long q1), (.long q2), (.long q3), (.int p4), (.int p5)] maxLocals = mkF m 0 #[.val (.long q0), .second, .val (.long q1), .second, .val (.long q2), .second, .val (.long q3), .second, .val (.int p4), .val (.int p5), .unset, .unset, .unset, .unset, .unset, .unset, .unset, .unset, .unset, .unset, .unset, .unset, .unset, .unset, .unset, .unset, .unset, .unset] [] := by first | (simp [entryFrame, mkF, argsToLocals, Value.category, maxLocals]; done) | rfl
def own_Q0 (Z : State) (q0 : Int64) (q1 : Int64) (q2 : Int64) (q3 : Int64) (p4 : Int32) (p5 : Int32) (h0 : Heap) (n0 : Nat) (v : Option Value) (h : Heap) (L : List Loc) : Prop := (v = some (.int (1 : Int32))) ∧ (Fr n0 L)
set_option maxRecDepth 65536 in
set_option maxHeartbeats 40000000 in
theorem own_rm0 (l : Launch) (Z : State) (a0 : Array Value) (hw : ∀ d ∈ tables_1, d.before a0 Z = true) (ws : List Jvm.Cond) (q0 : Int64) (q1 : Int64) (q2 : Int64) (q3 : Int64) (p4 : Int32) (p5 : Int32) (h0 : Heap) (n0 : Nat) (Z0 : n0 ≤ h0.size) :
    MetFree l x (head1 (Jvm.Cond.code x code maxLocals ret :: ws) room_1) (fun a U => a = #[(.long q0), (.long q1), (.long q2), (.long q3), (.int p4), (.int p5)] ∧ Z.Warmed39 U.vm ∧ U.heap = h0) (fun _ _ _ _ _ => True) (fun _ U o U' => ∃ v L, o = .returned v ∧ own_Q0 Z q0 q1 q2 q3 p4 p5 h0 n0 v U'.heap L ∧ FrameEnd U o U' L room_1.cells room_1.slots) := by
  refine MetFree.of_bodySF (plainFor_of_name own_pn0) hisR ?_
  intro p e s m args below meth c s₁ Bd hml0 hP hK
  obtain ⟨rfl, hZ, hh⟩ := hP
  have hx := Bd.exec
  have hby := Bd.bytes
  have hml : c.maxLocals = 28 := hml0
  have hown : s.vm.findClass "com/example/evenkeel/evenkeel/ProviderArraysOwnerPinLaw" = some m.cls := findClass_of_methodNamed Bd.named
  have hnm := (name_of_methodNamed Bd.named Bd.method).1
  have X0 : Stand p l e room_1 s m #[(.long q0), (.long q1), (.long q2), (.long q3), (.int p4), (.int p5)] below meth c s₁ [] 0 0 := Stand.of_body Bd
  have e0 : s₁.heap = h0 := by rw [← hh, Bd.state]; rfl
  have N0 := Fr.nil n0
  have pre0 : ∀ t, Steps p.tables e below (s₁.setTop (mkF m 0 #[.val (.long q0), .second, .val (.long q1), .second, .val (.long q2), .second, .val (.long q3), .second, .val (.int p4), .val (.int p5), .unset, .unset, .unset, .unset, .unset, .unset, .unset, .unset, .unset, .unset, .unset, .unset, .unset, .unset, .unset, .unset, .unset, .unset] [])) t → Steps p.tables e below (s₁.setTop (entryFrame m #[(.long q0), (.long q1), (.long q2), (.long q3), (.int p4), (.int p5)] maxLocals)) t := fun t k => castTop (own_ef0 m q0 q1 q2 q3 p4 p5) k
  refine own_run (own_st pre0 ?_)
  obtain ⟨v5, hv5⟩ : ∃ z : Int64, z = (q0 &&& (2147483647 : Int64)) := ⟨_, rfl⟩
  obtain ⟨v18, hv18⟩ : ∃ z : Int64, z = (v5 + (((q0.toUInt64 >>> ((32 : Int32) &&& 0x3f).toInt64.toUInt64).toInt64) &&& (2147483647 : Int64))) := ⟨_, rfl⟩
  obtain ⟨v28, hv28⟩ : ∃ z : Int64, z = (v18 + (q1 &&& (2147483647 : Int64))) := ⟨_, rfl⟩
  obtain ⟨v41, hv41⟩ : ∃ z : Int64, z = (v28 + (((q1.toUInt64 >>> ((32 : Int32) &&& 0x3f).toInt64.toUInt64).toInt64) &&& (2147483647 : Int64))) := ⟨_, rfl⟩
  obtain ⟨v52, hv52⟩ : ∃ z : Int64, z = (v41 + (q2 &&& (2147483647 : Int64))) := ⟨_, rfl⟩
  obtain ⟨v66, hv66⟩ : ∃ z : Int64, z = (v52 + (((q2.toUInt64 >>> ((32 : Int32) &&& 0x3f).toInt64.toUInt64).toInt64) &&& (2147483647 : Int64))) := ⟨_, rfl⟩
  refine own_st (B := s₁.setTop (mkF m 68 #[.val (.long q0), .second, .val (.long q1), .second, .val (.long q2), .second, .val (.long q3), .second, .val (.int p4), .val (.int p5), .val (.long v5), .second, .val (.long v18), .second, .val (.long v28), .second, .val (.long v41), .second, .val (.long v52), .second, .val (.long v66), .second, .unset, .unset, .unset, .unset, .unset, .unset] [])) (fun target kt => ?_) ?_
  · show Steps p.tables e below (s₁.setTop (mkF m 0 #[.val (.long q0), .second, .val (.long q1), .second, .val (.long q2), .second, .val (.long q3), .second, .val (.int p4), .val (.int p5), .unset, .unset, .unset, .unset, .unset, .unset, .unset, .unset, .unset, .unset, .unset, .unset, .unset, .unset, .unset, .unset, .unset, .unset] [])) target
    refine XS.lloadN X0.here hx rfl (hb hby at_0) rfl ?_
    show Steps p.tables e below (s₁.setTop (mkF m 1 #[.val (.long q0), .second, .val (.long q1), .second, .val (.long q2), .second, .val (.long q3), .second, .val (.int p4), .val (.int p5), .unset, .unset, .unset, .unset, .unset, .unset, .unset, .unset, .unset, .unset, .unset, .unset, .unset, .unset, .unset, .unset, .unset, .unset] [(.long q0)])) target
    refine X0.ldc2Long hx hown (mvT hZ (hw _ (List.mem_of_getElem? (i := 0) rfl))) (g := (mkF m 1 #[.val (.long q0), .second, .val (.long q1), .second, .val (.long q2), .second, .val (.long q3), .second, .val (.int p4), .val (.int p5), .unset, .unset, .unset, .unset, .unset, .unset, .unset, .unset, .unset, .unset, .unset, .unset, .unset, .unset, .unset, .unset, .unset, .unset] [(.long q0)])) rfl (hb hby at_1) _ ?_
    show Steps p.tables e below (s₁.setTop (mkF m 4 #[.val (.long q0), .second, .val (.long q1), .second, .val (.long q2), .second, .val (.long q3), .second, .val (.int p4), .val (.int p5), .unset, .unset, .unset, .unset, .unset, .unset, .unset, .unset, .unset, .unset, .unset, .unset, .unset, .unset, .unset, .unset, .unset, .unset] [(.long (2147483647 : Int64)), (.long q0)])) target
    refine XS.land X0.here hx rfl (hb hby at_4) rfl ?_
    show Steps p.tables e below (s₁.setTop (mkF m 5 #[.val (.long q0), .second, .val (.long q1), .second, .val (.long q2), .second, .val (.long q3), .second, .val (.int p4), .val (.int p5), .unset, .unset, .unset, .unset, .unset, .unset, .unset, .unset, .unset, .unset, .unset, .unset, .unset, .unset, .unset, .unset, .unset, .unset] [(.long (q0 &&& (2147483647 : Int64)))])) target
    refine XS.lstore X0.here hx rfl (hb hby at_5) rfl (l' := #[.val (.long q0), .second, .val (.long q1), .second, .val (.long q2), .second, .val (.long q3), .second, .val (.int p4), .val (.int p5), .val (.long v5), .second, .unset, .unset, .unset, .unset, .unset, .unset, .unset, .unset, .unset, .unset, .unset, .unset, .unset, .unset, .unset, .unset]) (by subst hv5; rfl) ?_
    show Steps p.tables e below (s₁.setTop (mkF m 7 #[.val (.long q0), .second, .val (.long q1), .second, .val (.long q2), .second, .val (.long q3), .second, .val (.int p4), .val (.int p5), .val (.long v5), .second, .unset, .unset, .unset, .unset, .unset, .unset, .unset, .unset, .unset, .unset, .unset, .unset, .unset, .unset, .unset, .unset] [])) target
    refine XS.lload X0.here hx rfl (hb hby at_7) rfl ?_
    show Steps p.tables e below (s₁.setTop (mkF m 9 #[.val (.long q0), .second, .val (.long q1), .second, .val (.long q2), .second, .val (.long q3), .second, .val (.int p4), .val (.int p5), .val (.long v5), .second, .unset, .unset, .unset, .unset, .unset, .unset, .unset, .unset, .unset, .unset, .unset, .unset, .unset, .unset, .unset, .unset] [(.long v5)])) target
    refine XS.lloadN X0.here hx rfl (hb hby at_9) rfl ?_
    show Steps p.tables e below (s₁.setTop (mkF m 10 #[.val (.long q0), .second, .val (.long q1), .second, .val (.long q2), .second, .val (.long q3), .second, .val (.int p4), .val (.int p5), .val (.long v5), .second, .unset, .unset, .unset, .unset, .unset, .unset, .unset, .unset, .unset, .unset, .unset, .unset, .unset, .unset, .unset, .unset] [(.long q0), (.long v5)])) target
    refine XS.bipush X0.here hx rfl (hb hby at_10) ?_
    show Steps p.tables e below (s₁.setTop (mkF m 12 #[.val (.long q0), .second, .val (.long q1), .second, .val (.long q2), .second, .val (.long q3), .second, .val (.int p4), .val (.int p5), .val (.long v5), .second, .unset, .unset, .unset, .unset, .unset, .unset, .unset, .unset, .unset, .unset, .unset, .unset, .unset, .unset, .unset, .unset] [(.int (32 : Int32)), (.long q0), (.long v5)])) target
    refine XS.lushr X0.here hx rfl (hb hby at_12) rfl ?_
    show Steps p.tables e below (s₁.setTop (mkF m 13 #[.val (.long q0), .second, .val (.long q1), .second, .val (.long q2), .second, .val (.long q3), .second, .val (.int p4), .val (.int p5), .val (.long v5), .second, .unset, .unset, .unset, .unset, .unset, .unset, .unset, .unset, .unset, .unset, .unset, .unset, .unset, .unset, .unset, .unset] [(.long ((q0.toUInt64 >>> ((32 : Int32) &&& 0x3f).toInt64.toUInt64).toInt64)), (.long v5)])) target
    refine X0.ldc2Long hx hown (mvT hZ (hw _ (List.mem_of_getElem? (i := 0) rfl))) (g := (mkF m 13 #[.val (.long q0), .second, .val (.long q1), .second, .val (.long q2), .second, .val (.long q3), .second, .val (.int p4), .val (.int p5), .val (.long v5), .second, .unset, .unset, .unset, .unset, .unset, .unset, .unset, .unset, .unset, .unset, .unset, .unset, .unset, .unset, .unset, .unset] [(.long ((q0.toUInt64 >>> ((32 : Int32) &&& 0x3f).toInt64.toUInt64).toInt64)), (.long v5)])) rfl (hb hby at_13) _ ?_
    show Steps p.tables e below (s₁.setTop (mkF m 16 #[.val (.long q0), .second, .val (.long q1), .second, .val (.long q2), .second, .val (.long q3), .second, .val (.int p4), .val (.int p5), .val (.long v5), .second, .unset, .unset, .unset, .unset, .unset, .unset, .unset, .unset, .unset, .unset, .unset, .unset, .unset, .unset, .unset, .unset] [(.long (2147483647 : Int64)), (.long ((q0.toUInt64 >>> ((32 : Int32) &&& 0x3f).toInt64.toUInt64).toInt64)), (.long v5)])) target
    refine XS.land X0.here hx rfl (hb hby at_16) rfl ?_
    show Steps p.tables e below (s₁.setTop (mkF m 17 #[.val (.long q0), .second, .val (.long q1), .second, .val (.long q2), .second, .val (.long q3), .second, .val (.int p4), .val (.int p5), .val (.long v5), .second, .unset, .unset, .unset, .unset, .unset, .unset, .unset, .unset, .unset, .unset, .unset, .unset, .unset, .unset, .unset, .unset] [(.long (((q0.toUInt64 >>> ((32 : Int32) &&& 0x3f).toInt64.toUInt64).toInt64) &&& (2147483647 : Int64))), (.long v5)])) target
    refine XS.ladd X0.here hx rfl (hb hby at_17) rfl ?_
    show Steps p.tables e below (s₁.setTop (mkF m 18 #[.val (.long q0), .second, .val (.long q1), .second, .val (.long q2), .second, .val (.long q3), .second, .val (.int p4), .val (.int p5), .val (.long v5), .second, .unset, .unset, .unset, .unset, .unset, .unset, .unset, .unset, .unset, .unset, .unset, .unset, .unset, .unset, .unset, .unset] [(.long (v5 + (((q0.toUInt64 >>> ((32 : Int32) &&& 0x3f).toInt64.toUInt64).toInt64) &&& (2147483647 : Int64))))])) target
    refine XS.lstore X0.here hx rfl (hb hby at_18) rfl (l' := #[.val (.long q0), .second, .val (.long q1), .second, .val (.long q2), .second, .val (.long q3), .second, .val (.int p4), .val (.int p5), .val (.long v5), .second, .val (.long v18), .second, .unset, .unset, .unset, .unset, .unset, .unset, .unset, .unset, .unset, .unset, .unset, .unset, .unset, .unset]) (by subst hv18; rfl) ?_
    show Steps p.tables e below (s₁.setTop (mkF m 20 #[.val (.long q0), .second, .val (.long q1), .second, .val (.long q2), .second, .val (.long q3), .second, .val (.int p4), .val (.int p5), .val (.long v5), .second, .val (.long v18), .second, .unset, .unset, .unset, .unset, .unset, .unset, .unset, .unset, .unset, .unset, .unset, .unset, .unset, .unset] [])) target
    refine XS.lload X0.here hx rfl (hb hby at_20) rfl ?_
    show Steps p.tables e below (s₁.setTop (mkF m 22 #[.val (.long q0), .second, .val (.long q1), .second, .val (.long q2), .second, .val (.long q3), .second, .val (.int p4), .val (.int p5), .val (.long v5), .second, .val (.long v18), .second, .unset, .unset, .unset, .unset, .unset, .unset, .unset, .unset, .unset, .unset, .unset, .unset, .unset, .unset] [(.long v18)])) target
    refine XS.lloadN X0.here hx rfl (hb hby at_22) rfl ?_
    show Steps p.tables e below (s₁.setTop (mkF m 23 #[.val (.long q0), .second, .val (.long q1), .second, .val (.long q2), .second, .val (.long q3), .second, .val (.int p4), .val (.int p5), .val (.long v5), .second, .val (.long v18), .second, .unset, .unset, .unset, .unset, .unset, .unset, .unset, .unset, .unset, .unset, .unset, .unset, .unset, .unset] [(.long q1), (.long v18)])) target
    refine X0.ldc2Long hx hown (mvT hZ (hw _ (List.mem_of_getElem? (i := 0) rfl))) (g := (mkF m 23 #[.val (.long q0), .second, .val (.long q1), .second, .val (.long q2), .second, .val (.long q3), .second, .val (.int p4), .val (.int p5), .val (.long v5), .second, .val (.long v18), .second, .unset, .unset, .unset, .unset, .unset, .unset, .unset, .unset, .unset, .unset, .unset, .unset, .unset, .unset] [(.long q1), (.long v18)])) rfl (hb hby at_23) _ ?_
    show Steps p.tables e below (s₁.setTop (mkF m 26 #[.val (.long q0), .second, .val (.long q1), .second, .val (.long q2), .second, .val (.long q3), .second, .val (.int p4), .val (.int p5), .val (.long v5), .second, .val (.long v18), .second, .unset, .unset, .unset, .unset, .unset, .unset, .unset, .unset, .unset, .unset, .unset, .unset, .unset, .unset] [(.long (2147483647 : Int64)), (.long q1), (.long v18)])) target
    refine XS.land X0.here hx rfl (hb hby at_26) rfl ?_
    show Steps p.tables e below (s₁.setTop (mkF m 27 #[.val (.long q0), .second, .val (.long q1), .second, .val (.long q2), .second, .val (.long q3), .second, .val (.int p4), .val (.int p5), .val (.long v5), .second, .val (.long v18), .second, .unset, .unset, .unset, .unset, .unset, .unset, .unset, .unset, .unset, .unset, .unset, .unset, .unset, .unset] [(.long (q1 &&& (2147483647 : Int64))), (.long v18)])) target
    refine XS.ladd X0.here hx rfl (hb hby at_27) rfl ?_
    show Steps p.tables e below (s₁.setTop (mkF m 28 #[.val (.long q0), .second, .val (.long q1), .second, .val (.long q2), .second, .val (.long q3), .second, .val (.int p4), .val (.int p5), .val (.long v5), .second, .val (.long v18), .second, .unset, .unset, .unset, .unset, .unset, .unset, .unset, .unset, .unset, .unset, .unset, .unset, .unset, .unset] [(.long (v18 + (q1 &&& (2147483647 : Int64))))])) target
    refine XS.lstore X0.here hx rfl (hb hby at_28) rfl (l' := #[.val (.long q0), .second, .val (.long q1), .second, .val (.long q2), .second, .val (.long q3), .second, .val (.int p4), .val (.int p5), .val (.long v5), .second, .val (.long v18), .second, .val (.long v28), .second, .unset, .unset, .unset, .unset, .unset, .unset, .unset, .unset, .unset, .unset, .unset, .unset]) (by subst hv28; rfl) ?_
    show Steps p.tables e below (s₁.setTop (mkF m 30 #[.val (.long q0), .second, .val (.long q1), .second, .val (.long q2), .second, .val (.long q3), .second, .val (.int p4), .val (.int p5), .val (.long v5), .second, .val (.long v18), .second, .val (.long v28), .second, .unset, .unset, .unset, .unset, .unset, .unset, .unset, .unset, .unset, .unset, .unset, .unset] [])) target
    refine XS.lload X0.here hx rfl (hb hby at_30) rfl ?_
    show Steps p.tables e below (s₁.setTop (mkF m 32 #[.val (.long q0), .second, .val (.long q1), .second, .val (.long q2), .second, .val (.long q3), .second, .val (.int p4), .val (.int p5), .val (.long v5), .second, .val (.long v18), .second, .val (.long v28), .second, .unset, .unset, .unset, .unset, .unset, .unset, .unset, .unset, .unset, .unset, .unset, .unset] [(.long v28)])) target
    refine XS.lloadN X0.here hx rfl (hb hby at_32) rfl ?_
    show Steps p.tables e below (s₁.setTop (mkF m 33 #[.val (.long q0), .second, .val (.long q1), .second, .val (.long q2), .second, .val (.long q3), .second, .val (.int p4), .val (.int p5), .val (.long v5), .second, .val (.long v18), .second, .val (.long v28), .second, .unset, .unset, .unset, .unset, .unset, .unset, .unset, .unset, .unset, .unset, .unset, .unset] [(.long q1), (.long v28)])) target
    refine XS.bipush X0.here hx rfl (hb hby at_33) ?_
    show Steps p.tables e below (s₁.setTop (mkF m 35 #[.val (.long q0), .second, .val (.long q1), .second, .val (.long q2), .second, .val (.long q3), .second, .val (.int p4), .val (.int p5), .val (.long v5), .second, .val (.long v18), .second, .val (.long v28), .second, .unset, .unset, .unset, .unset, .unset, .unset, .unset, .unset, .unset, .unset, .unset, .unset] [(.int (32 : Int32)), (.long q1), (.long v28)])) target
    refine XS.lushr X0.here hx rfl (hb hby at_35) rfl ?_
    show Steps p.tables e below (s₁.setTop (mkF m 36 #[.val (.long q0), .second, .val (.long q1), .second, .val (.long q2), .second, .val (.long q3), .second, .val (.int p4), .val (.int p5), .val (.long v5), .second, .val (.long v18), .second, .val (.long v28), .second, .unset, .unset, .unset, .unset, .unset, .unset, .unset, .unset, .unset, .unset, .unset, .unset] [(.long ((q1.toUInt64 >>> ((32 : Int32) &&& 0x3f).toInt64.toUInt64).toInt64)), (.long v28)])) target
    refine X0.ldc2Long hx hown (mvT hZ (hw _ (List.mem_of_getElem? (i := 0) rfl))) (g := (mkF m 36 #[.val (.long q0), .second, .val (.long q1), .second, .val (.long q2), .second, .val (.long q3), .second, .val (.int p4), .val (.int p5), .val (.long v5), .second, .val (.long v18), .second, .val (.long v28), .second, .unset, .unset, .unset, .unset, .unset, .unset, .unset, .unset, .unset, .unset, .unset, .unset] [(.long ((q1.toUInt64 >>> ((32 : Int32) &&& 0x3f).toInt64.toUInt64).toInt64)), (.long v28)])) rfl (hb hby at_36) _ ?_
    show Steps p.tables e below (s₁.setTop (mkF m 39 #[.val (.long q0), .second, .val (.long q1), .second, .val (.long q2), .second, .val (.long q3), .second, .val (.int p4), .val (.int p5), .val (.long v5), .second, .val (.long v18), .second, .val (.long v28), .second, .unset, .unset, .unset, .unset, .unset, .unset, .unset, .unset, .unset, .unset, .unset, .unset] [(.long (2147483647 : Int64)), (.long ((q1.toUInt64 >>> ((32 : Int32) &&& 0x3f).toInt64.toUInt64).toInt64)), (.long v28)])) target
    refine XS.land X0.here hx rfl (hb hby at_39) rfl ?_
    show Steps p.tables e below (s₁.setTop (mkF m 40 #[.val (.long q0), .second, .val (.long q1), .second, .val (.long q2), .second, .val (.long q3), .second, .val (.int p4), .val (.int p5), .val (.long v5), .second, .val (.long v18), .second, .val (.long v28), .second, .unset, .unset, .unset, .unset, .unset, .unset, .unset, .unset, .unset, .unset, .unset, .unset] [(.long (((q1.toUInt64 >>> ((32 : Int32) &&& 0x3f).toInt64.toUInt64).toInt64) &&& (2147483647 : Int64))), (.long v28)])) target
    refine XS.ladd X0.here hx rfl (hb hby at_40) rfl ?_
    show Steps p.tables e below (s₁.setTop (mkF m 41 #[.val (.long q0), .second, .val (.long q1), .second, .val (.long q2), .second, .val (.long q3), .second, .val (.int p4), .val (.int p5), .val (.long v5), .second, .val (.long v18), .second, .val (.long v28), .second, .unset, .unset, .unset, .unset, .unset, .unset, .unset, .unset, .unset, .unset, .unset, .unset] [(.long (v28 + (((q1.toUInt64 >>> ((32 : Int32) &&& 0x3f).toInt64.toUInt64).toInt64) &&& (2147483647 : Int64))))])) target
    refine XS.lstore X0.here hx rfl (hb hby at_41) rfl (l' := #[.val (.long q0), .second, .val (.long q1), .second, .val (.long q2), .second, .val (.long q3), .second, .val (.int p4), .val (.int p5), .val (.long v5), .second, .val (.long v18), .second, .val (.long v28), .second, .val (.long v41), .second, .unset, .unset, .unset, .unset, .unset, .unset, .unset, .unset, .unset, .unset]) (by subst hv41; rfl) ?_
    show Steps p.tables e below (s₁.setTop (mkF m 43 #[.val (.long q0), .second, .val (.long q1), .second, .val (.long q2), .second, .val (.long q3), .second, .val (.int p4), .val (.int p5), .val (.long v5), .second, .val (.long v18), .second, .val (.long v28), .second, .val (.long v41), .second, .unset, .unset, .unset, .unset, .unset, .unset, .unset, .unset, .unset, .unset] [])) target
    refine XS.lload X0.here hx rfl (hb hby at_43) rfl ?_
    show Steps p.tables e below (s₁.setTop (mkF m 45 #[.val (.long q0), .second, .val (.long q1), .second, .val (.long q2), .second, .val (.long q3), .second, .val (.int p4), .val (.int p5), .val (.long v5), .second, .val (.long v18), .second, .val (.long v28), .second, .val (.long v41), .second, .unset, .unset, .unset, .unset, .unset, .unset, .unset, .unset, .unset, .unset] [(.long v41)])) target
    refine XS.lload X0.here hx rfl (hb hby at_45) rfl ?_
    show Steps p.tables e below (s₁.setTop (mkF m 47 #[.val (.long q0), .second, .val (.long q1), .second, .val (.long q2), .second, .val (.long q3), .second, .val (.int p4), .val (.int p5), .val (.long v5), .second, .val (.long v18), .second, .val (.long v28), .second, .val (.long v41), .second, .unset, .unset, .unset, .unset, .unset, .unset, .unset, .unset, .unset, .unset] [(.long q2), (.long v41)])) target
    refine X0.ldc2Long hx hown (mvT hZ (hw _ (List.mem_of_getElem? (i := 0) rfl))) (g := (mkF m 47 #[.val (.long q0), .second, .val (.long q1), .second, .val (.long q2), .second, .val (.long q3), .second, .val (.int p4), .val (.int p5), .val (.long v5), .second, .val (.long v18), .second, .val (.long v28), .second, .val (.long v41), .second, .unset, .unset, .unset, .unset, .unset, .unset, .unset, .unset, .unset, .unset] [(.long q2), (.long v41)])) rfl (hb hby at_47) _ ?_
    show Steps p.tables e below (s₁.setTop (mkF m 50 #[.val (.long q0), .second, .val (.long q1), .second, .val (.long q2), .second, .val (.long q3), .second, .val (.int p4), .val (.int p5), .val (.long v5), .second, .val (.long v18), .second, .val (.long v28), .second, .val (.long v41), .second, .unset, .unset, .unset, .unset, .unset, .unset, .unset, .unset, .unset, .unset] [(.long (2147483647 : Int64)), (.long q2), (.long v41)])) target
    refine XS.land X0.here hx rfl (hb hby at_50) rfl ?_
    show Steps p.tables e below (s₁.setTop (mkF m 51 #[.val (.long q0), .second, .val (.long q1), .second, .val (.long q2), .second, .val (.long q3), .second, .val (.int p4), .val (.int p5), .val (.long v5), .second, .val (.long v18), .second, .val (.long v28), .second, .val (.long v41), .second, .unset, .unset, .unset, .unset, .unset, .unset, .unset, .unset, .unset, .unset] [(.long (q2 &&& (2147483647 : Int64))), (.long v41)])) target
    refine XS.ladd X0.here hx rfl (hb hby at_51) rfl ?_
    show Steps p.tables e below (s₁.setTop (mkF m 52 #[.val (.long q0), .second, .val (.long q1), .second, .val (.long q2), .second, .val (.long q3), .second, .val (.int p4), .val (.int p5), .val (.long v5), .second, .val (.long v18), .second, .val (.long v28), .second, .val (.long v41), .second, .unset, .unset, .unset, .unset, .unset, .unset, .unset, .unset, .unset, .unset] [(.long (v41 + (q2 &&& (2147483647 : Int64))))])) target
    refine XS.lstore X0.here hx rfl (hb hby at_52) rfl (l' := #[.val (.long q0), .second, .val (.long q1), .second, .val (.long q2), .second, .val (.long q3), .second, .val (.int p4), .val (.int p5), .val (.long v5), .second, .val (.long v18), .second, .val (.long v28), .second, .val (.long v41), .second, .val (.long v52), .second, .unset, .unset, .unset, .unset, .unset, .unset, .unset, .unset]) (by subst hv52; rfl) ?_
    show Steps p.tables e below (s₁.setTop (mkF m 54 #[.val (.long q0), .second, .val (.long q1), .second, .val (.long q2), .second, .val (.long q3), .second, .val (.int p4), .val (.int p5), .val (.long v5), .second, .val (.long v18), .second, .val (.long v28), .second, .val (.long v41), .second, .val (.long v52), .second, .unset, .unset, .unset, .unset, .unset, .unset, .unset, .unset] [])) target
    refine XS.lload X0.here hx rfl (hb hby at_54) rfl ?_
    show Steps p.tables e below (s₁.setTop (mkF m 56 #[.val (.long q0), .second, .val (.long q1), .second, .val (.long q2), .second, .val (.long q3), .second, .val (.int p4), .val (.int p5), .val (.long v5), .second, .val (.long v18), .second, .val (.long v28), .second, .val (.long v41), .second, .val (.long v52), .second, .unset, .unset, .unset, .unset, .unset, .unset, .unset, .unset] [(.long v52)])) target
    refine XS.lload X0.here hx rfl (hb hby at_56) rfl ?_
    show Steps p.tables e below (s₁.setTop (mkF m 58 #[.val (.long q0), .second, .val (.long q1), .second, .val (.long q2), .second, .val (.long q3), .second, .val (.int p4), .val (.int p5), .val (.long v5), .second, .val (.long v18), .second, .val (.long v28), .second, .val (.long v41), .second, .val (.long v52), .second, .unset, .unset, .unset, .unset, .unset, .unset, .unset, .unset] [(.long q2), (.long v52)])) target
    refine XS.bipush X0.here hx rfl (hb hby at_58) ?_
    show Steps p.tables e below (s₁.setTop (mkF m 60 #[.val (.long q0), .second, .val (.long q1), .second, .val (.long q2), .second, .val (.long q3), .second, .val (.int p4), .val (.int p5), .val (.long v5), .second, .val (.long v18), .second, .val (.long v28), .second, .val (.long v41), .second, .val (.long v52), .second, .unset, .unset, .unset, .unset, .unset, .unset, .unset, .unset] [(.int (32 : Int32)), (.long q2), (.long v52)])) target
    refine XS.lushr X0.here hx rfl (hb hby at_60) rfl ?_
    show Steps p.tables e below (s₁.setTop (mkF m 61 #[.val (.long q0), .second, .val (.long q1), .second, .val (.long q2), .second, .val (.long q3), .second, .val (.int p4), .val (.int p5), .val (.long v5), .second, .val (.long v18), .second, .val (.long v28), .second, .val (.long v41), .second, .val (.long v52), .second, .unset, .unset, .unset, .unset, .unset, .unset, .unset, .unset] [(.long ((q2.toUInt64 >>> ((32 : Int32) &&& 0x3f).toInt64.toUInt64).toInt64)), (.long v52)])) target
    refine X0.ldc2Long hx hown (mvT hZ (hw _ (List.mem_of_getElem? (i := 0) rfl))) (g := (mkF m 61 #[.val (.long q0), .second, .val (.long q1), .second, .val (.long q2), .second, .val (.long q3), .second, .val (.int p4), .val (.int p5), .val (.long v5), .second, .val (.long v18), .second, .val (.long v28), .second, .val (.long v41), .second, .val (.long v52), .second, .unset, .unset, .unset, .unset, .unset, .unset, .unset, .unset] [(.long ((q2.toUInt64 >>> ((32 : Int32) &&& 0x3f).toInt64.toUInt64).toInt64)), (.long v52)])) rfl (hb hby at_61) _ ?_
    show Steps p.tables e below (s₁.setTop (mkF m 64 #[.val (.long q0), .second, .val (.long q1), .second, .val (.long q2), .second, .val (.long q3), .second, .val (.int p4), .val (.int p5), .val (.long v5), .second, .val (.long v18), .second, .val (.long v28), .second, .val (.long v41), .second, .val (.long v52), .second, .unset, .unset, .unset, .unset, .unset, .unset, .unset, .unset] [(.long (2147483647 : Int64)), (.long ((q2.toUInt64 >>> ((32 : Int32) &&& 0x3f).toInt64.toUInt64).toInt64)), (.long v52)])) target
    refine XS.land X0.here hx rfl (hb hby at_64) rfl ?_
    show Steps p.tables e below (s₁.setTop (mkF m 65 #[.val (.long q0), .second, .val (.long q1), .second, .val (.long q2), .second, .val (.long q3), .second, .val (.int p4), .val (.int p5), .val (.long v5), .second, .val (.long v18), .second, .val (.long v28), .second, .val (.long v41), .second, .val (.long v52), .second, .unset, .unset, .unset, .unset, .unset, .unset, .unset, .unset] [(.long (((q2.toUInt64 >>> ((32 : Int32) &&& 0x3f).toInt64.toUInt64).toInt64) &&& (2147483647 : Int64))), (.long v52)])) target
    refine XS.ladd X0.here hx rfl (hb hby at_65) rfl ?_
    show Steps p.tables e below (s₁.setTop (mkF m 66 #[.val (.long q0), .second, .val (.long q1), .second, .val (.long q2), .second, .val (.long q3), .second, .val (.int p4), .val (.int p5), .val (.long v5), .second, .val (.long v18), .second, .val (.long v28), .second, .val (.long v41), .second, .val (.long v52), .second, .unset, .unset, .unset, .unset, .unset, .unset, .unset, .unset] [(.long (v52 + (((q2.toUInt64 >>> ((32 : Int32) &&& 0x3f).toInt64.toUInt64).toInt64) &&& (2147483647 : Int64))))])) target
    refine XS.lstore X0.here hx rfl (hb hby at_66) rfl (l' := #[.val (.long q0), .second, .val (.long q1), .second, .val (.long q2), .second, .val (.long q3), .second, .val (.int p4), .val (.int p5), .val (.long v5), .second, .val (.long v18), .second, .val (.long v28), .second, .val (.long v41), .second, .val (.long v52), .second, .val (.long v66), .second, .unset, .unset, .unset, .unset, .unset, .unset]) (by subst hv66; rfl) ?_
    exact kt
  have m0 : 0 ≤ v5.toInt ∧ v5.toInt < 2147483648 := by rw [hv5]; exact own_m31 q0
  have m1 : v5.toInt ≤ v18.toInt ∧ v18.toInt < v5.toInt + 2147483648 := by rw [hv18]; exact own_add31 v5 _ (by omega) (by omega)
  have m2 : v18.toInt ≤ v28.toInt ∧ v28.toInt < v18.toInt + 2147483648 := by rw [hv28]; exact own_add31 v18 _ (by omega) (by omega)
  have m3 : v28.toInt ≤ v41.toInt ∧ v41.toInt < v28.toInt + 2147483648 := by rw [hv41]; exact own_add31 v28 _ (by omega) (by omega)
  have m4 : v41.toInt ≤ v52.toInt ∧ v52.toInt < v41.toInt + 2147483648 := by rw [hv52]; exact own_add31 v41 _ (by omega) (by omega)
  have m5 : v52.toInt ≤ v66.toInt ∧ v66.toInt < v52.toInt + 2147483648 := by rw [hv66]; exact own_add31 v52 _ (by omega) (by omega)
  refine own_st (B := s₁.setTop (mkF m 72 #[.val (.long q0), .second, .val (.long q1), .second, .val (.long q2), .second, .val (.long q3), .second, .val (.int p4), .val (.int p5), .val (.long v5), .second, .val (.long v18), .second, .val (.long v28), .second, .val (.long v41), .second, .val (.long v52), .second, .val (.long v66), .second, .unset, .unset, .unset, .unset, .unset, .unset] [(.int (lcmpW v66 (0 : Int64)))])) (fun target kt => ?_) ?_
  · show Steps p.tables e below (s₁.setTop (mkF m 68 #[.val (.long q0), .second, .val (.long q1), .second, .val (.long q2), .second, .val (.long q3), .second, .val (.int p4), .val (.int p5), .val (.long v5), .second, .val (.long v18), .second, .val (.long v28), .second, .val (.long v41), .second, .val (.long v52), .second, .val (.long v66), .second, .unset, .unset, .unset, .unset, .unset, .unset] [])) target
    refine XS.lload X0.here hx rfl (hb hby at_68) rfl ?_
    show Steps p.tables e below (s₁.setTop (mkF m 70 #[.val (.long q0), .second, .val (.long q1), .second, .val (.long q2), .second, .val (.long q3), .second, .val (.int p4), .val (.int p5), .val (.long v5), .second, .val (.long v18), .second, .val (.long v28), .second, .val (.long v41), .second, .val (.long v52), .second, .val (.long v66), .second, .unset, .unset, .unset, .unset, .unset, .unset] [(.long v66)])) target
    refine XS.lconst X0.here hx rfl (hb hby at_70) ?_
    show Steps p.tables e below (s₁.setTop (mkF m 71 #[.val (.long q0), .second, .val (.long q1), .second, .val (.long q2), .second, .val (.long q3), .second, .val (.int p4), .val (.int p5), .val (.long v5), .second, .val (.long v18), .second, .val (.long v28), .second, .val (.long v41), .second, .val (.long v52), .second, .val (.long v66), .second, .unset, .unset, .unset, .unset, .unset, .unset] [(.long (0 : Int64)), (.long v66)])) target
    refine XS.lcmp X0.here hx rfl (hb hby at_71) rfl ?_
    exact kt
  by_cases c72 : v66 = (0 : Int64)
  · refine own_st (B := s₁.setTop (mkF m 76 #[.val (.long q0), .second, .val (.long q1), .second, .val (.long q2), .second, .val (.long q3), .second, .val (.int p4), .val (.int p5), .val (.long v5), .second, .val (.long v18), .second, .val (.long v28), .second, .val (.long v41), .second, .val (.long v52), .second, .val (.long v66), .second, .unset, .unset, .unset, .unset, .unset, .unset] [(.int (1 : Int32))])) (fun target kt => ?_) ?_
    · show Steps p.tables e below (s₁.setTop (mkF m 72 #[.val (.long q0), .second, .val (.long q1), .second, .val (.long q2), .second, .val (.long q3), .second, .val (.int p4), .val (.int p5), .val (.long v5), .second, .val (.long v18), .second, .val (.long v28), .second, .val (.long v41), .second, .val (.long v52), .second, .val (.long v66), .second, .unset, .unset, .unset, .unset, .unset, .unset] [(.int (lcmpW v66 (0 : Int64)))])) target
      refine XS.ifNo X0.here hx rfl (hb hby at_72) rfl ((if0 _ _).trans (teq ((lw_eq v66 (0 : Int64)).mpr c72)).2) ?_
      show Steps p.tables e below (s₁.setTop (mkF m 75 #[.val (.long q0), .second, .val (.long q1), .second, .val (.long q2), .second, .val (.long q3), .second, .val (.int p4), .val (.int p5), .val (.long v5), .second, .val (.long v18), .second, .val (.long v28), .second, .val (.long v41), .second, .val (.long v52), .second, .val (.long v66), .second, .unset, .unset, .unset, .unset, .unset, .unset] [])) target
      refine XS.iconst X0.here hx rfl (hb hby at_75) ?_
      exact kt
    obtain ⟨fs, hr, hrun, hended, hW, hsame⟩ := X0.leave (v := some (.int (1 : Int32))) (fun h => by rw [Bd.returns] at h; cases h)
    have hend : Steps p.tables e below (s₁.setTop (mkF m 76 #[.val (.long q0), .second, .val (.long q1), .second, .val (.long q2), .second, .val (.long q3), .second, .val (.int p4), .val (.int p5), .val (.long v5), .second, .val (.long v18), .second, .val (.long v28), .second, .val (.long v41), .second, .val (.long v52), .second, .val (.long v66), .second, .unset, .unset, .unset, .unset, .unset, .unset] [(.int (1 : Int32))])) (s₁.setFrames fs) := by
      exact retN X0 hx (t := .boolean) Bd.returns (by simp) (hb hby at_76) hr
    refine own_fin hend ⟨_, hrun, hended, _, _, rfl, ?_, ⟨_, rfl⟩, hW, hsame.mono (by decide) (by decide)⟩
    show own_Q0 Z q0 q1 q2 q3 p4 p5 h0 n0 _ s₁.heap _
    rw [e0]
    exact ⟨rfl, N0⟩
  · refine own_st (B := s₁.setTop (mkF m 79 #[.val (.long q0), .second, .val (.long q1), .second, .val (.long q2), .second, .val (.long q3), .second, .val (.int p4), .val (.int p5), .val (.long v5), .second, .val (.long v18), .second, .val (.long v28), .second, .val (.long v41), .second, .val (.long v52), .second, .val (.long v66), .second, .unset, .unset, .unset, .unset, .unset, .unset] [(.int (6 : Int32))])) (fun target kt => ?_) ?_
    · show Steps p.tables e below (s₁.setTop (mkF m 72 #[.val (.long q0), .second, .val (.long q1), .second, .val (.long q2), .second, .val (.long q3), .second, .val (.int p4), .val (.int p5), .val (.long v5), .second, .val (.long v18), .second, .val (.long v28), .second, .val (.long v41), .second, .val (.long v52), .second, .val (.long v66), .second, .unset, .unset, .unset, .unset, .unset, .unset] [(.int (lcmpW v66 (0 : Int64)))])) target
      refine XS.ifYes X0.here hx rfl (pc0 := 72) (pc' := 77) rfl (hb hby at_72) rfl ((if0 _ _).trans (feq (fun q => c72 ((lw_eq v66 (0 : Int64)).mp q))).2) (by decide) (by decide) ?_
      show Steps p.tables e below (s₁.setTop (mkF m 77 #[.val (.long q0), .second, .val (.long q1), .second, .val (.long q2), .second, .val (.long q3), .second, .val (.int p4), .val (.int p5), .val (.long v5), .second, .val (.long v18), .second, .val (.long v28), .second, .val (.long v41), .second, .val (.long v52), .second, .val (.long v66), .second, .unset, .unset, .unset, .unset, .unset, .unset] [])) target
      refine XS.bipush X0.here hx rfl (hb hby at_77) ?_
      exact kt
    obtain ⟨Tg79, hg79, kg79, Xg79, eg79, Eg79, Ag79, stg79⟩ := newP X0 hx hZ (hw _ (List.mem_of_getElem? (i := 1) rfl)) e0 (g := (mkF m 79 #[.val (.long q0), .second, .val (.long q1), .second, .val (.long q2), .second, .val (.long q3), .second, .val (.int p4), .val (.int p5), .val (.long v5), .second, .val (.long v18), .second, .val (.long v28), .second, .val (.long v41), .second, .val (.long v52), .second, .val (.long v66), .second, .unset, .unset, .unset, .unset, .unset, .unset] [(.int (6 : Int32))])) rfl (hb hby at_79) rfl (by decide) (cap := 6) (by decide) (by decide) (by decide) (by decide)
    obtain ⟨b79, gg79⟩ : ∃ z, z = h0.size := ⟨_, rfl⟩
    rw [← gg79] at Ag79 stg79
    refine own_st stg79 ?_
    have g_b79 : n0 ≤ b79 := Nat.le_trans Z0 (Nat.le_of_eq gg79.symm)
    have Zz : n0 ≤ hg79.size := Nat.le_trans Z0 Eg79.1
    have F : own_RayJ Z hg79 b79 6 (fun _ => (0 : Int64)) := own_RayJ_new Ag79 (by decide) (by decide)
    refine own_st (B := Tg79.setTop (mkF m 88 #[.val (.long q0), .second, .val (.long q1), .second, .val (.long q2), .second, .val (.long q3), .second, .val (.int p4), .val (.int p5), .val (.long v5), .second, .val (.long v18), .second, .val (.long v28), .second, .val (.long v41), .second, .val (.long v52), .second, .val (.long v66), .second, .val (.ref b79), .unset, .unset, .unset, .unset, .unset] [(.long v5), (.int (0 : Int32)), (.ref b79)])) (fun target kt => ?_) ?_
    · show Steps p.tables e below (Tg79.setTop (mkF m 81 #[.val (.long q0), .second, .val (.long q1), .second, .val (.long q2), .second, .val (.long q3), .second, .val (.int p4), .val (.int p5), .val (.long v5), .second, .val (.long v18), .second, .val (.long v28), .second, .val (.long v41), .second, .val (.long v52), .second, .val (.long v66), .second, .unset, .unset, .unset, .unset, .unset, .unset] [(.ref b79)])) target
      refine XS.astore Xg79.here hx rfl (hb hby at_81) rfl rfl (l' := #[.val (.long q0), .second, .val (.long q1), .second, .val (.long q2), .second, .val (.long q3), .second, .val (.int p4), .val (.int p5), .val (.long v5), .second, .val (.long v18), .second, .val (.long v28), .second, .val (.long v41), .second, .val (.long v52), .second, .val (.long v66), .second, .val (.ref b79), .unset, .unset, .unset, .unset, .unset]) rfl ?_
      show Steps p.tables e below (Tg79.setTop (mkF m 83 #[.val (.long q0), .second, .val (.long q1), .second, .val (.long q2), .second, .val (.long q3), .second, .val (.int p4), .val (.int p5), .val (.long v5), .second, .val (.long v18), .second, .val (.long v28), .second, .val (.long v41), .second, .val (.long v52), .second, .val (.long v66), .second, .val (.ref b79), .unset, .unset, .unset, .unset, .unset] [])) target
      refine XS.aload Xg79.here hx rfl (hb hby at_83) rfl rfl ?_
      show Steps p.tables e below (Tg79.setTop (mkF m 85 #[.val (.long q0), .second, .val (.long q1), .second, .val (.long q2), .second, .val (.long q3), .second, .val (.int p4), .val (.int p5), .val (.long v5), .second, .val (.long v18), .second, .val (.long v28), .second, .val (.long v41), .second, .val (.long v52), .second, .val (.long v66), .second, .val (.ref b79), .unset, .unset, .unset, .unset, .unset] [(.ref b79)])) target
      refine XS.iconst Xg79.here hx rfl (hb hby at_85) ?_
      show Steps p.tables e below (Tg79.setTop (mkF m 86 #[.val (.long q0), .second, .val (.long q1), .second, .val (.long q2), .second, .val (.long q3), .second, .val (.int p4), .val (.int p5), .val (.long v5), .second, .val (.long v18), .second, .val (.long v28), .second, .val (.long v41), .second, .val (.long v52), .second, .val (.long v66), .second, .val (.ref b79), .unset, .unset, .unset, .unset, .unset] [(.int (0 : Int32)), (.ref b79)])) target
      refine XS.lload Xg79.here hx rfl (hb hby at_86) rfl ?_
      exact kt
    obtain ⟨clg88, Arg88, Szg88, -⟩ := id F
    have hing88 : ¬ ((0 : Int32) < 0 ∨ clg88.slots.size ≤ ((0 : Int32)).toNatClampNeg) := own_inb Szg88 (by decide)
    obtain ⟨Tg88, hg88, Xg88, eg88, Wg88, stg88⟩ := stJ Xg79 hx hZ eg79 Arg88 (j := (0 : Int32)) hing88 (g := (mkF m 88 #[.val (.long q0), .second, .val (.long q1), .second, .val (.long q2), .second, .val (.long q3), .second, .val (.int p4), .val (.int p5), .val (.long v5), .second, .val (.long v18), .second, .val (.long v28), .second, .val (.long v41), .second, .val (.long v52), .second, .val (.long v66), .second, .val (.ref b79), .unset, .unset, .unset, .unset, .unset] [(.long v5), (.int (0 : Int32)), (.ref b79)])) rfl rfl (hb hby at_88)
    refine own_st stg88 ?_
    have Ng88 := Fr.snoc Xg88 N0 g_b79
    obtain ⟨a88, ha88⟩ : ∃ gz : Nat → Int64, gz = fun i => if i = 0 then v5 else (fun _ => (0 : Int64)) i := ⟨_, rfl⟩
    have Zz_1 : n0 ≤ hg88.size := Nat.le_trans Zz (Keep.of_wr Wg88).1
    have F_2 : own_RayJ Z hg88 b79 6 a88 := by rw [ha88]; exact own_RayJ_set F Wg88 (by decide)
    refine own_st (B := Tg88.setTop (mkF m 94 #[.val (.long q0), .second, .val (.long q1), .second, .val (.long q2), .second, .val (.long q3), .second, .val (.int p4), .val (.int p5), .val (.long v5), .second, .val (.long v18), .second, .val (.long v28), .second, .val (.long v41), .second, .val (.long v52), .second, .val (.long v66), .second, .val (.ref b79), .unset, .unset, .unset, .unset, .unset] [(.long v18), (.int (1 : Int32)), (.ref b79)])) (fun target kt => ?_) ?_
    · show Steps p.tables e below (Tg88.setTop (mkF m 89 #[.val (.long q0), .second, .val (.long q1), .second, .val (.long q2), .second, .val (.long q3), .second, .val (.int p4), .val (.int p5), .val (.long v5), .second, .val (.long v18), .second, .val (.long v28), .second, .val (.long v41), .second, .val (.long v52), .second, .val (.long v66), .second, .val (.ref b79), .unset, .unset, .unset, .unset, .unset] [])) target
      refine XS.aload Xg88.here hx rfl (hb hby at_89) rfl rfl ?_
      show Steps p.tables e below (Tg88.setTop (mkF m 91 #[.val (.long q0), .second, .val (.long q1), .second, .val (.long q2), .second, .val (.long q3), .second, .val (.int p4), .val (.int p5), .val (.long v5), .second, .val (.long v18), .second, .val (.long v28), .second, .val (.long v41), .second, .val (.long v52), .second, .val (.long v66), .second, .val (.ref b79), .unset, .unset, .unset, .unset, .unset] [(.ref b79)])) target
      refine XS.iconst Xg88.here hx rfl (hb hby at_91) ?_
      show Steps p.tables e below (Tg88.setTop (mkF m 92 #[.val (.long q0), .second, .val (.long q1), .second, .val (.long q2), .second, .val (.long q3), .second, .val (.int p4), .val (.int p5), .val (.long v5), .second, .val (.long v18), .second, .val (.long v28), .second, .val (.long v41), .second, .val (.long v52), .second, .val (.long v66), .second, .val (.ref b79), .unset, .unset, .unset, .unset, .unset] [(.int (1 : Int32)), (.ref b79)])) target
      refine XS.lload Xg88.here hx rfl (hb hby at_92) rfl ?_
      exact kt
    obtain ⟨clg94, Arg94, Szg94, -⟩ := id F_2
    have hing94 : ¬ ((1 : Int32) < 0 ∨ clg94.slots.size ≤ ((1 : Int32)).toNatClampNeg) := own_inb Szg94 (by decide)
    obtain ⟨Tg94, hg94, Xg94, eg94, Wg94, stg94⟩ := stJ Xg88 hx hZ eg88 Arg94 (j := (1 : Int32)) hing94 (g := (mkF m 94 #[.val (.long q0), .second, .val (.long q1), .second, .val (.long q2), .second, .val (.long q3), .second, .val (.int p4), .val (.int p5), .val (.long v5), .second, .val (.long v18), .second, .val (.long v28), .second, .val (.long v41), .second, .val (.long v52), .second, .val (.long v66), .second, .val (.ref b79), .unset, .unset, .unset, .unset, .unset] [(.long v18), (.int (1 : Int32)), (.ref b79)])) rfl rfl (hb hby at_94)
    refine own_st stg94 ?_
    have Ng94 := Fr.snoc Xg94 Ng88 g_b79
    obtain ⟨a94, ha94⟩ : ∃ gz : Nat → Int64, gz = fun i => if i = 1 then v18 else a88 i := ⟨_, rfl⟩
    have Zz_2 : n0 ≤ hg94.size := Nat.le_trans Zz_1 (Keep.of_wr Wg94).1
    have F_4 : own_RayJ Z hg94 b79 6 a94 := by rw [ha94]; exact own_RayJ_set F_2 Wg94 (by decide)
    refine own_st (B := Tg94.setTop (mkF m 100 #[.val (.long q0), .second, .val (.long q1), .second, .val (.long q2), .second, .val (.long q3), .second, .val (.int p4), .val (.int p5), .val (.long v5), .second, .val (.long v18), .second, .val (.long v28), .second, .val (.long v41), .second, .val (.long v52), .second, .val (.long v66), .second, .val (.ref b79), .unset, .unset, .unset, .unset, .unset] [(.long v28), (.int (2 : Int32)), (.ref b79)])) (fun target kt => ?_) ?_
    · show Steps p.tables e below (Tg94.setTop (mkF m 95 #[.val (.long q0), .second, .val (.long q1), .second, .val (.long q2), .second, .val (.long q3), .second, .val (.int p4), .val (.int p5), .val (.long v5), .second, .val (.long v18), .second, .val (.long v28), .second, .val (.long v41), .second, .val (.long v52), .second, .val (.long v66), .second, .val (.ref b79), .unset, .unset, .unset, .unset, .unset] [])) target
      refine XS.aload Xg94.here hx rfl (hb hby at_95) rfl rfl ?_
      show Steps p.tables e below (Tg94.setTop (mkF m 97 #[.val (.long q0), .second, .val (.long q1), .second, .val (.long q2), .second, .val (.long q3), .second, .val (.int p4), .val (.int p5), .val (.long v5), .second, .val (.long v18), .second, .val (.long v28), .second, .val (.long v41), .second, .val (.long v52), .second, .val (.long v66), .second, .val (.ref b79), .unset, .unset, .unset, .unset, .unset] [(.ref b79)])) target
      refine XS.iconst Xg94.here hx rfl (hb hby at_97) ?_
      show Steps p.tables e below (Tg94.setTop (mkF m 98 #[.val (.long q0), .second, .val (.long q1), .second, .val (.long q2), .second, .val (.long q3), .second, .val (.int p4), .val (.int p5), .val (.long v5), .second, .val (.long v18), .second, .val (.long v28), .second, .val (.long v41), .second, .val (.long v52), .second, .val (.long v66), .second, .val (.ref b79), .unset, .unset, .unset, .unset, .unset] [(.int (2 : Int32)), (.ref b79)])) target
      refine XS.lload Xg94.here hx rfl (hb hby at_98) rfl ?_
      exact kt
    obtain ⟨clg100, Arg100, Szg100, -⟩ := id F_4
    have hing100 : ¬ ((2 : Int32) < 0 ∨ clg100.slots.size ≤ ((2 : Int32)).toNatClampNeg) := own_inb Szg100 (by decide)
    obtain ⟨Tg100, hg100, Xg100, eg100, Wg100, stg100⟩ := stJ Xg94 hx hZ eg94 Arg100 (j := (2 : Int32)) hing100 (g := (mkF m 100 #[.val (.long q0), .second, .val (.long q1), .second, .val (.long q2), .second, .val (.long q3), .second, .val (.int p4), .val (.int p5), .val (.long v5), .second, .val (.long v18), .second, .val (.long v28), .second, .val (.long v41), .second, .val (.long v52), .second, .val (.long v66), .second, .val (.ref b79), .unset, .unset, .unset, .unset, .unset] [(.long v28), (.int (2 : Int32)), (.ref b79)])) rfl rfl (hb hby at_100)
    refine own_st stg100 ?_
    have Ng100 := Fr.snoc Xg100 Ng94 g_b79
    obtain ⟨a100, ha100⟩ : ∃ gz : Nat → Int64, gz = fun i => if i = 2 then v28 else a94 i := ⟨_, rfl⟩
    have Zz_3 : n0 ≤ hg100.size := Nat.le_trans Zz_2 (Keep.of_wr Wg100).1
    have F_6 : own_RayJ Z hg100 b79 6 a100 := by rw [ha100]; exact own_RayJ_set F_4 Wg100 (by decide)
    refine own_st (B := Tg100.setTop (mkF m 106 #[.val (.long q0), .second, .val (.long q1), .second, .val (.long q2), .second, .val (.long q3), .second, .val (.int p4), .val (.int p5), .val (.long v5), .second, .val (.long v18), .second, .val (.long v28), .second, .val (.long v41), .second, .val (.long v52), .second, .val (.long v66), .second, .val (.ref b79), .unset, .unset, .unset, .unset, .unset] [(.long v41), (.int (3 : Int32)), (.ref b79)])) (fun target kt => ?_) ?_
    · show Steps p.tables e below (Tg100.setTop (mkF m 101 #[.val (.long q0), .second, .val (.long q1), .second, .val (.long q2), .second, .val (.long q3), .second, .val (.int p4), .val (.int p5), .val (.long v5), .second, .val (.long v18), .second, .val (.long v28), .second, .val (.long v41), .second, .val (.long v52), .second, .val (.long v66), .second, .val (.ref b79), .unset, .unset, .unset, .unset, .unset] [])) target
      refine XS.aload Xg100.here hx rfl (hb hby at_101) rfl rfl ?_
      show Steps p.tables e below (Tg100.setTop (mkF m 103 #[.val (.long q0), .second, .val (.long q1), .second, .val (.long q2), .second, .val (.long q3), .second, .val (.int p4), .val (.int p5), .val (.long v5), .second, .val (.long v18), .second, .val (.long v28), .second, .val (.long v41), .second, .val (.long v52), .second, .val (.long v66), .second, .val (.ref b79), .unset, .unset, .unset, .unset, .unset] [(.ref b79)])) target
      refine XS.iconst Xg100.here hx rfl (hb hby at_103) ?_
      show Steps p.tables e below (Tg100.setTop (mkF m 104 #[.val (.long q0), .second, .val (.long q1), .second, .val (.long q2), .second, .val (.long q3), .second, .val (.int p4), .val (.int p5), .val (.long v5), .second, .val (.long v18), .second, .val (.long v28), .second, .val (.long v41), .second, .val (.long v52), .second, .val (.long v66), .second, .val (.ref b79), .unset, .unset, .unset, .unset, .unset] [(.int (3 : Int32)), (.ref b79)])) target
      refine XS.lload Xg100.here hx rfl (hb hby at_104) rfl ?_
      exact kt
    obtain ⟨clg106, Arg106, Szg106, -⟩ := id F_6
    have hing106 : ¬ ((3 : Int32) < 0 ∨ clg106.slots.size ≤ ((3 : Int32)).toNatClampNeg) := own_inb Szg106 (by decide)
    obtain ⟨Tg106, hg106, Xg106, eg106, Wg106, stg106⟩ := stJ Xg100 hx hZ eg100 Arg106 (j := (3 : Int32)) hing106 (g := (mkF m 106 #[.val (.long q0), .second, .val (.long q1), .second, .val (.long q2), .second, .val (.long q3), .second, .val (.int p4), .val (.int p5), .val (.long v5), .second, .val (.long v18), .second, .val (.long v28), .second, .val (.long v41), .second, .val (.long v52), .second, .val (.long v66), .second, .val (.ref b79), .unset, .unset, .unset, .unset, .unset] [(.long v41), (.int (3 : Int32)), (.ref b79)])) rfl rfl (hb hby at_106)
    refine own_st stg106 ?_
    have Ng106 := Fr.snoc Xg106 Ng100 g_b79
    obtain ⟨a106, ha106⟩ : ∃ gz : Nat → Int64, gz = fun i => if i = 3 then v41 else a100 i := ⟨_, rfl⟩
    have Zz_4 : n0 ≤ hg106.size := Nat.le_trans Zz_3 (Keep.of_wr Wg106).1
    have F_8 : own_RayJ Z hg106 b79 6 a106 := by rw [ha106]; exact own_RayJ_set F_6 Wg106 (by decide)
    refine own_st (B := Tg106.setTop (mkF m 112 #[.val (.long q0), .second, .val (.long q1), .second, .val (.long q2), .second, .val (.long q3), .second, .val (.int p4), .val (.int p5), .val (.long v5), .second, .val (.long v18), .second, .val (.long v28), .second, .val (.long v41), .second, .val (.long v52), .second, .val (.long v66), .second, .val (.ref b79), .unset, .unset, .unset, .unset, .unset] [(.long v52), (.int (4 : Int32)), (.ref b79)])) (fun target kt => ?_) ?_
    · show Steps p.tables e below (Tg106.setTop (mkF m 107 #[.val (.long q0), .second, .val (.long q1), .second, .val (.long q2), .second, .val (.long q3), .second, .val (.int p4), .val (.int p5), .val (.long v5), .second, .val (.long v18), .second, .val (.long v28), .second, .val (.long v41), .second, .val (.long v52), .second, .val (.long v66), .second, .val (.ref b79), .unset, .unset, .unset, .unset, .unset] [])) target
      refine XS.aload Xg106.here hx rfl (hb hby at_107) rfl rfl ?_
      show Steps p.tables e below (Tg106.setTop (mkF m 109 #[.val (.long q0), .second, .val (.long q1), .second, .val (.long q2), .second, .val (.long q3), .second, .val (.int p4), .val (.int p5), .val (.long v5), .second, .val (.long v18), .second, .val (.long v28), .second, .val (.long v41), .second, .val (.long v52), .second, .val (.long v66), .second, .val (.ref b79), .unset, .unset, .unset, .unset, .unset] [(.ref b79)])) target
      refine XS.iconst Xg106.here hx rfl (hb hby at_109) ?_
      show Steps p.tables e below (Tg106.setTop (mkF m 110 #[.val (.long q0), .second, .val (.long q1), .second, .val (.long q2), .second, .val (.long q3), .second, .val (.int p4), .val (.int p5), .val (.long v5), .second, .val (.long v18), .second, .val (.long v28), .second, .val (.long v41), .second, .val (.long v52), .second, .val (.long v66), .second, .val (.ref b79), .unset, .unset, .unset, .unset, .unset] [(.int (4 : Int32)), (.ref b79)])) target
      refine XS.lload Xg106.here hx rfl (hb hby at_110) rfl ?_
      exact kt
    obtain ⟨clg112, Arg112, Szg112, -⟩ := id F_8
    have hing112 : ¬ ((4 : Int32) < 0 ∨ clg112.slots.size ≤ ((4 : Int32)).toNatClampNeg) := own_inb Szg112 (by decide)
    obtain ⟨Tg112, hg112, Xg112, eg112, Wg112, stg112⟩ := stJ Xg106 hx hZ eg106 Arg112 (j := (4 : Int32)) hing112 (g := (mkF m 112 #[.val (.long q0), .second, .val (.long q1), .second, .val (.long q2), .second, .val (.long q3), .second, .val (.int p4), .val (.int p5), .val (.long v5), .second, .val (.long v18), .second, .val (.long v28), .second, .val (.long v41), .second, .val (.long v52), .second, .val (.long v66), .second, .val (.ref b79), .unset, .unset, .unset, .unset, .unset] [(.long v52), (.int (4 : Int32)), (.ref b79)])) rfl rfl (hb hby at_112)
    refine own_st stg112 ?_
    have Ng112 := Fr.snoc Xg112 Ng106 g_b79
    obtain ⟨a112, ha112⟩ : ∃ gz : Nat → Int64, gz = fun i => if i = 4 then v52 else a106 i := ⟨_, rfl⟩
    have Zz_5 : n0 ≤ hg112.size := Nat.le_trans Zz_4 (Keep.of_wr Wg112).1
    have F_10 : own_RayJ Z hg112 b79 6 a112 := by rw [ha112]; exact own_RayJ_set F_8 Wg112 (by decide)
    refine own_st (B := Tg112.setTop (mkF m 118 #[.val (.long q0), .second, .val (.long q1), .second, .val (.long q2), .second, .val (.long q3), .second, .val (.int p4), .val (.int p5), .val (.long v5), .second, .val (.long v18), .second, .val (.long v28), .second, .val (.long v41), .second, .val (.long v52), .second, .val (.long v66), .second, .val (.ref b79), .unset, .unset, .unset, .unset, .unset] [(.long v66), (.int (5 : Int32)), (.ref b79)])) (fun target kt => ?_) ?_
    · show Steps p.tables e below (Tg112.setTop (mkF m 113 #[.val (.long q0), .second, .val (.long q1), .second, .val (.long q2), .second, .val (.long q3), .second, .val (.int p4), .val (.int p5), .val (.long v5), .second, .val (.long v18), .second, .val (.long v28), .second, .val (.long v41), .second, .val (.long v52), .second, .val (.long v66), .second, .val (.ref b79), .unset, .unset, .unset, .unset, .unset] [])) target
      refine XS.aload Xg112.here hx rfl (hb hby at_113) rfl rfl ?_
      show Steps p.tables e below (Tg112.setTop (mkF m 115 #[.val (.long q0), .second, .val (.long q1), .second, .val (.long q2), .second, .val (.long q3), .second, .val (.int p4), .val (.int p5), .val (.long v5), .second, .val (.long v18), .second, .val (.long v28), .second, .val (.long v41), .second, .val (.long v52), .second, .val (.long v66), .second, .val (.ref b79), .unset, .unset, .unset, .unset, .unset] [(.ref b79)])) target
      refine XS.iconst Xg112.here hx rfl (hb hby at_115) ?_
      show Steps p.tables e below (Tg112.setTop (mkF m 116 #[.val (.long q0), .second, .val (.long q1), .second, .val (.long q2), .second, .val (.long q3), .second, .val (.int p4), .val (.int p5), .val (.long v5), .second, .val (.long v18), .second, .val (.long v28), .second, .val (.long v41), .second, .val (.long v52), .second, .val (.long v66), .second, .val (.ref b79), .unset, .unset, .unset, .unset, .unset] [(.int (5 : Int32)), (.ref b79)])) target
      refine XS.lload Xg112.here hx rfl (hb hby at_116) rfl ?_
      exact kt
    obtain ⟨clg118, Arg118, Szg118, -⟩ := id F_10
    have hing118 : ¬ ((5 : Int32) < 0 ∨ clg118.slots.size ≤ ((5 : Int32)).toNatClampNeg) := own_inb Szg118 (by decide)
    obtain ⟨Tg118, hg118, Xg118, eg118, Wg118, stg118⟩ := stJ Xg112 hx hZ eg112 Arg118 (j := (5 : Int32)) hing118 (g := (mkF m 118 #[.val (.long q0), .second, .val (.long q1), .second, .val (.long q2), .second, .val (.long q3), .second, .val (.int p4), .val (.int p5), .val (.long v5), .second, .val (.long v18), .second, .val (.long v28), .second, .val (.long v41), .second, .val (.long v52), .second, .val (.long v66), .second, .val (.ref b79), .unset, .unset, .unset, .unset, .unset] [(.long v66), (.int (5 : Int32)), (.ref b79)])) rfl rfl (hb hby at_118)
    refine own_st stg118 ?_
    have Ng118 := Fr.snoc Xg118 Ng112 g_b79
    obtain ⟨a118, ha118⟩ : ∃ gz : Nat → Int64, gz = fun i => if i = 5 then v66 else a112 i := ⟨_, rfl⟩
    have Zz_6 : n0 ≤ hg118.size := Nat.le_trans Zz_5 (Keep.of_wr Wg118).1
    have F_12 : own_RayJ Z hg118 b79 6 a118 := by rw [ha118]; exact own_RayJ_set F_10 Wg118 (by decide)
    have hE5 : 0 < v66.toInt := by
      have e0' : (0 : Int64).toInt = 0 := by decide
      have := c72
      rw [← Int64.toInt_inj, e0'] at this
      omega
    obtain ⟨v128, hv128⟩ : ∃ z : Int64, z = ((q3 &&& (9223372036854775807 : Int64)) % v66) := ⟨_, rfl⟩
    refine own_st (B := Tg118.setTop (mkF m 130 #[.val (.long q0), .second, .val (.long q1), .second, .val (.long q2), .second, .val (.long q3), .second, .val (.int p4), .val (.int p5), .val (.long v5), .second, .val (.long v18), .second, .val (.long v28), .second, .val (.long v41), .second, .val (.long v52), .second, .val (.long v66), .second, .val (.ref b79), .val (.long v128), .second, .unset, .unset, .unset] [])) (fun target kt => ?_) ?_
    · show Steps p.tables e below (Tg118.setTop (mkF m 119 #[.val (.long q0), .second, .val (.long q1), .second, .val (.long q2), .second, .val (.long q3), .second, .val (.int p4), .val (.int p5), .val (.long v5), .second, .val (.long v18), .second, .val (.long v28), .second, .val (.long v41), .second, .val (.long v52), .second, .val (.long v66), .second, .val (.ref b79), .unset, .unset, .unset, .unset, .unset] [])) target
      refine XS.lload Xg118.here hx rfl (hb hby at_119) rfl ?_
      show Steps p.tables e below (Tg118.setTop (mkF m 121 #[.val (.long q0), .second, .val (.long q1), .second, .val (.long q2), .second, .val (.long q3), .second, .val (.int p4), .val (.int p5), .val (.long v5), .second, .val (.long v18), .second, .val (.long v28), .second, .val (.long v41), .second, .val (.long v52), .second, .val (.long v66), .second, .val (.ref b79), .unset, .unset, .unset, .unset, .unset] [(.long q3)])) target
      refine Xg118.ldc2Long hx hown (mvT hZ (hw _ (List.mem_of_getElem? (i := 2) rfl))) (g := (mkF m 121 #[.val (.long q0), .second, .val (.long q1), .second, .val (.long q2), .second, .val (.long q3), .second, .val (.int p4), .val (.int p5), .val (.long v5), .second, .val (.long v18), .second, .val (.long v28), .second, .val (.long v41), .second, .val (.long v52), .second, .val (.long v66), .second, .val (.ref b79), .unset, .unset, .unset, .unset, .unset] [(.long q3)])) rfl (hb hby at_121) _ ?_
      show Steps p.tables e below (Tg118.setTop (mkF m 124 #[.val (.long q0), .second, .val (.long q1), .second, .val (.long q2), .second, .val (.long q3), .second, .val (.int p4), .val (.int p5), .val (.long v5), .second, .val (.long v18), .second, .val (.long v28), .second, .val (.long v41), .second, .val (.long v52), .second, .val (.long v66), .second, .val (.ref b79), .unset, .unset, .unset, .unset, .unset] [(.long (9223372036854775807 : Int64)), (.long q3)])) target
      refine XS.land Xg118.here hx rfl (hb hby at_124) rfl ?_
      show Steps p.tables e below (Tg118.setTop (mkF m 125 #[.val (.long q0), .second, .val (.long q1), .second, .val (.long q2), .second, .val (.long q3), .second, .val (.int p4), .val (.int p5), .val (.long v5), .second, .val (.long v18), .second, .val (.long v28), .second, .val (.long v41), .second, .val (.long v52), .second, .val (.long v66), .second, .val (.ref b79), .unset, .unset, .unset, .unset, .unset] [(.long (q3 &&& (9223372036854775807 : Int64)))])) target
      refine XS.lload Xg118.here hx rfl (hb hby at_125) rfl ?_
      show Steps p.tables e below (Tg118.setTop (mkF m 127 #[.val (.long q0), .second, .val (.long q1), .second, .val (.long q2), .second, .val (.long q3), .second, .val (.int p4), .val (.int p5), .val (.long v5), .second, .val (.long v18), .second, .val (.long v28), .second, .val (.long v41), .second, .val (.long v52), .second, .val (.long v66), .second, .val (.ref b79), .unset, .unset, .unset, .unset, .unset] [(.long v66), (.long (q3 &&& (9223372036854775807 : Int64)))])) target
      refine own_lremM Xg118 hx rfl (hb hby at_127) rfl c72 ?_
      show Steps p.tables e below (Tg118.setTop (mkF m 128 #[.val (.long q0), .second, .val (.long q1), .second, .val (.long q2), .second, .val (.long q3), .second, .val (.int p4), .val (.int p5), .val (.long v5), .second, .val (.long v18), .second, .val (.long v28), .second, .val (.long v41), .second, .val (.long v52), .second, .val (.long v66), .second, .val (.ref b79), .unset, .unset, .unset, .unset, .unset] [(.long ((q3 &&& (9223372036854775807 : Int64)) % v66))])) target
      refine XS.lstore Xg118.here hx rfl (hb hby at_128) rfl (l' := #[.val (.long q0), .second, .val (.long q1), .second, .val (.long q2), .second, .val (.long q3), .second, .val (.int p4), .val (.int p5), .val (.long v5), .second, .val (.long v18), .second, .val (.long v28), .second, .val (.long v41), .second, .val (.long v52), .second, .val (.long v66), .second, .val (.ref b79), .val (.long v128), .second, .unset, .unset, .unset]) (by subst hv128; rfl) ?_
      exact kt
    have hN : 0 ≤ v128.toInt ∧ v128.toInt < v66.toInt := by rw [hv128]; exact own_mod64 q3 v66 hE5
    refine own_st (B := Tg118.setTop (mkF m 142 #[.val (.long q0), .second, .val (.long q1), .second, .val (.long q2), .second, .val (.long q3), .second, .val (.int p4), .val (.int p5), .val (.long v5), .second, .val (.long v18), .second, .val (.long v28), .second, .val (.long v41), .second, .val (.long v52), .second, .val (.long v66), .second, .val (.ref b79), .val (.long v128), .second, .unset, .unset, .unset] [(.long v128), (.long v52), (.long v41), (.long v28), (.long v18), (.long v5)])) (fun target kt => ?_) ?_
    · show Steps p.tables e below (Tg118.setTop (mkF m 130 #[.val (.long q0), .second, .val (.long q1), .second, .val (.long q2), .second, .val (.long q3), .second, .val (.int p4), .val (.int p5), .val (.long v5), .second, .val (.long v18), .second, .val (.long v28), .second, .val (.long v41), .second, .val (.long v52), .second, .val (.long v66), .second, .val (.ref b79), .val (.long v128), .second, .unset, .unset, .unset] [])) target
      refine XS.lload Xg118.here hx rfl (hb hby at_130) rfl ?_
      show Steps p.tables e below (Tg118.setTop (mkF m 132 #[.val (.long q0), .second, .val (.long q1), .second, .val (.long q2), .second, .val (.long q3), .second, .val (.int p4), .val (.int p5), .val (.long v5), .second, .val (.long v18), .second, .val (.long v28), .second, .val (.long v41), .second, .val (.long v52), .second, .val (.long v66), .second, .val (.ref b79), .val (.long v128), .second, .unset, .unset, .unset] [(.long v5)])) target
      refine XS.lload Xg118.here hx rfl (hb hby at_132) rfl ?_
      show Steps p.tables e below (Tg118.setTop (mkF m 134 #[.val (.long q0), .second, .val (.long q1), .second, .val (.long q2), .second, .val (.long q3), .second, .val (.int p4), .val (.int p5), .val (.long v5), .second, .val (.long v18), .second, .val (.long v28), .second, .val (.long v41), .second, .val (.long v52), .second, .val (.long v66), .second, .val (.ref b79), .val (.long v128), .second, .unset, .unset, .unset] [(.long v18), (.long v5)])) target
      refine XS.lload Xg118.here hx rfl (hb hby at_134) rfl ?_
      show Steps p.tables e below (Tg118.setTop (mkF m 136 #[.val (.long q0), .second, .val (.long q1), .second, .val (.long q2), .second, .val (.long q3), .second, .val (.int p4), .val (.int p5), .val (.long v5), .second, .val (.long v18), .second, .val (.long v28), .second, .val (.long v41), .second, .val (.long v52), .second, .val (.long v66), .second, .val (.ref b79), .val (.long v128), .second, .unset, .unset, .unset] [(.long v28), (.long v18), (.long v5)])) target
      refine XS.lload Xg118.here hx rfl (hb hby at_136) rfl ?_
      show Steps p.tables e below (Tg118.setTop (mkF m 138 #[.val (.long q0), .second, .val (.long q1), .second, .val (.long q2), .second, .val (.long q3), .second, .val (.int p4), .val (.int p5), .val (.long v5), .second, .val (.long v18), .second, .val (.long v28), .second, .val (.long v41), .second, .val (.long v52), .second, .val (.long v66), .second, .val (.ref b79), .val (.long v128), .second, .unset, .unset, .unset] [(.long v41), (.long v28), (.long v18), (.long v5)])) target
      refine XS.lload Xg118.here hx rfl (hb hby at_138) rfl ?_
      show Steps p.tables e below (Tg118.setTop (mkF m 140 #[.val (.long q0), .second, .val (.long q1), .second, .val (.long q2), .second, .val (.long q3), .second, .val (.int p4), .val (.int p5), .val (.long v5), .second, .val (.long v18), .second, .val (.long v28), .second, .val (.long v41), .second, .val (.long v52), .second, .val (.long v66), .second, .val (.ref b79), .val (.long v128), .second, .unset, .unset, .unset] [(.long v52), (.long v41), (.long v28), (.long v18), (.long v5)])) target
      refine XS.lload Xg118.here hx rfl (hb hby at_140) rfl ?_
      exact kt
    obtain ⟨_, _, ⟨Tg142, Lg142, kg142, ng142⟩, -, Xg142, ⟨Lcg142, hQg142, lg142, yg142, zg142⟩, stg142⟩ := Jvm.LawKit.callS Xg118 hx (y := (⟨"com/example/evenkeel/evenkeel/ProviderArraysOwnerPinLaw", "reference", "(JJJJJJ)I"⟩ : MethodName)) hown (mvT hZ (hw _ (List.mem_of_getElem? (i := 3) rfl))) (mvT hZ (hw _ (List.mem_of_getElem? (i := 4) rfl))) (mvT hZ (hw _ (List.mem_of_getElem? (i := 5) rfl))) (mvT hZ (hw _ (List.mem_of_getElem? (i := 6) rfl))) (by decide) (backOf (W := 0) (own_rm1 l Z a0 hw [] v5 v18 v28 v41 v52 v128 hg118 n0 Zz_6) hZ (hw _ (List.mem_of_getElem? (i := 6) rfl)) (hw _ (List.mem_of_getElem? (i := 5) rfl)) (by decide) (by decide)) (g := (mkF m 142 #[.val (.long q0), .second, .val (.long q1), .second, .val (.long q2), .second, .val (.long q3), .second, .val (.int p4), .val (.int p5), .val (.long v5), .second, .val (.long v18), .second, .val (.long v28), .second, .val (.long v41), .second, .val (.long v52), .second, .val (.long v66), .second, .val (.ref b79), .val (.long v128), .second, .unset, .unset, .unset] [(.long v128), (.long v52), (.long v41), (.long v28), (.long v18), (.long v5)])) rfl (by rw [hml]; rfl) (argsL := [(.long v5), (.long v18), (.long v28), (.long v41), (.long v52), (.long v128)]) (rest := []) (lenOf own_pd0 rfl) rfl (by show 2 * 0 + _ ≤ _; exact Nat.le_of_eq rfl) (hb hby at_142) (fun _ _ => ⟨rfl, eg118, (by decide : 1 + 0 ≤ _), (by decide : 6 + 0 ≤ _)⟩)
    dsimp only [Pt.U, Pt.locs, Pt.cells, Pt.slots] at Xg142 lg142 yg142 zg142 stg142 hQg142
    subst lg142 yg142 zg142
    obtain ⟨rfl, Ng142q, eg142⟩ := hQg142
    have Ng142 := Fr.app Ng118 Ng142q
    refine own_st (stg142) ?_
    obtain ⟨v145, hv145⟩ : ∃ z : Int32, z = (if v128 < v5 then (0 : Int32) else (if v128 < v18 then (1 : Int32) else (if v128 < v28 then (2 : Int32) else (if v128 < v41 then (3 : Int32) else (if v128 < v52 then (4 : Int32) else (5 : Int32)))))) := ⟨_, rfl⟩
    refine own_st (B := Tg142.setTop (mkF m 147 #[.val (.long q0), .second, .val (.long q1), .second, .val (.long q2), .second, .val (.long q3), .second, .val (.int p4), .val (.int p5), .val (.long v5), .second, .val (.long v18), .second, .val (.long v28), .second, .val (.long v41), .second, .val (.long v52), .second, .val (.long v66), .second, .val (.ref b79), .val (.long v128), .second, .val (.int v145), .unset, .unset] [])) (fun target kt => ?_) ?_
    · show Steps p.tables e below (Tg142.setTop (mkF m 145 #[.val (.long q0), .second, .val (.long q1), .second, .val (.long q2), .second, .val (.long q3), .second, .val (.int p4), .val (.int p5), .val (.long v5), .second, .val (.long v18), .second, .val (.long v28), .second, .val (.long v41), .second, .val (.long v52), .second, .val (.long v66), .second, .val (.ref b79), .val (.long v128), .second, .unset, .unset, .unset] [(.int (if v128 < v5 then (0 : Int32) else (if v128 < v18 then (1 : Int32) else (if v128 < v28 then (2 : Int32) else (if v128 < v41 then (3 : Int32) else (if v128 < v52 then (4 : Int32) else (5 : Int32)))))))])) target
      refine XS.istore Xg142.here hx rfl (hb hby at_145) rfl (l' := #[.val (.long q0), .second, .val (.long q1), .second, .val (.long q2), .second, .val (.long q3), .second, .val (.int p4), .val (.int p5), .val (.long v5), .second, .val (.long v18), .second, .val (.long v28), .second, .val (.long v41), .second, .val (.long v52), .second, .val (.long v66), .second, .val (.ref b79), .val (.long v128), .second, .val (.int v145), .unset, .unset]) (by subst hv145; rfl) ?_
      exact kt
    have hR := own_ends v5 v18 v28 v41 v52 v66 v128 m1.1 m2.1 m3.1 m4.1 m5.1 hN.2 v145 hv145 a118 (by simp [ha118, ha112, ha106, ha100, ha94, ha88]) (by simp [ha118, ha112, ha106, ha100, ha94, ha88]) (by simp [ha118, ha112, ha106, ha100, ha94, ha88]) (by simp [ha118, ha112, ha106, ha100, ha94, ha88]) (by simp [ha118, ha112, ha106, ha100, ha94, ha88]) (by simp [ha118, ha112, ha106, ha100, ha94, ha88])
    have hR1 : (v145 + (1 : Int32)).toInt = v145.toInt + 1 := by have k1 := c_iadd v145 1; have e1' : (1 : Int32).toInt = 1 := (by decide); have r1 := rng32 (v145 + 1); rw [e1'] at k1; have := hR.1; have := hR.2.1; omega
    have hR2 : ((6 : Int32) - v145).toInt = 6 - v145.toInt := by have k1 := c_isub 6 v145; have e1' : (6 : Int32).toInt = 6 := (by decide); have r1 := rng32 (6 - v145); rw [e1'] at k1; have := hR.1; have := hR.2.1; omega
    have hR3 : v145 + (1 : Int32) ≠ 0 := fun q => by have h := congrArg Int32.toInt q; rw [hR1, show (0 : Int32).toInt = 0 by decide] at h; have := hR.1; omega
    have hR4 : (6 : Int32) - v145 ≠ 0 := fun q => by have h := congrArg Int32.toInt q; rw [hR2, show (0 : Int32).toInt = 0 by decide] at h; have := hR.2.1; omega
    obtain ⟨v157, hv157⟩ : ∃ z : Int32, z = ((p4 &&& (2147483647 : Int32)) % (v145 + (1 : Int32))) := ⟨_, rfl⟩
    obtain ⟨v173, hv173⟩ : ∃ z : Int32, z = (v145 + ((p5 &&& (2147483647 : Int32)) % ((6 : Int32) - v145))) := ⟨_, rfl⟩
    refine own_st (B := Tg142.setTop (mkF m 175 #[.val (.long q0), .second, .val (.long q1), .second, .val (.long q2), .second, .val (.long q3), .second, .val (.int p4), .val (.int p5), .val (.long v5), .second, .val (.long v18), .second, .val (.long v28), .second, .val (.long v41), .second, .val (.long v52), .second, .val (.long v66), .second, .val (.ref b79), .val (.long v128), .second, .val (.int v145), .val (.int v157), .val (.int v173)] [])) (fun target kt => ?_) ?_
    · show Steps p.tables e below (Tg142.setTop (mkF m 147 #[.val (.long q0), .second, .val (.long q1), .second, .val (.long q2), .second, .val (.long q3), .second, .val (.int p4), .val (.int p5), .val (.long v5), .second, .val (.long v18), .second, .val (.long v28), .second, .val (.long v41), .second, .val (.long v52), .second, .val (.long v66), .second, .val (.ref b79), .val (.long v128), .second, .val (.int v145), .unset, .unset] [])) target
      refine XS.iload Xg142.here hx rfl (hb hby at_147) rfl ?_
      show Steps p.tables e below (Tg142.setTop (mkF m 149 #[.val (.long q0), .second, .val (.long q1), .second, .val (.long q2), .second, .val (.long q3), .second, .val (.int p4), .val (.int p5), .val (.long v5), .second, .val (.long v18), .second, .val (.long v28), .second, .val (.long v41), .second, .val (.long v52), .second, .val (.long v66), .second, .val (.ref b79), .val (.long v128), .second, .val (.int v145), .unset, .unset] [(.int p4)])) target
      refine Xg142.ldcInt hx hown (mvT hZ (hw _ (List.mem_of_getElem? (i := 7) rfl))) (g := (mkF m 149 #[.val (.long q0), .second, .val (.long q1), .second, .val (.long q2), .second, .val (.long q3), .second, .val (.int p4), .val (.int p5), .val (.long v5), .second, .val (.long v18), .second, .val (.long v28), .second, .val (.long v41), .second, .val (.long v52), .second, .val (.long v66), .second, .val (.ref b79), .val (.long v128), .second, .val (.int v145), .unset, .unset] [(.int p4)])) rfl (hb hby at_149) _ ?_
      show Steps p.tables e below (Tg142.setTop (mkF m 151 #[.val (.long q0), .second, .val (.long q1), .second, .val (.long q2), .second, .val (.long q3), .second, .val (.int p4), .val (.int p5), .val (.long v5), .second, .val (.long v18), .second, .val (.long v28), .second, .val (.long v41), .second, .val (.long v52), .second, .val (.long v66), .second, .val (.ref b79), .val (.long v128), .second, .val (.int v145), .unset, .unset] [(.int (2147483647 : Int32)), (.int p4)])) target
      refine XS.iand Xg142.here hx rfl (hb hby at_151) rfl ?_
      show Steps p.tables e below (Tg142.setTop (mkF m 152 #[.val (.long q0), .second, .val (.long q1), .second, .val (.long q2), .second, .val (.long q3), .second, .val (.int p4), .val (.int p5), .val (.long v5), .second, .val (.long v18), .second, .val (.long v28), .second, .val (.long v41), .second, .val (.long v52), .second, .val (.long v66), .second, .val (.ref b79), .val (.long v128), .second, .val (.int v145), .unset, .unset] [(.int (p4 &&& (2147483647 : Int32)))])) target
      refine XS.iload Xg142.here hx rfl (hb hby at_152) rfl ?_
      show Steps p.tables e below (Tg142.setTop (mkF m 154 #[.val (.long q0), .second, .val (.long q1), .second, .val (.long q2), .second, .val (.long q3), .second, .val (.int p4), .val (.int p5), .val (.long v5), .second, .val (.long v18), .second, .val (.long v28), .second, .val (.long v41), .second, .val (.long v52), .second, .val (.long v66), .second, .val (.ref b79), .val (.long v128), .second, .val (.int v145), .unset, .unset] [(.int v145), (.int (p4 &&& (2147483647 : Int32)))])) target
      refine XS.iconst Xg142.here hx rfl (hb hby at_154) ?_
      show Steps p.tables e below (Tg142.setTop (mkF m 155 #[.val (.long q0), .second, .val (.long q1), .second, .val (.long q2), .second, .val (.long q3), .second, .val (.int p4), .val (.int p5), .val (.long v5), .second, .val (.long v18), .second, .val (.long v28), .second, .val (.long v41), .second, .val (.long v52), .second, .val (.long v66), .second, .val (.ref b79), .val (.long v128), .second, .val (.int v145), .unset, .unset] [(.int (1 : Int32)), (.int v145), (.int (p4 &&& (2147483647 : Int32)))])) target
      refine XS.iadd Xg142.here hx rfl (hb hby at_155) rfl ?_
      show Steps p.tables e below (Tg142.setTop (mkF m 156 #[.val (.long q0), .second, .val (.long q1), .second, .val (.long q2), .second, .val (.long q3), .second, .val (.int p4), .val (.int p5), .val (.long v5), .second, .val (.long v18), .second, .val (.long v28), .second, .val (.long v41), .second, .val (.long v52), .second, .val (.long v66), .second, .val (.ref b79), .val (.long v128), .second, .val (.int v145), .unset, .unset] [(.int (v145 + (1 : Int32))), (.int (p4 &&& (2147483647 : Int32)))])) target
      refine iremM Xg142 hx rfl (hb hby at_156) rfl hR3 ?_
      show Steps p.tables e below (Tg142.setTop (mkF m 157 #[.val (.long q0), .second, .val (.long q1), .second, .val (.long q2), .second, .val (.long q3), .second, .val (.int p4), .val (.int p5), .val (.long v5), .second, .val (.long v18), .second, .val (.long v28), .second, .val (.long v41), .second, .val (.long v52), .second, .val (.long v66), .second, .val (.ref b79), .val (.long v128), .second, .val (.int v145), .unset, .unset] [(.int ((p4 &&& (2147483647 : Int32)) % (v145 + (1 : Int32))))])) target
      refine XS.istore Xg142.here hx rfl (hb hby at_157) rfl (l' := #[.val (.long q0), .second, .val (.long q1), .second, .val (.long q2), .second, .val (.long q3), .second, .val (.int p4), .val (.int p5), .val (.long v5), .second, .val (.long v18), .second, .val (.long v28), .second, .val (.long v41), .second, .val (.long v52), .second, .val (.long v66), .second, .val (.ref b79), .val (.long v128), .second, .val (.int v145), .val (.int v157), .unset]) (by subst hv157; rfl) ?_
      show Steps p.tables e below (Tg142.setTop (mkF m 159 #[.val (.long q0), .second, .val (.long q1), .second, .val (.long q2), .second, .val (.long q3), .second, .val (.int p4), .val (.int p5), .val (.long v5), .second, .val (.long v18), .second, .val (.long v28), .second, .val (.long v41), .second, .val (.long v52), .second, .val (.long v66), .second, .val (.ref b79), .val (.long v128), .second, .val (.int v145), .val (.int v157), .unset] [])) target
      refine XS.iload Xg142.here hx rfl (hb hby at_159) rfl ?_
      show Steps p.tables e below (Tg142.setTop (mkF m 161 #[.val (.long q0), .second, .val (.long q1), .second, .val (.long q2), .second, .val (.long q3), .second, .val (.int p4), .val (.int p5), .val (.long v5), .second, .val (.long v18), .second, .val (.long v28), .second, .val (.long v41), .second, .val (.long v52), .second, .val (.long v66), .second, .val (.ref b79), .val (.long v128), .second, .val (.int v145), .val (.int v157), .unset] [(.int v145)])) target
      refine XS.iload Xg142.here hx rfl (hb hby at_161) rfl ?_
      show Steps p.tables e below (Tg142.setTop (mkF m 163 #[.val (.long q0), .second, .val (.long q1), .second, .val (.long q2), .second, .val (.long q3), .second, .val (.int p4), .val (.int p5), .val (.long v5), .second, .val (.long v18), .second, .val (.long v28), .second, .val (.long v41), .second, .val (.long v52), .second, .val (.long v66), .second, .val (.ref b79), .val (.long v128), .second, .val (.int v145), .val (.int v157), .unset] [(.int p5), (.int v145)])) target
      refine Xg142.ldcInt hx hown (mvT hZ (hw _ (List.mem_of_getElem? (i := 7) rfl))) (g := (mkF m 163 #[.val (.long q0), .second, .val (.long q1), .second, .val (.long q2), .second, .val (.long q3), .second, .val (.int p4), .val (.int p5), .val (.long v5), .second, .val (.long v18), .second, .val (.long v28), .second, .val (.long v41), .second, .val (.long v52), .second, .val (.long v66), .second, .val (.ref b79), .val (.long v128), .second, .val (.int v145), .val (.int v157), .unset] [(.int p5), (.int v145)])) rfl (hb hby at_163) _ ?_
      show Steps p.tables e below (Tg142.setTop (mkF m 165 #[.val (.long q0), .second, .val (.long q1), .second, .val (.long q2), .second, .val (.long q3), .second, .val (.int p4), .val (.int p5), .val (.long v5), .second, .val (.long v18), .second, .val (.long v28), .second, .val (.long v41), .second, .val (.long v52), .second, .val (.long v66), .second, .val (.ref b79), .val (.long v128), .second, .val (.int v145), .val (.int v157), .unset] [(.int (2147483647 : Int32)), (.int p5), (.int v145)])) target
      refine XS.iand Xg142.here hx rfl (hb hby at_165) rfl ?_
      show Steps p.tables e below (Tg142.setTop (mkF m 166 #[.val (.long q0), .second, .val (.long q1), .second, .val (.long q2), .second, .val (.long q3), .second, .val (.int p4), .val (.int p5), .val (.long v5), .second, .val (.long v18), .second, .val (.long v28), .second, .val (.long v41), .second, .val (.long v52), .second, .val (.long v66), .second, .val (.ref b79), .val (.long v128), .second, .val (.int v145), .val (.int v157), .unset] [(.int (p5 &&& (2147483647 : Int32))), (.int v145)])) target
      refine XS.bipush Xg142.here hx rfl (hb hby at_166) ?_
      show Steps p.tables e below (Tg142.setTop (mkF m 168 #[.val (.long q0), .second, .val (.long q1), .second, .val (.long q2), .second, .val (.long q3), .second, .val (.int p4), .val (.int p5), .val (.long v5), .second, .val (.long v18), .second, .val (.long v28), .second, .val (.long v41), .second, .val (.long v52), .second, .val (.long v66), .second, .val (.ref b79), .val (.long v128), .second, .val (.int v145), .val (.int v157), .unset] [(.int (6 : Int32)), (.int (p5 &&& (2147483647 : Int32))), (.int v145)])) target
      refine XS.iload Xg142.here hx rfl (hb hby at_168) rfl ?_
      show Steps p.tables e below (Tg142.setTop (mkF m 170 #[.val (.long q0), .second, .val (.long q1), .second, .val (.long q2), .second, .val (.long q3), .second, .val (.int p4), .val (.int p5), .val (.long v5), .second, .val (.long v18), .second, .val (.long v28), .second, .val (.long v41), .second, .val (.long v52), .second, .val (.long v66), .second, .val (.ref b79), .val (.long v128), .second, .val (.int v145), .val (.int v157), .unset] [(.int v145), (.int (6 : Int32)), (.int (p5 &&& (2147483647 : Int32))), (.int v145)])) target
      refine XS.isub Xg142.here hx rfl (hb hby at_170) rfl ?_
      show Steps p.tables e below (Tg142.setTop (mkF m 171 #[.val (.long q0), .second, .val (.long q1), .second, .val (.long q2), .second, .val (.long q3), .second, .val (.int p4), .val (.int p5), .val (.long v5), .second, .val (.long v18), .second, .val (.long v28), .second, .val (.long v41), .second, .val (.long v52), .second, .val (.long v66), .second, .val (.ref b79), .val (.long v128), .second, .val (.int v145), .val (.int v157), .unset] [(.int ((6 : Int32) - v145)), (.int (p5 &&& (2147483647 : Int32))), (.int v145)])) target
      refine iremM Xg142 hx rfl (hb hby at_171) rfl hR4 ?_
      show Steps p.tables e below (Tg142.setTop (mkF m 172 #[.val (.long q0), .second, .val (.long q1), .second, .val (.long q2), .second, .val (.long q3), .second, .val (.int p4), .val (.int p5), .val (.long v5), .second, .val (.long v18), .second, .val (.long v28), .second, .val (.long v41), .second, .val (.long v52), .second, .val (.long v66), .second, .val (.ref b79), .val (.long v128), .second, .val (.int v145), .val (.int v157), .unset] [(.int ((p5 &&& (2147483647 : Int32)) % ((6 : Int32) - v145))), (.int v145)])) target
      refine XS.iadd Xg142.here hx rfl (hb hby at_172) rfl ?_
      show Steps p.tables e below (Tg142.setTop (mkF m 173 #[.val (.long q0), .second, .val (.long q1), .second, .val (.long q2), .second, .val (.long q3), .second, .val (.int p4), .val (.int p5), .val (.long v5), .second, .val (.long v18), .second, .val (.long v28), .second, .val (.long v41), .second, .val (.long v52), .second, .val (.long v66), .second, .val (.ref b79), .val (.long v128), .second, .val (.int v145), .val (.int v157), .unset] [(.int (v145 + ((p5 &&& (2147483647 : Int32)) % ((6 : Int32) - v145))))])) target
      refine XS.istore Xg142.here hx rfl (hb hby at_173) rfl (l' := #[.val (.long q0), .second, .val (.long q1), .second, .val (.long q2), .second, .val (.long q3), .second, .val (.int p4), .val (.int p5), .val (.long v5), .second, .val (.long v18), .second, .val (.long v28), .second, .val (.long v41), .second, .val (.long v52), .second, .val (.long v66), .second, .val (.ref b79), .val (.long v128), .second, .val (.int v145), .val (.int v157), .val (.int v173)]) (by subst hv173; rfl) ?_
      exact kt
    have hL : 0 ≤ v157.toInt ∧ v157.toInt ≤ v145.toInt := by
      have := own_mod32 p4 (v145 + 1) (by rw [hR1]; have := hR.1; omega)
      rw [← hv157, hR1] at this
      omega
    have hH : v145.toInt ≤ v173.toInt ∧ v173.toInt < 6 := by
      have h1 := own_mod32 p5 ((6 : Int32) - v145) (by rw [hR2]; have := hR.2.1; omega)
      have h2 := c_iadd v145 ((p5 &&& (2147483647 : Int32)) % ((6 : Int32) - v145))
      rw [← hv173] at h2
      have h3 := rng32 v173
      rw [hR2] at h1
      have := hR.1
      have := hR.2.1
      omega
    refine own_st (B := Tg142.setTop (mkF m 183 #[.val (.long q0), .second, .val (.long q1), .second, .val (.long q2), .second, .val (.long q3), .second, .val (.int p4), .val (.int p5), .val (.long v5), .second, .val (.long v18), .second, .val (.long v28), .second, .val (.long v41), .second, .val (.long v52), .second, .val (.long v66), .second, .val (.ref b79), .val (.long v128), .second, .val (.int v145), .val (.int v157), .val (.int v173)] [(.long v128), (.int v173), (.int v157), (.ref b79)])) (fun target kt => ?_) ?_
    · show Steps p.tables e below (Tg142.setTop (mkF m 175 #[.val (.long q0), .second, .val (.long q1), .second, .val (.long q2), .second, .val (.long q3), .second, .val (.int p4), .val (.int p5), .val (.long v5), .second, .val (.long v18), .second, .val (.long v28), .second, .val (.long v41), .second, .val (.long v52), .second, .val (.long v66), .second, .val (.ref b79), .val (.long v128), .second, .val (.int v145), .val (.int v157), .val (.int v173)] [])) target
      refine XS.aload Xg142.here hx rfl (hb hby at_175) rfl rfl ?_
      show Steps p.tables e below (Tg142.setTop (mkF m 177 #[.val (.long q0), .second, .val (.long q1), .second, .val (.long q2), .second, .val (.long q3), .second, .val (.int p4), .val (.int p5), .val (.long v5), .second, .val (.long v18), .second, .val (.long v28), .second, .val (.long v41), .second, .val (.long v52), .second, .val (.long v66), .second, .val (.ref b79), .val (.long v128), .second, .val (.int v145), .val (.int v157), .val (.int v173)] [(.ref b79)])) target
      refine XS.iload Xg142.here hx rfl (hb hby at_177) rfl ?_
      show Steps p.tables e below (Tg142.setTop (mkF m 179 #[.val (.long q0), .second, .val (.long q1), .second, .val (.long q2), .second, .val (.long q3), .second, .val (.int p4), .val (.int p5), .val (.long v5), .second, .val (.long v18), .second, .val (.long v28), .second, .val (.long v41), .second, .val (.long v52), .second, .val (.long v66), .second, .val (.ref b79), .val (.long v128), .second, .val (.int v145), .val (.int v157), .val (.int v173)] [(.int v157), (.ref b79)])) target
      refine XS.iload Xg142.here hx rfl (hb hby at_179) rfl ?_
      show Steps p.tables e below (Tg142.setTop (mkF m 181 #[.val (.long q0), .second, .val (.long q1), .second, .val (.long q2), .second, .val (.long q3), .second, .val (.int p4), .val (.int p5), .val (.long v5), .second, .val (.long v18), .second, .val (.long v28), .second, .val (.long v41), .second, .val (.long v52), .second, .val (.long v66), .second, .val (.ref b79), .val (.long v128), .second, .val (.int v145), .val (.int v157), .val (.int v173)] [(.int v173), (.int v157), (.ref b79)])) target
      refine XS.lload Xg142.here hx rfl (hb hby at_181) rfl ?_
      exact kt
    obtain ⟨_, _, ⟨Tg183, Lg183, kg183, ng183⟩, -, Xg183, ⟨Lcg183, hQg183, lg183, yg183, zg183⟩, stg183⟩ := Jvm.LawKit.callS Xg142 hx (y := (⟨"com/example/evenkeel/evenkeel/ProviderArrays", "owner", "([JIIJ)I"⟩ : MethodName)) hown (mvT hZ (hw _ (List.mem_of_getElem? (i := 8) rfl))) (mvT hZ (hw _ (List.mem_of_getElem? (i := 9) rfl))) (mvT hZ (hw _ (List.mem_of_getElem? (i := 10) rfl))) (mvT hZ (hw _ (List.mem_of_getElem? (i := 11) rfl))) (by decide) (backOf (W := 0) (own_rm2 l Z a0 hw [] b79 v157 v173 v128 v145 a118 hg118 n0 Zz_6 F_12 (show 0 ≤ v157.toInt ∧ v157.toInt ≤ v145.toInt from hL) (show v145.toInt ≤ v173.toInt ∧ v173.toInt < 6 from hH) (show ∀ i : Nat, (i : Int) < v145.toInt → ¬ v128 < a118 i from hR.2.2.1) (show ∀ i : Nat, v145.toInt ≤ (i : Int) → i < 6 → v128 < a118 i from hR.2.2.2)) hZ (hw _ (List.mem_of_getElem? (i := 11) rfl)) (hw _ (List.mem_of_getElem? (i := 10) rfl)) (by decide) (by decide)) (g := (mkF m 183 #[.val (.long q0), .second, .val (.long q1), .second, .val (.long q2), .second, .val (.long q3), .second, .val (.int p4), .val (.int p5), .val (.long v5), .second, .val (.long v18), .second, .val (.long v28), .second, .val (.long v41), .second, .val (.long v52), .second, .val (.long v66), .second, .val (.ref b79), .val (.long v128), .second, .val (.int v145), .val (.int v157), .val (.int v173)] [(.long v128), (.int v173), (.int v157), (.ref b79)])) rfl (by rw [hml]; rfl) (argsL := [(.ref b79), (.int v157), (.int v173), (.long v128)]) (rest := []) (lenOf own_pd1 rfl) rfl (by show 2 * 0 + _ ≤ _; exact Nat.le_of_eq rfl) (hb hby at_183) (fun _ _ => ⟨rfl, eg142, (by decide : 1 + 0 ≤ _), (by decide : 6 + 0 ≤ _)⟩)
    dsimp only [Pt.U, Pt.locs, Pt.cells, Pt.slots] at Xg183 lg183 yg183 zg183 stg183 hQg183
    subst lg183 yg183 zg183
    obtain ⟨rfl, Ng183q, eg183⟩ := hQg183
    have Ng183 := Fr.app Ng142 Ng183q
    refine own_st (stg183) ?_
    refine own_st (B := Tg183.setTop (mkF m 188 #[.val (.long q0), .second, .val (.long q1), .second, .val (.long q2), .second, .val (.long q3), .second, .val (.int p4), .val (.int p5), .val (.long v5), .second, .val (.long v18), .second, .val (.long v28), .second, .val (.long v41), .second, .val (.long v52), .second, .val (.long v66), .second, .val (.ref b79), .val (.long v128), .second, .val (.int v145), .val (.int v157), .val (.int v173)] [(.int v145), (.int v145)])) (fun target kt => ?_) ?_
    · show Steps p.tables e below (Tg183.setTop (mkF m 186 #[.val (.long q0), .second, .val (.long q1), .second, .val (.long q2), .second, .val (.long q3), .second, .val (.int p4), .val (.int p5), .val (.long v5), .second, .val (.long v18), .second, .val (.long v28), .second, .val (.long v41), .second, .val (.long v52), .second, .val (.long v66), .second, .val (.ref b79), .val (.long v128), .second, .val (.int v145), .val (.int v157), .val (.int v173)] [(.int v145)])) target
      refine XS.iload Xg183.here hx rfl (hb hby at_186) rfl ?_
      exact kt
    have c188 : v145 = v145 := by
      rfl
    refine own_st (B := Tg183.setTop (mkF m 196 #[.val (.long q0), .second, .val (.long q1), .second, .val (.long q2), .second, .val (.long q3), .second, .val (.int p4), .val (.int p5), .val (.long v5), .second, .val (.long v18), .second, .val (.long v28), .second, .val (.long v41), .second, .val (.long v52), .second, .val (.long v66), .second, .val (.ref b79), .val (.long v128), .second, .val (.int v145), .val (.int v157), .val (.int v173)] [(.int (1 : Int32))])) (fun target kt => ?_) ?_
    · show Steps p.tables e below (Tg183.setTop (mkF m 188 #[.val (.long q0), .second, .val (.long q1), .second, .val (.long q2), .second, .val (.long q3), .second, .val (.int p4), .val (.int p5), .val (.long v5), .second, .val (.long v18), .second, .val (.long v28), .second, .val (.long v41), .second, .val (.long v52), .second, .val (.long v66), .second, .val (.ref b79), .val (.long v128), .second, .val (.int v145), .val (.int v157), .val (.int v173)] [(.int v145), (.int v145)])) target
      refine XS.icmpNo Xg183.here hx rfl (hb hby at_188) rfl (teq c188).2 ?_
      show Steps p.tables e below (Tg183.setTop (mkF m 191 #[.val (.long q0), .second, .val (.long q1), .second, .val (.long q2), .second, .val (.long q3), .second, .val (.int p4), .val (.int p5), .val (.long v5), .second, .val (.long v18), .second, .val (.long v28), .second, .val (.long v41), .second, .val (.long v52), .second, .val (.long v66), .second, .val (.ref b79), .val (.long v128), .second, .val (.int v145), .val (.int v157), .val (.int v173)] [])) target
      refine XS.iconst Xg183.here hx rfl (hb hby at_191) ?_
      show Steps p.tables e below (Tg183.setTop (mkF m 192 #[.val (.long q0), .second, .val (.long q1), .second, .val (.long q2), .second, .val (.long q3), .second, .val (.int p4), .val (.int p5), .val (.long v5), .second, .val (.long v18), .second, .val (.long v28), .second, .val (.long v41), .second, .val (.long v52), .second, .val (.long v66), .second, .val (.ref b79), .val (.long v128), .second, .val (.int v145), .val (.int v157), .val (.int v173)] [(.int (1 : Int32))])) target
      refine XS.goto Xg183.here hx rfl (pc0 := 192) (pc' := 196) rfl (hb hby at_192) (by decide) (by decide) ?_
      exact kt
    obtain ⟨fs, hr, hrun, hended, hW, hsame⟩ := Xg183.leave (v := some (.int (1 : Int32))) (fun h => by rw [Bd.returns] at h; cases h)
    have hend : Steps p.tables e below (Tg183.setTop (mkF m 196 #[.val (.long q0), .second, .val (.long q1), .second, .val (.long q2), .second, .val (.long q3), .second, .val (.int p4), .val (.int p5), .val (.long v5), .second, .val (.long v18), .second, .val (.long v28), .second, .val (.long v41), .second, .val (.long v52), .second, .val (.long v66), .second, .val (.ref b79), .val (.long v128), .second, .val (.int v145), .val (.int v157), .val (.int v173)] [(.int (1 : Int32))])) (Tg183.setFrames fs) := by
      exact retN Xg183 hx (t := .boolean) Bd.returns (by simp) (hb hby at_196) hr
    refine own_fin hend ⟨_, hrun, hended, _, _, rfl, ?_, ⟨_, rfl⟩, hW, hsame.mono (by decide) (by decide)⟩
    show own_Q0 Z q0 q1 q2 q3 p4 p5 h0 n0 _ Tg183.heap _
    rw [eg183]
    exact ⟨rfl, Ng183⟩
set_option maxRecDepth 65536 in
set_option maxHeartbeats 40000000 in
theorem own_comes_1 {Post : Tables → Env → Array Value → State → Outcome → State → Prop} (hpost : ∀ tb e args s v u, (limb_1_1.after args s (.returned v) u = true ∧ limb_1_2.after args s (.returned v) u = true ∧ True) → FrameEnd s (.returned v) u (Jvm.fieldLocs frame_1_writes args s ++ Jvm.arrayLocs frame_1_arrays args s ++ Jvm.staticLocs frame_1_statics s) 16 128 → Post tb e args s (.returned v) u) :
    ArmFor flags0 classFile x code maxLocals ret World_1 tables_1 room_1 Calls_1 rest_1 Pre_1 Post := by
  intro l hfl _ _ p e ha hc hk s m args below hf hA hF happ hP
  obtain ⟨hcalls, hrest, hpre⟩ := hP
  obtain ⟨-, -, -, hnamed, -, -, -, hat⟩ := (Spec.applies_iff hf).mp happ
  obtain ⟨hg, hn⟩ := and_e (Cond.before_iff.mp (show (Jvm.Cond.and given_1 narrow_1).before args s = true from hpre))
  obtain ⟨g1, g2⟩ := and_e hg
  obtain ⟨g3, g4⟩ := and_e g2
  obtain ⟨g5, g6⟩ := and_e g4
  obtain ⟨g7, g8⟩ := and_e g6
  obtain ⟨g9, g10⟩ := and_e g8
  obtain ⟨g11, g12⟩ := and_e g10
  obtain ⟨w0, w1, w2, w3, w4, w5, rfl⟩ : ∃ w0 w1 w2 w3 w4 w5 : Value, args = #[w0, w1, w2, w3, w4, w5] := by
    have hs : args.size = 6 := by simpa [Cond.value, given_1] using g1
    obtain ⟨L⟩ := args
    match L, hs with
    | [w0, w1, w2, w3, w4, w5], _ => exact ⟨w0, w1, w2, w3, w4, w5, rfl⟩
  have hw := fun d (hd : d ∈ tables_1) => atoms_spec (ws := Jvm.Cond.code x code maxLocals ret :: tables_1) hat d (List.mem_cons_of_mem _ hd)
  obtain ⟨i0, ei0⟩ := isL_v g3
  obtain rfl : w0 = (.long i0) := Option.some.inj ei0
  obtain ⟨i1, ei1⟩ := isL_v g5
  obtain rfl : w1 = (.long i1) := Option.some.inj ei1
  obtain ⟨i2, ei2⟩ := isL_v g7
  obtain rfl : w2 = (.long i2) := Option.some.inj ei2
  obtain ⟨i3, ei3⟩ := isL_v g9
  obtain rfl : w3 = (.long i3) := Option.some.inj ei3
  obtain ⟨i4, ei4⟩ := is_v g11
  obtain rfl : w4 = (.int i4) := Option.some.inj ei4
  obtain ⟨i5, ei5⟩ := is_v g12
  obtain rfl : w5 = (.int i5) := Option.some.inj ei5
  obtain ⟨n, o, h1, h2, h3, _, L, rfl, ⟨rfl, N⟩, hq⟩ := own_rm0 l s _ hw tables_1 i0 i1 i2 i3 i4 i5 s.heap s.heap.size (Nat.le_refl _) p e ha hc hk s m _ below hf ((Spec.applies_iff_loose hf).mp happ).1 ⟨rfl, State.Warmed39.refl s, rfl⟩ trivial
  refine ⟨n, _, h1, h2, h3, hpost _ _ _ _ _ _ ⟨Cond.after_iff.mpr rfl, Cond.after_iff.mpr (eq_i res_at (Term.int_eval (1)) rfl), trivial⟩ ⟨hq.1, hq.2.1, (hq.2.2.sift fun y hy => Or.inr (N y hy)).mono (by decide) (by decide)⟩⟩
theorem main_1_1 : Claimed_1_1 := own_comes_1 fun _ _ _ _ _ _ h hF => ⟨h.1, hF⟩
theorem main_1_2 : Claimed_1_2 := own_comes_1 fun _ _ _ _ _ _ h hF => ⟨h.2.1, hF⟩
end Jvm.Pilot.@@N@@
namespace Jvm.Pilot.@@N@@
open Jvm Jvm.ClassFile Sem Op Lib Jvm.Free Jvm.Stand Jvm.Pilot.@@N@@.Jvm.D
/-! MADE BY PROGRAM (witnessworld.py) out of the Statement's table words and the real class files: 11 classes; the members and pool entries that the words name. The judged class is class 1, her method 1. -/
namespace start1
open Jvm.ClassFile
def u (s : String) : CpInfo := .utf8 (stringToUtf16 s)
/-- a pool by its gaps: so many unusable entries, then the entry; so many at the end -/
def gap : Nat → List CpInfo → List CpInfo
  | 0, r => r
  | n + 1, r => .unusable :: gap n r
def poolList (es : List (Nat × CpInfo)) (last : Nat) : List CpInfo := es.foldr (fun e r => gap e.1 (e.2 :: r)) (gap last [])
def pool (es : List (Nat × CpInfo)) (last : Nat) : Array CpInfo := ⟨poolList es last⟩
def fileOf (pool : Array CpInfo) (this : Nat) (attrs : Array Attribute := #[]) (ms : Array MethodInfo := #[]) (fl : Nat := 33) (sup : Nat := 0) (ifs : Array Nat := #[]) (fds : Array FieldInfo := #[]) : ClassFile where
  minorVersion := 0
  majorVersion := 65
  constantPool := pool
  accessFlags := fl
  thisClass := this
  superClass := sup
  interfaces := ifs
  fields := fds
  methods := ms
  attributes := attrs
def plain (name : String) (sup : Option ClassId) : Class where
  name := name
  kind := .ordinary
  loader := none
  accessFlags := 33
  super := sup
  interfaces := #[]
  cf := none
  fields := #[]
  methods := #[]
  instanceTypes := #[]
  staticTypes := #[]
  resolved := #[]
  callSites := []
  init := .initialized
  statics := none
  mirror := none

def pool0 : Array CpInfo := pool [(5, u "<init>"), (0, u "()V"), (1, .class_ 10), (1, u "java/lang/Object")] 113

def k0m0 : Method := { name := "<init>", desc := "()V", sig := { parameters := [], returnType := none }, accessFlags := 1, code := none }
/-- java/lang/Object -/
def k0 : Class := { plain "java/lang/Object" none with
  accessFlags := 33
  interfaces := #[]
  cf := some (fileOf pool0 8 #[] #[{ accessFlags := 1, nameIndex := 5, descriptorIndex := 6, attributes := #[] }] 33 0 #[] #[])
  fields := #[]
  methods := #[k0m0]
  instanceTypes := #[]
  staticTypes := #[]
  resolved := Array.replicate 124 none
  statics := none }

def pool1 : Array CpInfo := pool [(2, .class_ 4), (1, u "java/lang/Object"), (0, u "<init>"), (0, u "()V"), (0, .long 2147483647), (3, .long 9223372036854775807), (1, .methodref 14 15), (0, .class_ 16), (0, .nameAndType 17 18), (0, u "com/example/evenkeel/evenkeel/ProviderArraysOwnerPinLaw"), (0, u "reference"), (0, u "(JJJJJJ)I"), (0, .integer 2147483647), (0, .methodref 21 22), (0, .class_ 23), (0, .nameAndType 24 25), (0, u "com/example/evenkeel/evenkeel/ProviderArrays"), (0, u "owner"), (0, u "([JIIJ)I"), (2, u "law"), (0, u "(JJJJII)Z")] 5

def k1m0 : Method := { name := "<init>", desc := "()V", sig := { parameters := [], returnType := none }, accessFlags := 2, code := none }
def k1c1 : Code := { maxStack := 12, maxLocals := 28, code := code, exceptionTable := #[], attributes := #[] }
def k1m1 : Method := { name := "law", desc := "(JJJJII)Z", sig := { parameters := [.long, .long, .long, .long, .int, .int], returnType := some .boolean }, accessFlags := 9, code := some k1c1 }
def k1c2 : Code := { maxStack := 4, maxLocals := 12, code := method_3_code, exceptionTable := #[], attributes := #[] }
def k1m2 : Method := { name := "reference", desc := "(JJJJJJ)I", sig := { parameters := [.long, .long, .long, .long, .long, .long], returnType := some .int }, accessFlags := 10, code := some k1c2 }
/-- com/example/evenkeel/evenkeel/ProviderArraysOwnerPinLaw -/
def k1 : Class := { plain "com/example/evenkeel/evenkeel/ProviderArraysOwnerPinLaw" (some 0) with
  accessFlags := 49
  interfaces := #[]
  cf := some (fileOf pool1 14 #[] #[{ accessFlags := 2, nameIndex := 5, descriptorIndex := 6, attributes := #[] }, { accessFlags := 9, nameIndex := 28, descriptorIndex := 29, attributes := #[] }, { accessFlags := 10, nameIndex := 17, descriptorIndex := 18, attributes := #[] }] 49 2 #[] #[])
  fields := #[]
  methods := #[k1m0, k1m1, k1m2]
  instanceTypes := #[]
  staticTypes := #[]
  resolved := Array.replicate 35 none
  statics := none }

def pool2 : Array CpInfo := pool [(2, .class_ 4), (1, u "java/lang/Object"), (0, u "<init>"), (0, u "()V"), (17, .class_ 26), (1, u "com/example/evenkeel/evenkeel/ProviderArrays"), (25, u "owner"), (0, u "([JIIJ)I")] 28

def k2m0 : Method := { name := "<init>", desc := "()V", sig := { parameters := [], returnType := none }, accessFlags := 2, code := none }
def k2c1 : Code := { maxStack := 4, maxLocals := 8, code := prog_66_method_11_code, exceptionTable := #[], attributes := #[] }
def k2m1 : Method := { name := "owner", desc := "([JIIJ)I", sig := { parameters := [(.array .long), .int, .int, .long], returnType := some .int }, accessFlags := 8, code := some k2c1 }
/-- com/example/evenkeel/evenkeel/ProviderArrays -/
def k2 : Class := { plain "com/example/evenkeel/evenkeel/ProviderArrays" (some 0) with
  accessFlags := 48
  interfaces := #[]
  cf := some (fileOf pool2 24 #[] #[{ accessFlags := 2, nameIndex := 5, descriptorIndex := 6, attributes := #[] }, { accessFlags := 8, nameIndex := 52, descriptorIndex := 53, attributes := #[] }] 48 2 #[] #[])
  fields := #[]
  methods := #[k2m0, k2m1]
  instanceTypes := #[]
  staticTypes := #[]
  resolved := Array.replicate 82 none
  statics := none }

def pool3 : Array CpInfo := pool [(1, u "java/lang/Cloneable"), (0, .class_ 1), (0, u "java/lang/Object"), (0, .class_ 3)] 3

/-- java/lang/Cloneable -/
def k3 : Class := { plain "java/lang/Cloneable" (some 0) with
  accessFlags := 1537
  interfaces := #[]
  cf := some (fileOf pool3 2 #[] #[] 1537 4 #[] #[])
  fields := #[]
  methods := #[]
  instanceTypes := #[]
  staticTypes := #[]
  resolved := Array.replicate 8 none
  statics := none }

def pool4 : Array CpInfo := pool [(1, u "java/io/Serializable"), (0, .class_ 1), (0, u "java/lang/Object"), (0, .class_ 3)] 3

/-- java/io/Serializable -/
def k4 : Class := { plain "java/io/Serializable" (some 0) with
  accessFlags := 1537
  interfaces := #[]
  cf := some (fileOf pool4 2 #[] #[] 1537 4 #[] #[])
  fields := #[]
  methods := #[]
  instanceTypes := #[]
  staticTypes := #[]
  resolved := Array.replicate 8 none
  statics := none }

/-- the primitive byte -/
def k5 : Class := { plain "byte" none with kind := .primitive 'B', accessFlags := 0x411 }
/-- [B -/
def k6 : Class := { plain "[B" (some 0) with kind := .array 5 .byte, interfaces := #[3, 4], accessFlags := 1041 }

/-- the primitive int -/
def k7 : Class := { plain "int" none with kind := .primitive 'I', accessFlags := 0x411 }
/-- [I -/
def k8 : Class := { plain "[I" (some 0) with kind := .array 7 .int, interfaces := #[3, 4], accessFlags := 1041 }

/-- the primitive long -/
def k9 : Class := { plain "long" none with kind := .primitive 'J', accessFlags := 0x411 }
/-- [J -/
def k10 : Class := { plain "[J" (some 0) with kind := .array 9 .long, interfaces := #[3, 4], accessFlags := 1041 }

def heap : Heap := #[]
def classes : Array Class := #[k0, k1, k2, k3, k4, k5, k6, k7, k8, k9, k10]
def interned : List (Array UInt16 × Addr) := []
def slotsUsed : Nat := 0
def theMethod : MethodId := ⟨1, 1⟩
def args0 : Array Value := #[.long 3, .long 4, .long 5, .long 6, .int 7, .int 8]
def aboutOver (below : List Frame) : State where
  vm := { classes := classes, interned := interned.toArray }
  heap := heap
  slotsUsed := slotsUsed
  threads := #[{ frames := .invoking theMethod args0 :: below }]
def below0 : List Frame := [.native { method := ⟨0, 0⟩, args := #[] }]
def about1 : State := aboutOver below0
def p0 : Program := .bare "" "" ""
def e0 : Env := launch0.env 0 0 0
theorem w_frames : about1.frames = Frame.invoking theMethod args0 :: below0 := rfl
set_option maxRecDepth 65536 in
theorem w_args : argsFit about1.vm theMethod args0 = true := by decide +kernel
set_option maxRecDepth 65536 in
theorem w_heap : heapFits about1 = true := by decide +kernel
set_option maxRecDepth 65536 in
theorem w_runnable : about1.curStatus? = some .runnable := by decide +kernel
set_option maxRecDepth 65536 in
theorem w_alone : about1.alone = true := by decide +kernel
set_option maxRecDepth 65536 in
theorem w_named : about1.methodNamed? x = some theMethod := by decide +kernel
set_option maxRecDepth 65536 in
theorem w_hears : about1.hears theMethod below0 = true := by decide +kernel
set_option maxRecDepth 65536 in
theorem w_ripe : about1.ripe theMethod args0 below0 = true := by decide +kernel
theorem w_running : about1.status = .running := rfl
set_option maxRecDepth 65536 in
theorem w_room : about1.hasRoom e0.platform room_1 = true :=
  launch0.hasRoom_least _ room_1 (by decide +kernel) (by decide +kernel) (by decide +kernel) (by decide +kernel) (by decide +kernel) (by decide +kernel)
theorem allAtoms_all (ts : List Jvm.Cond) (a : Array Jvm.Value) (st : Jvm.State) : (allAtoms ts).before a st = ts.all (fun c => c.before a st) := by
  induction ts with
  | nil => rfl
  | cons c t ih =>
    show (Jvm.Cond.and c (allAtoms t)).before a st = _
    rw [Jvm.Cond.before_and, ih, List.all_cons]
def words1 : List Jvm.Cond := Jvm.Cond.code x code maxLocals ret :: tables_1
/-- a 'code' word, met by the world's own term for the bytes: nothing is compared byte by byte -/
theorem code_word {y : MethodName} {bytes : ByteArray} {mx : Nat} {rt : Option FieldType} {a : Array Value} {s : State} {m : MethodId} {meth : Method} {c : Code} (h1 : s.methodNamed? y = some m) (h2 : s.vm.method? m = some meth) (h3 : meth.code = some c) (h4 : c.code = bytes)
    (h5 : (c.maxLocals == mx && c.exceptionTable.isEmpty && decide (c.maxStack ≤ mostOperands) && decide (meth.sig.returnType = rt) && !meth.locks && decide (parseMethodDescriptor y.desc = some meth.sig)) = true) : (Jvm.Cond.code y bytes mx rt).before a s = true := by
  simp only [Bool.and_eq_true, beq_iff_eq, Bool.not_eq_true', decide_eq_true_eq] at h5
  obtain ⟨⟨⟨⟨⟨g1, g2⟩, g3⟩, g4⟩, g5⟩, g6⟩ := h5
  simp [Cond.before, Cond.holds, Cond.value, h1, h2, h3, h4, g1, g2, g3, g4, g5, g6]
def isCode : Jvm.Cond → Bool
  | .code _ _ _ _ => true
  | _ => false
theorem all_split {L : List Jvm.Cond} {P : Jvm.Cond → Bool} (h1 : L.all (fun c => isCode c || P c) = true) (h2 : ∀ c ∈ L.filter isCode, P c = true) : L.all P = true := by
  refine List.all_eq_true.mpr fun c hc => ?_
  have h := List.all_eq_true.mp h1 c hc
  rcases Bool.eq_false_or_eq_true (isCode c) with hi | hi
  · exact h2 c (List.mem_filter.mpr ⟨hc, hi⟩)
  · simpa [hi] using h
set_option maxRecDepth 65536 in
theorem w_c0 : (Jvm.Cond.code x code maxLocals ret).before args0 about1 = true := code_word (m := ⟨1, 1⟩) (meth := k1m1) (c := k1c1) (by decide +kernel) rfl rfl rfl (by decide +kernel)
set_option maxRecDepth 65536 in
theorem w_c1 : (Jvm.Cond.code ({ cls := "com/example/evenkeel/evenkeel/ProviderArraysOwnerPinLaw", name := "reference", desc := "(JJJJJJ)I" } : Jvm.MethodName) method_3_code (12 : Nat) (Option.some Jvm.ClassFile.FieldType.int)).before args0 about1 = true := code_word (m := ⟨1, 2⟩) (meth := k1m2) (c := k1c2) (by decide +kernel) rfl rfl rfl (by decide +kernel)
set_option maxRecDepth 65536 in
theorem w_c2 : (Jvm.Cond.code ({ cls := "com/example/evenkeel/evenkeel/ProviderArrays", name := "owner", desc := "([JIIJ)I" } : Jvm.MethodName) prog_66_method_11_code (8 : Nat) (Option.some Jvm.ClassFile.FieldType.int)).before args0 about1 = true := code_word (m := ⟨2, 1⟩) (meth := k2m1) (c := k2c1) (by decide +kernel) rfl rfl rfl (by decide +kernel)
def codes1 : List Jvm.Cond := [Jvm.Cond.code x code maxLocals ret, Jvm.Cond.code ({ cls := "com/example/evenkeel/evenkeel/ProviderArraysOwnerPinLaw", name := "reference", desc := "(JJJJJJ)I" } : Jvm.MethodName) method_3_code (12 : Nat) (Option.some Jvm.ClassFile.FieldType.int), Jvm.Cond.code ({ cls := "com/example/evenkeel/evenkeel/ProviderArrays", name := "owner", desc := "([JIIJ)I" } : Jvm.MethodName) prog_66_method_11_code (8 : Nat) (Option.some Jvm.ClassFile.FieldType.int)]
set_option maxRecDepth 65536 in
theorem codes_eq : words1.filter isCode = codes1 := rfl
theorem w_codes : ∀ c ∈ words1.filter isCode, c.before args0 about1 = true := by
  rw [codes_eq]
  intro c hc
  simp only [codes1, List.mem_cons, List.not_mem_nil, or_false] at hc
  rcases hc with rfl | rfl | rfl
  · exact w_c0
  · exact w_c1
  · exact w_c2
set_option maxRecDepth 65536 in
theorem w_t1 : words1.all (fun c => isCode c || c.before args0 about1) = true := by decide +kernel
theorem w_tables : (allAtoms (Jvm.Cond.code x code maxLocals ret :: tables_1)).before args0 about1 = true := by
  rw [allAtoms_all]
  show words1.all (fun c => c.before args0 about1) = true
  refine all_split ?_ w_codes
  rw [w_t1]
set_option maxRecDepth 65536 in
theorem w_case : (Jvm.Cond.and given_1 narrow_1).before args0 about1 = true := by decide +kernel
theorem w_applies : (headSpec (Jvm.Cond.code x code maxLocals ret :: tables_1) room_1).applies x e0.platform about1 = true :=
  (Spec.applies_iff w_frames).mpr ⟨w_running, w_runnable, w_alone, w_named, w_hears, w_ripe, w_room, w_tables⟩
theorem atStart : AtStart classFile x code maxLocals ret World_1 tables_1 room_1 Calls_1 rest_1 Pre_1 launch0 p0 e0 about1 theMethod args0 below0 :=
  ⟨lists_1, trivial, launch0.admits_env _ _ _, launch0.least_env, fairChoices_fair.cas, fairChoices_fair.clock, w_frames, w_args, w_heap, w_applies, trivial, trivial, w_case⟩
end start1
theorem witness_1 : WitnessClaimed_1 := ⟨start1.p0, start1.e0, start1.about1, start1.theMethod, start1.args0, start1.below0, start1.atStart⟩
end Jvm.Pilot.@@N@@
