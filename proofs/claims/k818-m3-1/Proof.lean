import JvmDerived
import JvmDerived.Pilot.@@N@@Statement
import JvmDerived.Pilot.@@N@@Code
set_option linter.unusedVariables false
set_option linter.unusedSimpArgs false
namespace Jvm.RoadKit
open Sem ClassFile Op Lib Jvm.Stand Jvm.Free Jvm.LawKit
section New
variable {p : Program} {l : Launch} {e : Env} {R : Room} {s : State} {m : MethodId} {args : Array Value} {below : List Frame} {meth : Method} {c : Code} {T : State} {locs : List Loc} {cells slots : Nat}
theorem retI (X : Stand p l e R s m args below meth c T locs cells slots) (hx : p.tables.exec = Jvm.exec) {pc : Nat} {Ls : Array Slot} {z : Int32} {rest : List Value} (hret : meth.sig.returnType = some .int) (hd : decode c.code pc = .ok (.ireturn, 1)) {fs : List Frame}
    (hl : ∀ (f : JFrame) (acts : List Action), f.method = m → f.locked = none → f.entered = [] → (doReturn e (T.setTop f) acts (some (.int z))).1 = T.setFrames fs) : Steps p.tables e below (T.setTop (mkF m pc Ls (.int z :: rest))) (T.setFrames fs) := by
  have hm' : T.vm.method? m = some meth := X.method'
  have hn : narrow .int (.int z) = .int z := rfl
  show Steps p.tables e below (T.setTop { method := m, pc := pc, locals := Ls, stack := _ :: rest, locked := none }) _
  jvm_step X.here [X.here.top, hx, hd, hm', hret, hn]
  first | (intro acts; rw [hl _ acts rfl rfl rfl]) | rw [hl _ _ rfl rfl rfl]
  exact Steps.refl _
end New
/-- from the state A the run comes to a state that P describes -/
def own_Lead (tb : Tables) (e : Env) (below : List Frame) (A : State) (P : State → Prop) : Prop := ∃ B, P B ∧ ∀ t, Steps tb e below B t → Steps tb e below A t
theorem own_st {tb : Tables} {e : Env} {below : List Frame} {A B : State} {P : State → Prop} (st : ∀ t, Steps tb e below B t → Steps tb e below A t) (h : own_Lead tb e below B P) : own_Lead tb e below A P := by
  obtain ⟨C, hp, hs⟩ := h
  exact ⟨C, hp, fun t k => st t (hs t k)⟩
theorem own_fin {tb : Tables} {e : Env} {below : List Frame} {A B : State} {P : State → Prop} (st : Steps tb e below A B) (h : P B) : own_Lead tb e below A P := ⟨B, h, fun t k => st.trans k⟩
theorem own_run {tb : Tables} {e : Env} {below : List Frame} {A : State} {K : State → Outcome → Prop} (h : own_Lead tb e below A (fun B => ∃ o, K B o)) : ∃ s₂ o, Steps tb e below A s₂ ∧ K s₂ o := by
  obtain ⟨B, ⟨o, hk⟩, st⟩ := h
  exact ⟨B, o, st B (Steps.refl _), hk⟩
/-- a boolean as an int -/
def own_b (P : Prop) [Decidable P] : Int32 := if P then 1 else 0
theorem own_b1 {P : Prop} [Decidable P] (h : P) : own_b P = 1 := if_pos h
theorem own_b0 {P : Prop} [Decidable P] (h : ¬ P) : own_b P = 0 := if_neg h
theorem own_bi {P Q : Prop} [Decidable P] [Decidable Q] (h : P ↔ Q) : own_b P = own_b Q := by
  by_cases hp : P
  · rw [own_b1 hp, own_b1 (h.mp hp)]
  · rw [own_b0 hp, own_b0 (fun q => hp (h.mpr q))]
theorem own_bn0 {P : Prop} [Decidable P] {x : Int32} (hx : x = own_b P) (h : P) : ¬ x = 0 := by rw [hx, own_b1 h]; decide
theorem own_bnar {P : Prop} [Decidable P] : nar .boolean (own_b P) = own_b P := by
  by_cases hp : P
  · rw [own_b1 hp]; decide
  · rw [own_b0 hp]; decide
theorem own_nar {P : Prop} [Decidable P] {x : Int32} (hx : x = own_b P) : nar .boolean x = own_b P := by rw [hx]; exact own_bnar
/-- the array at a has n places, the i-th holds g i -/
def own_RayB (Z : State) (h : Heap) (a : Addr) (n : Nat) (g : Nat → Int32) : Prop := ∃ c : Cell, Arr Z h a c .byte ∧ c.slots.size = n ∧ ∀ i, i < n → c.slots[i]? = some (Value.int (g i)) ∧ fits .byte (.int (g i)) = true
theorem own_RayB.ext {Z : State} {h h' : Heap} {a : Addr} {n : Nat} {g : Nat → Int32} (F : own_RayB Z h a n g) (E : Ext h h') : own_RayB Z h' a n g := by obtain ⟨c, A, r⟩ := F; exact ⟨c, A.ext E, r⟩
theorem own_RayB.other {Z : State} {h h' : Heap} {a b : Addr} {n sl : Nat} {v : Value} {g : Nat → Int32} (F : own_RayB Z h b n g) (W : Wr h h' a sl v) (q : b ≠ a) : own_RayB Z h' b n g := by obtain ⟨c, A, r⟩ := F; exact ⟨c, A.other W q, r⟩
theorem own_RayB.keep {Z : State} {h h' : Heap} {a : Addr} {n : Nat} {ws : List Addr} {g : Nat → Int32} (F : own_RayB Z h a n g) (K : Keep h h' ws) (q : a ∉ ws) : own_RayB Z h' a n g := by obtain ⟨c, A, r⟩ := F; exact ⟨c, ⟨K.2.1 a c A.1 q, A.2⟩, r⟩
theorem own_RayB.lt {Z : State} {h : Heap} {a : Addr} {n : Nat} {g : Nat → Int32} (F : own_RayB Z h a n g) : a < h.size := by obtain ⟨c, A, r⟩ := F; exact A.lt
theorem own_RayB.cast {Z : State} {h : Heap} {a : Addr} {n : Nat} {g g' : Nat → Int32} (e : g = g') (F : own_RayB Z h a n g) : own_RayB Z h a n g' := e ▸ F
theorem own_RayB_new {Z : State} {h : Heap} {a : Addr} {k : ClassId} {z : Int32} {n : Nat} (A : Arr Z h a (newA k .byte z) .byte) (q : ¬ z < 0) (e : z.toNatClampNeg = n) : own_RayB Z h a n (fun _ => (0 : Int32)) := by
  obtain ⟨c, A', -, S, -, H, -⟩ := Arv.new A q
  refine ⟨c, A', S.trans e, fun i hi => ?_⟩
  have := H i (by rw [S, e]; exact hi)
  exact ⟨by first | exact this | simpa [defaultValue] using this, rfl⟩
theorem own_RayB_set {Z : State} {h h' : Heap} {a : Addr} {n k : Nat} {g : Nat → Int32} {j : Int32} {v : Int32} (F : own_RayB Z h a n g) (W : Wr h h' a j.toNatClampNeg (Value.int v)) (e : j.toNatClampNeg = k) (hv : fits .byte (.int v) = true) : own_RayB Z h' a n (fun i => if i = k then v else g i) := by
  obtain ⟨c, A, S, H⟩ := F
  refine ⟨_, A.same W, by first | exact (sz_set _ _ _).trans S | simp [Cell.setSlot, S], fun i hi => ?_⟩
  show (c.slots.setIfInBounds j.toNatClampNeg (Value.int v))[i]? = _ ∧ fits .byte (.int (if i = k then v else g i)) = true
  rw [Array.getElem?_setIfInBounds, e]
  by_cases hk : k = i
  · subst hk
    simp [S, hi, hv]
  · have := H i hi
    simp [hk, Ne.symm hk, this]
theorem own_RayB_nth {c : Cell} {n : Nat} {g : Nat → Int32} {j : Int32} (H : ∀ i, i < n → c.slots[i]? = some (Value.int (g i)) ∧ fits .byte (.int (g i)) = true) (S : c.slots.size = n) (hin : ¬ (j < 0 ∨ c.slots.size ≤ j.toNatClampNeg)) : c.slots[j.toNatClampNeg]? = some (Value.int (g j.toNatClampNeg)) :=
  (H _ (S ▸ Nat.lt_of_not_le fun q => hin (Or.inr q))).1
section Copy
variable {p : Program} {l : Launch} {e : Env} {R : Room} {s : State} {m : MethodId} {args : Array Value} {below : List Frame} {meth : Method} {c : Code} {T : State} {locs : List Loc} {cells slots : Nat} {Z : State} {h : Heap} {a b : Addr}
end Copy
theorem own_inb {c : Cell} {n : Nat} {j : Int32} (S : c.slots.size = n) (q : ¬ j < 0 ∧ j.toNatClampNeg < n) : ¬ (j < 0 ∨ c.slots.size ≤ j.toNatClampNeg) := fun w => w.elim q.1 fun z => absurd q.2 (Nat.not_lt.mpr (S ▸ z))
section Cold
variable {p : Program} {l : Launch} {e : Env} {R : Room} {s : State} {vm0 : Vm} {m : MethodId} {args : Array Value} {below : List Frame} {meth : Method} {c : Code} {T : State} {locs : List Loc} {cells slots : Nat} {Z : State} {a0 : Array Value} {h : Heap}
end Cold
end Jvm.RoadKit
namespace Jvm.Pilot.@@N@@
open Jvm Jvm.ClassFile Sem Op Lib Jvm.Free Jvm.Stand Jvm.LawKit Jvm.RoadKit Bundle Jvm.Pilot.@@N@@.Jvm.D
theorem own_nc (j : Int32) (h : 0 ≤ j.toInt) : (j.toNatClampNeg : Int) = j.toInt := by
  have : j.toNatClampNeg = j.toInt.toNat := rfl
  rw [this]
  omega
theorem own_nneg (j : Int32) (h : 0 ≤ j.toInt) : ¬ j < (0 : Int32) := by
  have e0 : (0 : Int32).toInt = 0 := by decide
  rw [Int32.lt_iff_toInt_lt, e0]
  omega
theorem own_at (a v : Int32) (h : v = a &&& (3 : Int32)) : v = (0 : Int32) ∨ v = (1 : Int32) ∨ v = (2 : Int32) ∨ v = (3 : Int32) := by
  have h1 := c_mask a 3 2 (by decide) (by decide)
  rw [← h] at h1
  have e0 : (0 : Int32).toInt = 0 := by decide
  have e1 : (1 : Int32).toInt = 1 := by decide
  have e2 : (2 : Int32).toInt = 2 := by decide
  have e3 : (3 : Int32).toInt = 3 := by decide
  simp only [← Int32.toInt_inj, e0, e1, e2, e3]
  omega
theorem own_in (v : Int32) (h : v = (0 : Int32) ∨ v = (1 : Int32) ∨ v = (2 : Int32) ∨ v = (3 : Int32)) : (¬ v < 0 ∧ v.toNatClampNeg < 8) ∧ (¬ (v + (1 : Int32)) < 0 ∧ (v + (1 : Int32)).toNatClampNeg < 8) ∧ (¬ (v + (2 : Int32)) < 0 ∧ (v + (2 : Int32)).toNatClampNeg < 8) ∧ (¬ (v + (3 : Int32)) < 0 ∧ (v + (3 : Int32)).toNatClampNeg < 8) := by
  rcases h with rfl | rfl | rfl | rfl <;> decide
theorem own_pn0 : plainName "com/example/psyche/psyche/XmlChars" = true := by first | (simp [plainName, overriddenIn]; done) | decide +kernel
theorem own_d1_0 : decode prog_171_method_22_code 0 = .ok (.iload_n 0, 1) := by decide +kernel
theorem own_d1_1 : decode prog_171_method_22_code 1 = .ok (.sipush 128, 3) := by decide +kernel
theorem own_d1_4 : decode prog_171_method_22_code 4 = .ok (.if_icmp .ge 10, 3) := by decide +kernel
theorem own_d1_7 : decode prog_171_method_22_code 7 = .ok (.aload_n 1, 1) := by decide +kernel
theorem own_d1_8 : decode prog_171_method_22_code 8 = .ok (.iload_n 2, 1) := by decide +kernel
theorem own_d1_9 : decode prog_171_method_22_code 9 = .ok (.iload_n 0, 1) := by decide +kernel
theorem own_d1_10 : decode prog_171_method_22_code 10 = .ok (.i2b, 1) := by decide +kernel
theorem own_d1_11 : decode prog_171_method_22_code 11 = .ok (.bastore, 1) := by decide +kernel
theorem own_d1_12 : decode prog_171_method_22_code 12 = .ok (.iconst 1, 1) := by decide +kernel
theorem own_d1_13 : decode prog_171_method_22_code 13 = .ok (.ireturn, 1) := by decide +kernel
theorem own_ef1_e1 (m : MethodId) (p0 : Int32) (r1 : Addr) (p2 : Int32) : entryFrame m #[(.int p0), (.ref r1), (.int p2)] 3 = mkF m 0 #[.val (.int p0), .val (.ref r1), .val (.int p2)] [] := by first | (simp [entryFrame, mkF, argsToLocals, Value.category]; done) | rfl
def own_Q1_e1 (Z : State) (p0 : Int32) (r1 : Addr) (p2 : Int32) (g : Nat → Int32) (h0 : Heap) (n0 : Nat) (v : Option Value) (h : Heap) (L : List Loc) : Prop := (v = some (.int (1 : Int32))) ∧ (Fr n0 L) ∧ (Keep h0 h [r1]) ∧ (own_RayB Z h r1 8 ((fun i => if i = (p2).toNatClampNeg then (nar .byte (p0.toInt8.toInt32)) else g i)))
set_option maxRecDepth 65536 in
set_option maxHeartbeats 40000000 in
theorem own_rm1_e1 (l : Launch) (Z : State) (a0 : Array Value) (hw : ∀ d ∈ tables_1, d.before a0 Z = true) (ws : List Jvm.Cond) (p0 : Int32) (r1 : Addr) (p2 : Int32) (g : Nat → Int32) (h0 : Heap) (n0 : Nat) (Z0 : n0 ≤ h0.size) (R_r1 : own_RayB Z h0 r1 8 g) (g_r1 : n0 ≤ r1) (hat : p2 = (0 : Int32) ∨ p2 = (1 : Int32) ∨ p2 = (2 : Int32) ∨ p2 = (3 : Int32)) (h1 : p0 < (128 : Int32)) :
    MetFree l (⟨"com/example/psyche/psyche/XmlChars", "encode", "(I[BI)I"⟩ : MethodName) (head1 (Jvm.Cond.code (⟨"com/example/psyche/psyche/XmlChars", "encode", "(I[BI)I"⟩ : MethodName) prog_171_method_22_code 3 (some .int) :: ws) ({ frames := 0, cells := 0, slots := 0, locals := 0 } : Room)) (fun a U => a = #[(.int p0), (.ref r1), (.int p2)] ∧ Z.Warmed39 U.vm ∧ U.heap = h0) (fun _ _ _ _ _ => True) (fun _ U o U' => ∃ v L, o = .returned v ∧ own_Q1_e1 Z p0 r1 p2 g h0 n0 v U'.heap L ∧ FrameEnd U o U' L ({ frames := 0, cells := 0, slots := 0, locals := 0 } : Room).cells ({ frames := 0, cells := 0, slots := 0, locals := 0 } : Room).slots) := by
  refine MetFree.of_bodySF (plainFor_of_name own_pn0) hisR ?_
  intro p e s m args below meth c s₁ Bd hml0 hP hK
  obtain ⟨rfl, hZ, hh⟩ := hP
  have hx := Bd.exec
  have hby := Bd.bytes
  have hml : c.maxLocals = 3 := hml0
  have hown : s.vm.findClass "com/example/psyche/psyche/XmlChars" = some m.cls := findClass_of_methodNamed Bd.named
  have hnm := (name_of_methodNamed Bd.named Bd.method).1
  have X0 : Stand p l e ({ frames := 0, cells := 0, slots := 0, locals := 0 } : Room) s m #[(.int p0), (.ref r1), (.int p2)] below meth c s₁ [] 0 0 := Stand.of_body Bd
  have e0 : s₁.heap = h0 := by rw [← hh, Bd.state]; rfl
  have N0 := Fr.nil n0
  have pre0 : ∀ t, Steps p.tables e below (s₁.setTop (mkF m 0 #[.val (.int p0), .val (.ref r1), .val (.int p2)] [])) t → Steps p.tables e below (s₁.setTop (entryFrame m #[(.int p0), (.ref r1), (.int p2)] 3)) t := fun t k => castTop (own_ef1_e1 m p0 r1 p2) k
  refine own_run (own_st pre0 ?_)
  have hin := own_in p2 hat
  refine own_st (B := s₁.setTop (mkF m 4 #[.val (.int p0), .val (.ref r1), .val (.int p2)] [(.int (128 : Int32)), (.int p0)])) (fun target kt => ?_) ?_
  · show Steps p.tables e below (s₁.setTop (mkF m 0 #[.val (.int p0), .val (.ref r1), .val (.int p2)] [])) target
    refine XS.iloadN X0.here hx rfl (hb hby own_d1_0) rfl ?_
    show Steps p.tables e below (s₁.setTop (mkF m 1 #[.val (.int p0), .val (.ref r1), .val (.int p2)] [(.int p0)])) target
    refine XS.sipush X0.here hx rfl (hb hby own_d1_1) ?_
    exact kt
  have c4 : p0 < (128 : Int32) := by
    exact h1
  refine own_st (B := s₁.setTop (mkF m 11 #[.val (.int p0), .val (.ref r1), .val (.int p2)] [(.int (p0.toInt8.toInt32)), (.int p2), (.ref r1)])) (fun target kt => ?_) ?_
  · show Steps p.tables e below (s₁.setTop (mkF m 4 #[.val (.int p0), .val (.ref r1), .val (.int p2)] [(.int (128 : Int32)), (.int p0)])) target
    refine XS.icmpNo X0.here hx rfl (hb hby own_d1_4) rfl (tlt c4).2.1 ?_
    show Steps p.tables e below (s₁.setTop (mkF m 7 #[.val (.int p0), .val (.ref r1), .val (.int p2)] [])) target
    refine XS.aloadN X0.here hx rfl (hb hby own_d1_7) rfl rfl ?_
    show Steps p.tables e below (s₁.setTop (mkF m 8 #[.val (.int p0), .val (.ref r1), .val (.int p2)] [(.ref r1)])) target
    refine XS.iloadN X0.here hx rfl (hb hby own_d1_8) rfl ?_
    show Steps p.tables e below (s₁.setTop (mkF m 9 #[.val (.int p0), .val (.ref r1), .val (.int p2)] [(.int p2), (.ref r1)])) target
    refine XS.iloadN X0.here hx rfl (hb hby own_d1_9) rfl ?_
    show Steps p.tables e below (s₁.setTop (mkF m 10 #[.val (.int p0), .val (.ref r1), .val (.int p2)] [(.int p0), (.int p2), (.ref r1)])) target
    refine XS.i2b X0.here hx rfl (hb hby own_d1_10) rfl ?_
    exact kt
  obtain ⟨clg11, Arg11, Szg11, -⟩ := id R_r1
  have hing11 : ¬ (p2 < 0 ∨ clg11.slots.size ≤ (p2).toNatClampNeg) := own_inb Szg11 hin.1
  obtain ⟨Tg11, hg11, Xg11, eg11, Wg11, stg11⟩ := stB X0 hx hZ e0 Arg11 (j := p2) hing11 (g := (mkF m 11 #[.val (.int p0), .val (.ref r1), .val (.int p2)] [(.int (p0.toInt8.toInt32)), (.int p2), (.ref r1)])) rfl rfl (hb hby own_d1_11)
  refine own_st stg11 ?_
  have Ng11 := Fr.snoc Xg11 N0 g_r1
  obtain ⟨a11, ha11⟩ : ∃ gz : Nat → Int32, gz = fun i => if i = (p2).toNatClampNeg then (nar .byte (p0.toInt8.toInt32)) else g i := ⟨_, rfl⟩
  have Zz : n0 ≤ hg11.size := Nat.le_trans Z0 (Keep.of_wr Wg11).1
  have Kc := (Keep.refl h0 [r1]).wr Wg11 (Or.inl (List.mem_of_getElem? (i := 0) rfl))
  have F_1 : own_RayB Z hg11 r1 8 a11 := by rw [ha11]; exact own_RayB_set R_r1 Wg11 rfl (fits_nar_byte _)
  refine own_st (B := Tg11.setTop (mkF m 13 #[.val (.int p0), .val (.ref r1), .val (.int p2)] [(.int (1 : Int32))])) (fun target kt => ?_) ?_
  · show Steps p.tables e below (Tg11.setTop (mkF m 12 #[.val (.int p0), .val (.ref r1), .val (.int p2)] [])) target
    refine XS.iconst Xg11.here hx rfl (hb hby own_d1_12) ?_
    exact kt
  obtain ⟨fs, hr, hrun, hended, hW, hsame⟩ := Xg11.leave (v := some (.int (1 : Int32))) (fun h => by rw [Bd.returns] at h; cases h)
  have hend : Steps p.tables e below (Tg11.setTop (mkF m 13 #[.val (.int p0), .val (.ref r1), .val (.int p2)] [(.int (1 : Int32))])) (Tg11.setFrames fs) := by
    exact retI Xg11 hx Bd.returns (hb hby own_d1_13) hr
  refine own_fin hend ⟨_, hrun, hended, _, _, rfl, ?_, ⟨_, rfl⟩, hW, hsame.mono (by decide) (by decide)⟩
  show own_Q1_e1 Z p0 r1 p2 g h0 n0 _ Tg11.heap _
  rw [eg11]
  subst ha11
  exact ⟨(congrArg (fun z => some (Value.int z)) rfl), Ng11, Kc, F_1⟩
theorem own_d1_14 : decode prog_171_method_22_code 14 = .ok (.iload_n 0, 1) := by decide +kernel
theorem own_d1_15 : decode prog_171_method_22_code 15 = .ok (.sipush 2048, 3) := by decide +kernel
theorem own_d1_18 : decode prog_171_method_22_code 18 = .ok (.if_icmp .ge 31, 3) := by decide +kernel
theorem own_d1_21 : decode prog_171_method_22_code 21 = .ok (.aload_n 1, 1) := by decide +kernel
theorem own_d1_22 : decode prog_171_method_22_code 22 = .ok (.iload_n 2, 1) := by decide +kernel
theorem own_d1_23 : decode prog_171_method_22_code 23 = .ok (.sipush 192, 3) := by decide +kernel
theorem own_d1_26 : decode prog_171_method_22_code 26 = .ok (.iload_n 0, 1) := by decide +kernel
theorem own_d1_27 : decode prog_171_method_22_code 27 = .ok (.bipush 6, 2) := by decide +kernel
theorem own_d1_29 : decode prog_171_method_22_code 29 = .ok (.ishr, 1) := by decide +kernel
theorem own_d1_30 : decode prog_171_method_22_code 30 = .ok (.ior, 1) := by decide +kernel
theorem own_d1_31 : decode prog_171_method_22_code 31 = .ok (.i2b, 1) := by decide +kernel
theorem own_d1_32 : decode prog_171_method_22_code 32 = .ok (.bastore, 1) := by decide +kernel
theorem own_d1_33 : decode prog_171_method_22_code 33 = .ok (.aload_n 1, 1) := by decide +kernel
theorem own_d1_34 : decode prog_171_method_22_code 34 = .ok (.iload_n 2, 1) := by decide +kernel
theorem own_d1_35 : decode prog_171_method_22_code 35 = .ok (.iconst 1, 1) := by decide +kernel
theorem own_d1_36 : decode prog_171_method_22_code 36 = .ok (.iadd, 1) := by decide +kernel
theorem own_d1_37 : decode prog_171_method_22_code 37 = .ok (.sipush 128, 3) := by decide +kernel
theorem own_d1_40 : decode prog_171_method_22_code 40 = .ok (.iload_n 0, 1) := by decide +kernel
theorem own_d1_41 : decode prog_171_method_22_code 41 = .ok (.bipush 63, 2) := by decide +kernel
theorem own_d1_43 : decode prog_171_method_22_code 43 = .ok (.iand, 1) := by decide +kernel
theorem own_d1_44 : decode prog_171_method_22_code 44 = .ok (.ior, 1) := by decide +kernel
theorem own_d1_45 : decode prog_171_method_22_code 45 = .ok (.i2b, 1) := by decide +kernel
theorem own_d1_46 : decode prog_171_method_22_code 46 = .ok (.bastore, 1) := by decide +kernel
theorem own_d1_47 : decode prog_171_method_22_code 47 = .ok (.iconst 2, 1) := by decide +kernel
theorem own_d1_48 : decode prog_171_method_22_code 48 = .ok (.ireturn, 1) := by decide +kernel
theorem own_ef1_e2 (m : MethodId) (p0 : Int32) (r1 : Addr) (p2 : Int32) : entryFrame m #[(.int p0), (.ref r1), (.int p2)] 3 = mkF m 0 #[.val (.int p0), .val (.ref r1), .val (.int p2)] [] := by first | (simp [entryFrame, mkF, argsToLocals, Value.category]; done) | rfl
def own_Q1_e2 (Z : State) (p0 : Int32) (r1 : Addr) (p2 : Int32) (g : Nat → Int32) (h0 : Heap) (n0 : Nat) (v : Option Value) (h : Heap) (L : List Loc) : Prop := (v = some (.int (2 : Int32))) ∧ (Fr n0 L) ∧ (Keep h0 h [r1]) ∧ (own_RayB Z h r1 8 ((fun i => if i = ((p2 + (1 : Int32))).toNatClampNeg then (nar .byte (((128 : Int32) ||| (p0 &&& (63 : Int32))).toInt8.toInt32)) else ((fun i => if i = (p2).toNatClampNeg then (nar .byte (((192 : Int32) ||| (p0 >>> ((6 : Int32) &&& 31))).toInt8.toInt32)) else g i)) i)))
set_option maxRecDepth 65536 in
set_option maxHeartbeats 40000000 in
theorem own_rm1_e2 (l : Launch) (Z : State) (a0 : Array Value) (hw : ∀ d ∈ tables_1, d.before a0 Z = true) (ws : List Jvm.Cond) (p0 : Int32) (r1 : Addr) (p2 : Int32) (g : Nat → Int32) (h0 : Heap) (n0 : Nat) (Z0 : n0 ≤ h0.size) (R_r1 : own_RayB Z h0 r1 8 g) (g_r1 : n0 ≤ r1) (hat : p2 = (0 : Int32) ∨ p2 = (1 : Int32) ∨ p2 = (2 : Int32) ∨ p2 = (3 : Int32)) (h1 : ¬ (p0 < (128 : Int32))) (h2 : p0 < (2048 : Int32)) :
    MetFree l (⟨"com/example/psyche/psyche/XmlChars", "encode", "(I[BI)I"⟩ : MethodName) (head1 (Jvm.Cond.code (⟨"com/example/psyche/psyche/XmlChars", "encode", "(I[BI)I"⟩ : MethodName) prog_171_method_22_code 3 (some .int) :: ws) ({ frames := 0, cells := 0, slots := 0, locals := 0 } : Room)) (fun a U => a = #[(.int p0), (.ref r1), (.int p2)] ∧ Z.Warmed39 U.vm ∧ U.heap = h0) (fun _ _ _ _ _ => True) (fun _ U o U' => ∃ v L, o = .returned v ∧ own_Q1_e2 Z p0 r1 p2 g h0 n0 v U'.heap L ∧ FrameEnd U o U' L ({ frames := 0, cells := 0, slots := 0, locals := 0 } : Room).cells ({ frames := 0, cells := 0, slots := 0, locals := 0 } : Room).slots) := by
  refine MetFree.of_bodySF (plainFor_of_name own_pn0) hisR ?_
  intro p e s m args below meth c s₁ Bd hml0 hP hK
  obtain ⟨rfl, hZ, hh⟩ := hP
  have hx := Bd.exec
  have hby := Bd.bytes
  have hml : c.maxLocals = 3 := hml0
  have hown : s.vm.findClass "com/example/psyche/psyche/XmlChars" = some m.cls := findClass_of_methodNamed Bd.named
  have hnm := (name_of_methodNamed Bd.named Bd.method).1
  have X0 : Stand p l e ({ frames := 0, cells := 0, slots := 0, locals := 0 } : Room) s m #[(.int p0), (.ref r1), (.int p2)] below meth c s₁ [] 0 0 := Stand.of_body Bd
  have e0 : s₁.heap = h0 := by rw [← hh, Bd.state]; rfl
  have N0 := Fr.nil n0
  have pre0 : ∀ t, Steps p.tables e below (s₁.setTop (mkF m 0 #[.val (.int p0), .val (.ref r1), .val (.int p2)] [])) t → Steps p.tables e below (s₁.setTop (entryFrame m #[(.int p0), (.ref r1), (.int p2)] 3)) t := fun t k => castTop (own_ef1_e2 m p0 r1 p2) k
  refine own_run (own_st pre0 ?_)
  have hin := own_in p2 hat
  refine own_st (B := s₁.setTop (mkF m 4 #[.val (.int p0), .val (.ref r1), .val (.int p2)] [(.int (128 : Int32)), (.int p0)])) (fun target kt => ?_) ?_
  · show Steps p.tables e below (s₁.setTop (mkF m 0 #[.val (.int p0), .val (.ref r1), .val (.int p2)] [])) target
    refine XS.iloadN X0.here hx rfl (hb hby own_d1_0) rfl ?_
    show Steps p.tables e below (s₁.setTop (mkF m 1 #[.val (.int p0), .val (.ref r1), .val (.int p2)] [(.int p0)])) target
    refine XS.sipush X0.here hx rfl (hb hby own_d1_1) ?_
    exact kt
  have c4 : ¬ (p0 < (128 : Int32)) := by
    exact h1
  refine own_st (B := s₁.setTop (mkF m 18 #[.val (.int p0), .val (.ref r1), .val (.int p2)] [(.int (2048 : Int32)), (.int p0)])) (fun target kt => ?_) ?_
  · show Steps p.tables e below (s₁.setTop (mkF m 4 #[.val (.int p0), .val (.ref r1), .val (.int p2)] [(.int (128 : Int32)), (.int p0)])) target
    refine XS.icmpYes X0.here hx rfl (pc0 := 4) (pc' := 14) rfl (hb hby own_d1_4) rfl (flt c4).2.1 (by decide) (by decide) ?_
    show Steps p.tables e below (s₁.setTop (mkF m 14 #[.val (.int p0), .val (.ref r1), .val (.int p2)] [])) target
    refine XS.iloadN X0.here hx rfl (hb hby own_d1_14) rfl ?_
    show Steps p.tables e below (s₁.setTop (mkF m 15 #[.val (.int p0), .val (.ref r1), .val (.int p2)] [(.int p0)])) target
    refine XS.sipush X0.here hx rfl (hb hby own_d1_15) ?_
    exact kt
  have c18 : p0 < (2048 : Int32) := by
    exact h2
  refine own_st (B := s₁.setTop (mkF m 32 #[.val (.int p0), .val (.ref r1), .val (.int p2)] [(.int (((192 : Int32) ||| (p0 >>> ((6 : Int32) &&& 31))).toInt8.toInt32)), (.int p2), (.ref r1)])) (fun target kt => ?_) ?_
  · show Steps p.tables e below (s₁.setTop (mkF m 18 #[.val (.int p0), .val (.ref r1), .val (.int p2)] [(.int (2048 : Int32)), (.int p0)])) target
    refine XS.icmpNo X0.here hx rfl (hb hby own_d1_18) rfl (tlt c18).2.1 ?_
    show Steps p.tables e below (s₁.setTop (mkF m 21 #[.val (.int p0), .val (.ref r1), .val (.int p2)] [])) target
    refine XS.aloadN X0.here hx rfl (hb hby own_d1_21) rfl rfl ?_
    show Steps p.tables e below (s₁.setTop (mkF m 22 #[.val (.int p0), .val (.ref r1), .val (.int p2)] [(.ref r1)])) target
    refine XS.iloadN X0.here hx rfl (hb hby own_d1_22) rfl ?_
    show Steps p.tables e below (s₁.setTop (mkF m 23 #[.val (.int p0), .val (.ref r1), .val (.int p2)] [(.int p2), (.ref r1)])) target
    refine XS.sipush X0.here hx rfl (hb hby own_d1_23) ?_
    show Steps p.tables e below (s₁.setTop (mkF m 26 #[.val (.int p0), .val (.ref r1), .val (.int p2)] [(.int (192 : Int32)), (.int p2), (.ref r1)])) target
    refine XS.iloadN X0.here hx rfl (hb hby own_d1_26) rfl ?_
    show Steps p.tables e below (s₁.setTop (mkF m 27 #[.val (.int p0), .val (.ref r1), .val (.int p2)] [(.int p0), (.int (192 : Int32)), (.int p2), (.ref r1)])) target
    refine XS.bipush X0.here hx rfl (hb hby own_d1_27) ?_
    show Steps p.tables e below (s₁.setTop (mkF m 29 #[.val (.int p0), .val (.ref r1), .val (.int p2)] [(.int (6 : Int32)), (.int p0), (.int (192 : Int32)), (.int p2), (.ref r1)])) target
    refine XS.ishr X0.here hx rfl (hb hby own_d1_29) rfl ?_
    show Steps p.tables e below (s₁.setTop (mkF m 30 #[.val (.int p0), .val (.ref r1), .val (.int p2)] [(.int (p0 >>> ((6 : Int32) &&& 31))), (.int (192 : Int32)), (.int p2), (.ref r1)])) target
    refine XS.ior X0.here hx rfl (hb hby own_d1_30) rfl ?_
    show Steps p.tables e below (s₁.setTop (mkF m 31 #[.val (.int p0), .val (.ref r1), .val (.int p2)] [(.int ((192 : Int32) ||| (p0 >>> ((6 : Int32) &&& 31)))), (.int p2), (.ref r1)])) target
    refine XS.i2b X0.here hx rfl (hb hby own_d1_31) rfl ?_
    exact kt
  obtain ⟨clg32, Arg32, Szg32, -⟩ := id R_r1
  have hing32 : ¬ (p2 < 0 ∨ clg32.slots.size ≤ (p2).toNatClampNeg) := own_inb Szg32 hin.1
  obtain ⟨Tg32, hg32, Xg32, eg32, Wg32, stg32⟩ := stB X0 hx hZ e0 Arg32 (j := p2) hing32 (g := (mkF m 32 #[.val (.int p0), .val (.ref r1), .val (.int p2)] [(.int (((192 : Int32) ||| (p0 >>> ((6 : Int32) &&& 31))).toInt8.toInt32)), (.int p2), (.ref r1)])) rfl rfl (hb hby own_d1_32)
  refine own_st stg32 ?_
  have Ng32 := Fr.snoc Xg32 N0 g_r1
  obtain ⟨a32, ha32⟩ : ∃ gz : Nat → Int32, gz = fun i => if i = (p2).toNatClampNeg then (nar .byte (((192 : Int32) ||| (p0 >>> ((6 : Int32) &&& 31))).toInt8.toInt32)) else g i := ⟨_, rfl⟩
  have Zz : n0 ≤ hg32.size := Nat.le_trans Z0 (Keep.of_wr Wg32).1
  have Kc := (Keep.refl h0 [r1]).wr Wg32 (Or.inl (List.mem_of_getElem? (i := 0) rfl))
  have F_1 : own_RayB Z hg32 r1 8 a32 := by rw [ha32]; exact own_RayB_set R_r1 Wg32 rfl (fits_nar_byte _)
  refine own_st (B := Tg32.setTop (mkF m 46 #[.val (.int p0), .val (.ref r1), .val (.int p2)] [(.int (((128 : Int32) ||| (p0 &&& (63 : Int32))).toInt8.toInt32)), (.int (p2 + (1 : Int32))), (.ref r1)])) (fun target kt => ?_) ?_
  · show Steps p.tables e below (Tg32.setTop (mkF m 33 #[.val (.int p0), .val (.ref r1), .val (.int p2)] [])) target
    refine XS.aloadN Xg32.here hx rfl (hb hby own_d1_33) rfl rfl ?_
    show Steps p.tables e below (Tg32.setTop (mkF m 34 #[.val (.int p0), .val (.ref r1), .val (.int p2)] [(.ref r1)])) target
    refine XS.iloadN Xg32.here hx rfl (hb hby own_d1_34) rfl ?_
    show Steps p.tables e below (Tg32.setTop (mkF m 35 #[.val (.int p0), .val (.ref r1), .val (.int p2)] [(.int p2), (.ref r1)])) target
    refine XS.iconst Xg32.here hx rfl (hb hby own_d1_35) ?_
    show Steps p.tables e below (Tg32.setTop (mkF m 36 #[.val (.int p0), .val (.ref r1), .val (.int p2)] [(.int (1 : Int32)), (.int p2), (.ref r1)])) target
    refine XS.iadd Xg32.here hx rfl (hb hby own_d1_36) rfl ?_
    show Steps p.tables e below (Tg32.setTop (mkF m 37 #[.val (.int p0), .val (.ref r1), .val (.int p2)] [(.int (p2 + (1 : Int32))), (.ref r1)])) target
    refine XS.sipush Xg32.here hx rfl (hb hby own_d1_37) ?_
    show Steps p.tables e below (Tg32.setTop (mkF m 40 #[.val (.int p0), .val (.ref r1), .val (.int p2)] [(.int (128 : Int32)), (.int (p2 + (1 : Int32))), (.ref r1)])) target
    refine XS.iloadN Xg32.here hx rfl (hb hby own_d1_40) rfl ?_
    show Steps p.tables e below (Tg32.setTop (mkF m 41 #[.val (.int p0), .val (.ref r1), .val (.int p2)] [(.int p0), (.int (128 : Int32)), (.int (p2 + (1 : Int32))), (.ref r1)])) target
    refine XS.bipush Xg32.here hx rfl (hb hby own_d1_41) ?_
    show Steps p.tables e below (Tg32.setTop (mkF m 43 #[.val (.int p0), .val (.ref r1), .val (.int p2)] [(.int (63 : Int32)), (.int p0), (.int (128 : Int32)), (.int (p2 + (1 : Int32))), (.ref r1)])) target
    refine XS.iand Xg32.here hx rfl (hb hby own_d1_43) rfl ?_
    show Steps p.tables e below (Tg32.setTop (mkF m 44 #[.val (.int p0), .val (.ref r1), .val (.int p2)] [(.int (p0 &&& (63 : Int32))), (.int (128 : Int32)), (.int (p2 + (1 : Int32))), (.ref r1)])) target
    refine XS.ior Xg32.here hx rfl (hb hby own_d1_44) rfl ?_
    show Steps p.tables e below (Tg32.setTop (mkF m 45 #[.val (.int p0), .val (.ref r1), .val (.int p2)] [(.int ((128 : Int32) ||| (p0 &&& (63 : Int32)))), (.int (p2 + (1 : Int32))), (.ref r1)])) target
    refine XS.i2b Xg32.here hx rfl (hb hby own_d1_45) rfl ?_
    exact kt
  obtain ⟨clg46, Arg46, Szg46, -⟩ := id F_1
  have hing46 : ¬ ((p2 + (1 : Int32)) < 0 ∨ clg46.slots.size ≤ ((p2 + (1 : Int32))).toNatClampNeg) := own_inb Szg46 hin.2.1
  obtain ⟨Tg46, hg46, Xg46, eg46, Wg46, stg46⟩ := stB Xg32 hx hZ eg32 Arg46 (j := (p2 + (1 : Int32))) hing46 (g := (mkF m 46 #[.val (.int p0), .val (.ref r1), .val (.int p2)] [(.int (((128 : Int32) ||| (p0 &&& (63 : Int32))).toInt8.toInt32)), (.int (p2 + (1 : Int32))), (.ref r1)])) rfl rfl (hb hby own_d1_46)
  refine own_st stg46 ?_
  have Ng46 := Fr.snoc Xg46 Ng32 g_r1
  obtain ⟨a46, ha46⟩ : ∃ gz : Nat → Int32, gz = fun i => if i = ((p2 + (1 : Int32))).toNatClampNeg then (nar .byte (((128 : Int32) ||| (p0 &&& (63 : Int32))).toInt8.toInt32)) else a32 i := ⟨_, rfl⟩
  have Zz_1 : n0 ≤ hg46.size := Nat.le_trans Zz (Keep.of_wr Wg46).1
  have Kc_1 := Kc.wr Wg46 (Or.inl (List.mem_of_getElem? (i := 0) rfl))
  have F_3 : own_RayB Z hg46 r1 8 a46 := by rw [ha46]; exact own_RayB_set F_1 Wg46 rfl (fits_nar_byte _)
  refine own_st (B := Tg46.setTop (mkF m 48 #[.val (.int p0), .val (.ref r1), .val (.int p2)] [(.int (2 : Int32))])) (fun target kt => ?_) ?_
  · show Steps p.tables e below (Tg46.setTop (mkF m 47 #[.val (.int p0), .val (.ref r1), .val (.int p2)] [])) target
    refine XS.iconst Xg46.here hx rfl (hb hby own_d1_47) ?_
    exact kt
  obtain ⟨fs, hr, hrun, hended, hW, hsame⟩ := Xg46.leave (v := some (.int (2 : Int32))) (fun h => by rw [Bd.returns] at h; cases h)
  have hend : Steps p.tables e below (Tg46.setTop (mkF m 48 #[.val (.int p0), .val (.ref r1), .val (.int p2)] [(.int (2 : Int32))])) (Tg46.setFrames fs) := by
    exact retI Xg46 hx Bd.returns (hb hby own_d1_48) hr
  refine own_fin hend ⟨_, hrun, hended, _, _, rfl, ?_, ⟨_, rfl⟩, hW, hsame.mono (by decide) (by decide)⟩
  show own_Q1_e2 Z p0 r1 p2 g h0 n0 _ Tg46.heap _
  rw [eg46]
  subst ha32 ha46
  exact ⟨(congrArg (fun z => some (Value.int z)) rfl), Ng46, Kc_1, F_3⟩
theorem own_d1_49 : decode prog_171_method_22_code 49 = .ok (.iload_n 0, 1) := by decide +kernel
theorem own_d1_50 : decode prog_171_method_22_code 50 = .ok (.ldc 62, 2) := by decide +kernel
theorem own_d1_52 : decode prog_171_method_22_code 52 = .ok (.if_icmp .ge 48, 3) := by decide +kernel
theorem own_d1_55 : decode prog_171_method_22_code 55 = .ok (.aload_n 1, 1) := by decide +kernel
theorem own_d1_56 : decode prog_171_method_22_code 56 = .ok (.iload_n 2, 1) := by decide +kernel
theorem own_d1_57 : decode prog_171_method_22_code 57 = .ok (.sipush 224, 3) := by decide +kernel
theorem own_d1_60 : decode prog_171_method_22_code 60 = .ok (.iload_n 0, 1) := by decide +kernel
theorem own_d1_61 : decode prog_171_method_22_code 61 = .ok (.bipush 12, 2) := by decide +kernel
theorem own_d1_63 : decode prog_171_method_22_code 63 = .ok (.ishr, 1) := by decide +kernel
theorem own_d1_64 : decode prog_171_method_22_code 64 = .ok (.ior, 1) := by decide +kernel
theorem own_d1_65 : decode prog_171_method_22_code 65 = .ok (.i2b, 1) := by decide +kernel
theorem own_d1_66 : decode prog_171_method_22_code 66 = .ok (.bastore, 1) := by decide +kernel
theorem own_d1_67 : decode prog_171_method_22_code 67 = .ok (.aload_n 1, 1) := by decide +kernel
theorem own_d1_68 : decode prog_171_method_22_code 68 = .ok (.iload_n 2, 1) := by decide +kernel
theorem own_d1_69 : decode prog_171_method_22_code 69 = .ok (.iconst 1, 1) := by decide +kernel
theorem own_d1_70 : decode prog_171_method_22_code 70 = .ok (.iadd, 1) := by decide +kernel
theorem own_d1_71 : decode prog_171_method_22_code 71 = .ok (.sipush 128, 3) := by decide +kernel
theorem own_d1_74 : decode prog_171_method_22_code 74 = .ok (.iload_n 0, 1) := by decide +kernel
theorem own_d1_75 : decode prog_171_method_22_code 75 = .ok (.bipush 6, 2) := by decide +kernel
theorem own_d1_77 : decode prog_171_method_22_code 77 = .ok (.ishr, 1) := by decide +kernel
theorem own_d1_78 : decode prog_171_method_22_code 78 = .ok (.bipush 63, 2) := by decide +kernel
theorem own_d1_80 : decode prog_171_method_22_code 80 = .ok (.iand, 1) := by decide +kernel
theorem own_d1_81 : decode prog_171_method_22_code 81 = .ok (.ior, 1) := by decide +kernel
theorem own_d1_82 : decode prog_171_method_22_code 82 = .ok (.i2b, 1) := by decide +kernel
theorem own_d1_83 : decode prog_171_method_22_code 83 = .ok (.bastore, 1) := by decide +kernel
theorem own_d1_84 : decode prog_171_method_22_code 84 = .ok (.aload_n 1, 1) := by decide +kernel
theorem own_d1_85 : decode prog_171_method_22_code 85 = .ok (.iload_n 2, 1) := by decide +kernel
theorem own_d1_86 : decode prog_171_method_22_code 86 = .ok (.iconst 2, 1) := by decide +kernel
theorem own_d1_87 : decode prog_171_method_22_code 87 = .ok (.iadd, 1) := by decide +kernel
theorem own_d1_88 : decode prog_171_method_22_code 88 = .ok (.sipush 128, 3) := by decide +kernel
theorem own_d1_91 : decode prog_171_method_22_code 91 = .ok (.iload_n 0, 1) := by decide +kernel
theorem own_d1_92 : decode prog_171_method_22_code 92 = .ok (.bipush 63, 2) := by decide +kernel
theorem own_d1_94 : decode prog_171_method_22_code 94 = .ok (.iand, 1) := by decide +kernel
theorem own_d1_95 : decode prog_171_method_22_code 95 = .ok (.ior, 1) := by decide +kernel
theorem own_d1_96 : decode prog_171_method_22_code 96 = .ok (.i2b, 1) := by decide +kernel
theorem own_d1_97 : decode prog_171_method_22_code 97 = .ok (.bastore, 1) := by decide +kernel
theorem own_d1_98 : decode prog_171_method_22_code 98 = .ok (.iconst 3, 1) := by decide +kernel
theorem own_d1_99 : decode prog_171_method_22_code 99 = .ok (.ireturn, 1) := by decide +kernel
theorem own_ef1_e3 (m : MethodId) (p0 : Int32) (r1 : Addr) (p2 : Int32) : entryFrame m #[(.int p0), (.ref r1), (.int p2)] 3 = mkF m 0 #[.val (.int p0), .val (.ref r1), .val (.int p2)] [] := by first | (simp [entryFrame, mkF, argsToLocals, Value.category]; done) | rfl
def own_Q1_e3 (Z : State) (p0 : Int32) (r1 : Addr) (p2 : Int32) (g : Nat → Int32) (h0 : Heap) (n0 : Nat) (v : Option Value) (h : Heap) (L : List Loc) : Prop := (v = some (.int (3 : Int32))) ∧ (Fr n0 L) ∧ (Keep h0 h [r1]) ∧ (own_RayB Z h r1 8 ((fun i => if i = ((p2 + (2 : Int32))).toNatClampNeg then (nar .byte (((128 : Int32) ||| (p0 &&& (63 : Int32))).toInt8.toInt32)) else ((fun i => if i = ((p2 + (1 : Int32))).toNatClampNeg then (nar .byte (((128 : Int32) ||| ((p0 >>> ((6 : Int32) &&& 31)) &&& (63 : Int32))).toInt8.toInt32)) else ((fun i => if i = (p2).toNatClampNeg then (nar .byte (((224 : Int32) ||| (p0 >>> ((12 : Int32) &&& 31))).toInt8.toInt32)) else g i)) i)) i)))
set_option maxRecDepth 65536 in
set_option maxHeartbeats 40000000 in
theorem own_rm1_e3 (l : Launch) (Z : State) (a0 : Array Value) (hw : ∀ d ∈ tables_1, d.before a0 Z = true) (ws : List Jvm.Cond) (p0 : Int32) (r1 : Addr) (p2 : Int32) (g : Nat → Int32) (h0 : Heap) (n0 : Nat) (Z0 : n0 ≤ h0.size) (R_r1 : own_RayB Z h0 r1 8 g) (g_r1 : n0 ≤ r1) (hat : p2 = (0 : Int32) ∨ p2 = (1 : Int32) ∨ p2 = (2 : Int32) ∨ p2 = (3 : Int32)) (h1 : ¬ (p0 < (128 : Int32))) (h2 : ¬ (p0 < (2048 : Int32))) (h3 : p0 < (65536 : Int32)) :
    MetFree l (⟨"com/example/psyche/psyche/XmlChars", "encode", "(I[BI)I"⟩ : MethodName) (head1 (Jvm.Cond.code (⟨"com/example/psyche/psyche/XmlChars", "encode", "(I[BI)I"⟩ : MethodName) prog_171_method_22_code 3 (some .int) :: ws) ({ frames := 0, cells := 0, slots := 0, locals := 0 } : Room)) (fun a U => a = #[(.int p0), (.ref r1), (.int p2)] ∧ Z.Warmed39 U.vm ∧ U.heap = h0) (fun _ _ _ _ _ => True) (fun _ U o U' => ∃ v L, o = .returned v ∧ own_Q1_e3 Z p0 r1 p2 g h0 n0 v U'.heap L ∧ FrameEnd U o U' L ({ frames := 0, cells := 0, slots := 0, locals := 0 } : Room).cells ({ frames := 0, cells := 0, slots := 0, locals := 0 } : Room).slots) := by
  refine MetFree.of_bodySF (plainFor_of_name own_pn0) hisR ?_
  intro p e s m args below meth c s₁ Bd hml0 hP hK
  obtain ⟨rfl, hZ, hh⟩ := hP
  have hx := Bd.exec
  have hby := Bd.bytes
  have hml : c.maxLocals = 3 := hml0
  have hown : s.vm.findClass "com/example/psyche/psyche/XmlChars" = some m.cls := findClass_of_methodNamed Bd.named
  have hnm := (name_of_methodNamed Bd.named Bd.method).1
  have X0 : Stand p l e ({ frames := 0, cells := 0, slots := 0, locals := 0 } : Room) s m #[(.int p0), (.ref r1), (.int p2)] below meth c s₁ [] 0 0 := Stand.of_body Bd
  have e0 : s₁.heap = h0 := by rw [← hh, Bd.state]; rfl
  have N0 := Fr.nil n0
  have pre0 : ∀ t, Steps p.tables e below (s₁.setTop (mkF m 0 #[.val (.int p0), .val (.ref r1), .val (.int p2)] [])) t → Steps p.tables e below (s₁.setTop (entryFrame m #[(.int p0), (.ref r1), (.int p2)] 3)) t := fun t k => castTop (own_ef1_e3 m p0 r1 p2) k
  refine own_run (own_st pre0 ?_)
  have hin := own_in p2 hat
  refine own_st (B := s₁.setTop (mkF m 4 #[.val (.int p0), .val (.ref r1), .val (.int p2)] [(.int (128 : Int32)), (.int p0)])) (fun target kt => ?_) ?_
  · show Steps p.tables e below (s₁.setTop (mkF m 0 #[.val (.int p0), .val (.ref r1), .val (.int p2)] [])) target
    refine XS.iloadN X0.here hx rfl (hb hby own_d1_0) rfl ?_
    show Steps p.tables e below (s₁.setTop (mkF m 1 #[.val (.int p0), .val (.ref r1), .val (.int p2)] [(.int p0)])) target
    refine XS.sipush X0.here hx rfl (hb hby own_d1_1) ?_
    exact kt
  have c4 : ¬ (p0 < (128 : Int32)) := by
    exact h1
  refine own_st (B := s₁.setTop (mkF m 18 #[.val (.int p0), .val (.ref r1), .val (.int p2)] [(.int (2048 : Int32)), (.int p0)])) (fun target kt => ?_) ?_
  · show Steps p.tables e below (s₁.setTop (mkF m 4 #[.val (.int p0), .val (.ref r1), .val (.int p2)] [(.int (128 : Int32)), (.int p0)])) target
    refine XS.icmpYes X0.here hx rfl (pc0 := 4) (pc' := 14) rfl (hb hby own_d1_4) rfl (flt c4).2.1 (by decide) (by decide) ?_
    show Steps p.tables e below (s₁.setTop (mkF m 14 #[.val (.int p0), .val (.ref r1), .val (.int p2)] [])) target
    refine XS.iloadN X0.here hx rfl (hb hby own_d1_14) rfl ?_
    show Steps p.tables e below (s₁.setTop (mkF m 15 #[.val (.int p0), .val (.ref r1), .val (.int p2)] [(.int p0)])) target
    refine XS.sipush X0.here hx rfl (hb hby own_d1_15) ?_
    exact kt
  have c18 : ¬ (p0 < (2048 : Int32)) := by
    exact h2
  refine own_st (B := s₁.setTop (mkF m 52 #[.val (.int p0), .val (.ref r1), .val (.int p2)] [(.int (65536 : Int32)), (.int p0)])) (fun target kt => ?_) ?_
  · show Steps p.tables e below (s₁.setTop (mkF m 18 #[.val (.int p0), .val (.ref r1), .val (.int p2)] [(.int (2048 : Int32)), (.int p0)])) target
    refine XS.icmpYes X0.here hx rfl (pc0 := 18) (pc' := 49) rfl (hb hby own_d1_18) rfl (flt c18).2.1 (by decide) (by decide) ?_
    show Steps p.tables e below (s₁.setTop (mkF m 49 #[.val (.int p0), .val (.ref r1), .val (.int p2)] [])) target
    refine XS.iloadN X0.here hx rfl (hb hby own_d1_49) rfl ?_
    show Steps p.tables e below (s₁.setTop (mkF m 50 #[.val (.int p0), .val (.ref r1), .val (.int p2)] [(.int p0)])) target
    refine X0.ldcInt hx hown (mvT hZ (hw _ (List.mem_of_getElem? (i := 8) rfl))) (g := (mkF m 50 #[.val (.int p0), .val (.ref r1), .val (.int p2)] [(.int p0)])) rfl (hb hby own_d1_50) _ ?_
    exact kt
  have c52 : p0 < (65536 : Int32) := by
    exact h3
  refine own_st (B := s₁.setTop (mkF m 66 #[.val (.int p0), .val (.ref r1), .val (.int p2)] [(.int (((224 : Int32) ||| (p0 >>> ((12 : Int32) &&& 31))).toInt8.toInt32)), (.int p2), (.ref r1)])) (fun target kt => ?_) ?_
  · show Steps p.tables e below (s₁.setTop (mkF m 52 #[.val (.int p0), .val (.ref r1), .val (.int p2)] [(.int (65536 : Int32)), (.int p0)])) target
    refine XS.icmpNo X0.here hx rfl (hb hby own_d1_52) rfl (tlt c52).2.1 ?_
    show Steps p.tables e below (s₁.setTop (mkF m 55 #[.val (.int p0), .val (.ref r1), .val (.int p2)] [])) target
    refine XS.aloadN X0.here hx rfl (hb hby own_d1_55) rfl rfl ?_
    show Steps p.tables e below (s₁.setTop (mkF m 56 #[.val (.int p0), .val (.ref r1), .val (.int p2)] [(.ref r1)])) target
    refine XS.iloadN X0.here hx rfl (hb hby own_d1_56) rfl ?_
    show Steps p.tables e below (s₁.setTop (mkF m 57 #[.val (.int p0), .val (.ref r1), .val (.int p2)] [(.int p2), (.ref r1)])) target
    refine XS.sipush X0.here hx rfl (hb hby own_d1_57) ?_
    show Steps p.tables e below (s₁.setTop (mkF m 60 #[.val (.int p0), .val (.ref r1), .val (.int p2)] [(.int (224 : Int32)), (.int p2), (.ref r1)])) target
    refine XS.iloadN X0.here hx rfl (hb hby own_d1_60) rfl ?_
    show Steps p.tables e below (s₁.setTop (mkF m 61 #[.val (.int p0), .val (.ref r1), .val (.int p2)] [(.int p0), (.int (224 : Int32)), (.int p2), (.ref r1)])) target
    refine XS.bipush X0.here hx rfl (hb hby own_d1_61) ?_
    show Steps p.tables e below (s₁.setTop (mkF m 63 #[.val (.int p0), .val (.ref r1), .val (.int p2)] [(.int (12 : Int32)), (.int p0), (.int (224 : Int32)), (.int p2), (.ref r1)])) target
    refine XS.ishr X0.here hx rfl (hb hby own_d1_63) rfl ?_
    show Steps p.tables e below (s₁.setTop (mkF m 64 #[.val (.int p0), .val (.ref r1), .val (.int p2)] [(.int (p0 >>> ((12 : Int32) &&& 31))), (.int (224 : Int32)), (.int p2), (.ref r1)])) target
    refine XS.ior X0.here hx rfl (hb hby own_d1_64) rfl ?_
    show Steps p.tables e below (s₁.setTop (mkF m 65 #[.val (.int p0), .val (.ref r1), .val (.int p2)] [(.int ((224 : Int32) ||| (p0 >>> ((12 : Int32) &&& 31)))), (.int p2), (.ref r1)])) target
    refine XS.i2b X0.here hx rfl (hb hby own_d1_65) rfl ?_
    exact kt
  obtain ⟨clg66, Arg66, Szg66, -⟩ := id R_r1
  have hing66 : ¬ (p2 < 0 ∨ clg66.slots.size ≤ (p2).toNatClampNeg) := own_inb Szg66 hin.1
  obtain ⟨Tg66, hg66, Xg66, eg66, Wg66, stg66⟩ := stB X0 hx hZ e0 Arg66 (j := p2) hing66 (g := (mkF m 66 #[.val (.int p0), .val (.ref r1), .val (.int p2)] [(.int (((224 : Int32) ||| (p0 >>> ((12 : Int32) &&& 31))).toInt8.toInt32)), (.int p2), (.ref r1)])) rfl rfl (hb hby own_d1_66)
  refine own_st stg66 ?_
  have Ng66 := Fr.snoc Xg66 N0 g_r1
  obtain ⟨a66, ha66⟩ : ∃ gz : Nat → Int32, gz = fun i => if i = (p2).toNatClampNeg then (nar .byte (((224 : Int32) ||| (p0 >>> ((12 : Int32) &&& 31))).toInt8.toInt32)) else g i := ⟨_, rfl⟩
  have Zz : n0 ≤ hg66.size := Nat.le_trans Z0 (Keep.of_wr Wg66).1
  have Kc := (Keep.refl h0 [r1]).wr Wg66 (Or.inl (List.mem_of_getElem? (i := 0) rfl))
  have F_1 : own_RayB Z hg66 r1 8 a66 := by rw [ha66]; exact own_RayB_set R_r1 Wg66 rfl (fits_nar_byte _)
  refine own_st (B := Tg66.setTop (mkF m 83 #[.val (.int p0), .val (.ref r1), .val (.int p2)] [(.int (((128 : Int32) ||| ((p0 >>> ((6 : Int32) &&& 31)) &&& (63 : Int32))).toInt8.toInt32)), (.int (p2 + (1 : Int32))), (.ref r1)])) (fun target kt => ?_) ?_
  · show Steps p.tables e below (Tg66.setTop (mkF m 67 #[.val (.int p0), .val (.ref r1), .val (.int p2)] [])) target
    refine XS.aloadN Xg66.here hx rfl (hb hby own_d1_67) rfl rfl ?_
    show Steps p.tables e below (Tg66.setTop (mkF m 68 #[.val (.int p0), .val (.ref r1), .val (.int p2)] [(.ref r1)])) target
    refine XS.iloadN Xg66.here hx rfl (hb hby own_d1_68) rfl ?_
    show Steps p.tables e below (Tg66.setTop (mkF m 69 #[.val (.int p0), .val (.ref r1), .val (.int p2)] [(.int p2), (.ref r1)])) target
    refine XS.iconst Xg66.here hx rfl (hb hby own_d1_69) ?_
    show Steps p.tables e below (Tg66.setTop (mkF m 70 #[.val (.int p0), .val (.ref r1), .val (.int p2)] [(.int (1 : Int32)), (.int p2), (.ref r1)])) target
    refine XS.iadd Xg66.here hx rfl (hb hby own_d1_70) rfl ?_
    show Steps p.tables e below (Tg66.setTop (mkF m 71 #[.val (.int p0), .val (.ref r1), .val (.int p2)] [(.int (p2 + (1 : Int32))), (.ref r1)])) target
    refine XS.sipush Xg66.here hx rfl (hb hby own_d1_71) ?_
    show Steps p.tables e below (Tg66.setTop (mkF m 74 #[.val (.int p0), .val (.ref r1), .val (.int p2)] [(.int (128 : Int32)), (.int (p2 + (1 : Int32))), (.ref r1)])) target
    refine XS.iloadN Xg66.here hx rfl (hb hby own_d1_74) rfl ?_
    show Steps p.tables e below (Tg66.setTop (mkF m 75 #[.val (.int p0), .val (.ref r1), .val (.int p2)] [(.int p0), (.int (128 : Int32)), (.int (p2 + (1 : Int32))), (.ref r1)])) target
    refine XS.bipush Xg66.here hx rfl (hb hby own_d1_75) ?_
    show Steps p.tables e below (Tg66.setTop (mkF m 77 #[.val (.int p0), .val (.ref r1), .val (.int p2)] [(.int (6 : Int32)), (.int p0), (.int (128 : Int32)), (.int (p2 + (1 : Int32))), (.ref r1)])) target
    refine XS.ishr Xg66.here hx rfl (hb hby own_d1_77) rfl ?_
    show Steps p.tables e below (Tg66.setTop (mkF m 78 #[.val (.int p0), .val (.ref r1), .val (.int p2)] [(.int (p0 >>> ((6 : Int32) &&& 31))), (.int (128 : Int32)), (.int (p2 + (1 : Int32))), (.ref r1)])) target
    refine XS.bipush Xg66.here hx rfl (hb hby own_d1_78) ?_
    show Steps p.tables e below (Tg66.setTop (mkF m 80 #[.val (.int p0), .val (.ref r1), .val (.int p2)] [(.int (63 : Int32)), (.int (p0 >>> ((6 : Int32) &&& 31))), (.int (128 : Int32)), (.int (p2 + (1 : Int32))), (.ref r1)])) target
    refine XS.iand Xg66.here hx rfl (hb hby own_d1_80) rfl ?_
    show Steps p.tables e below (Tg66.setTop (mkF m 81 #[.val (.int p0), .val (.ref r1), .val (.int p2)] [(.int ((p0 >>> ((6 : Int32) &&& 31)) &&& (63 : Int32))), (.int (128 : Int32)), (.int (p2 + (1 : Int32))), (.ref r1)])) target
    refine XS.ior Xg66.here hx rfl (hb hby own_d1_81) rfl ?_
    show Steps p.tables e below (Tg66.setTop (mkF m 82 #[.val (.int p0), .val (.ref r1), .val (.int p2)] [(.int ((128 : Int32) ||| ((p0 >>> ((6 : Int32) &&& 31)) &&& (63 : Int32)))), (.int (p2 + (1 : Int32))), (.ref r1)])) target
    refine XS.i2b Xg66.here hx rfl (hb hby own_d1_82) rfl ?_
    exact kt
  obtain ⟨clg83, Arg83, Szg83, -⟩ := id F_1
  have hing83 : ¬ ((p2 + (1 : Int32)) < 0 ∨ clg83.slots.size ≤ ((p2 + (1 : Int32))).toNatClampNeg) := own_inb Szg83 hin.2.1
  obtain ⟨Tg83, hg83, Xg83, eg83, Wg83, stg83⟩ := stB Xg66 hx hZ eg66 Arg83 (j := (p2 + (1 : Int32))) hing83 (g := (mkF m 83 #[.val (.int p0), .val (.ref r1), .val (.int p2)] [(.int (((128 : Int32) ||| ((p0 >>> ((6 : Int32) &&& 31)) &&& (63 : Int32))).toInt8.toInt32)), (.int (p2 + (1 : Int32))), (.ref r1)])) rfl rfl (hb hby own_d1_83)
  refine own_st stg83 ?_
  have Ng83 := Fr.snoc Xg83 Ng66 g_r1
  obtain ⟨a83, ha83⟩ : ∃ gz : Nat → Int32, gz = fun i => if i = ((p2 + (1 : Int32))).toNatClampNeg then (nar .byte (((128 : Int32) ||| ((p0 >>> ((6 : Int32) &&& 31)) &&& (63 : Int32))).toInt8.toInt32)) else a66 i := ⟨_, rfl⟩
  have Zz_1 : n0 ≤ hg83.size := Nat.le_trans Zz (Keep.of_wr Wg83).1
  have Kc_1 := Kc.wr Wg83 (Or.inl (List.mem_of_getElem? (i := 0) rfl))
  have F_3 : own_RayB Z hg83 r1 8 a83 := by rw [ha83]; exact own_RayB_set F_1 Wg83 rfl (fits_nar_byte _)
  refine own_st (B := Tg83.setTop (mkF m 97 #[.val (.int p0), .val (.ref r1), .val (.int p2)] [(.int (((128 : Int32) ||| (p0 &&& (63 : Int32))).toInt8.toInt32)), (.int (p2 + (2 : Int32))), (.ref r1)])) (fun target kt => ?_) ?_
  · show Steps p.tables e below (Tg83.setTop (mkF m 84 #[.val (.int p0), .val (.ref r1), .val (.int p2)] [])) target
    refine XS.aloadN Xg83.here hx rfl (hb hby own_d1_84) rfl rfl ?_
    show Steps p.tables e below (Tg83.setTop (mkF m 85 #[.val (.int p0), .val (.ref r1), .val (.int p2)] [(.ref r1)])) target
    refine XS.iloadN Xg83.here hx rfl (hb hby own_d1_85) rfl ?_
    show Steps p.tables e below (Tg83.setTop (mkF m 86 #[.val (.int p0), .val (.ref r1), .val (.int p2)] [(.int p2), (.ref r1)])) target
    refine XS.iconst Xg83.here hx rfl (hb hby own_d1_86) ?_
    show Steps p.tables e below (Tg83.setTop (mkF m 87 #[.val (.int p0), .val (.ref r1), .val (.int p2)] [(.int (2 : Int32)), (.int p2), (.ref r1)])) target
    refine XS.iadd Xg83.here hx rfl (hb hby own_d1_87) rfl ?_
    show Steps p.tables e below (Tg83.setTop (mkF m 88 #[.val (.int p0), .val (.ref r1), .val (.int p2)] [(.int (p2 + (2 : Int32))), (.ref r1)])) target
    refine XS.sipush Xg83.here hx rfl (hb hby own_d1_88) ?_
    show Steps p.tables e below (Tg83.setTop (mkF m 91 #[.val (.int p0), .val (.ref r1), .val (.int p2)] [(.int (128 : Int32)), (.int (p2 + (2 : Int32))), (.ref r1)])) target
    refine XS.iloadN Xg83.here hx rfl (hb hby own_d1_91) rfl ?_
    show Steps p.tables e below (Tg83.setTop (mkF m 92 #[.val (.int p0), .val (.ref r1), .val (.int p2)] [(.int p0), (.int (128 : Int32)), (.int (p2 + (2 : Int32))), (.ref r1)])) target
    refine XS.bipush Xg83.here hx rfl (hb hby own_d1_92) ?_
    show Steps p.tables e below (Tg83.setTop (mkF m 94 #[.val (.int p0), .val (.ref r1), .val (.int p2)] [(.int (63 : Int32)), (.int p0), (.int (128 : Int32)), (.int (p2 + (2 : Int32))), (.ref r1)])) target
    refine XS.iand Xg83.here hx rfl (hb hby own_d1_94) rfl ?_
    show Steps p.tables e below (Tg83.setTop (mkF m 95 #[.val (.int p0), .val (.ref r1), .val (.int p2)] [(.int (p0 &&& (63 : Int32))), (.int (128 : Int32)), (.int (p2 + (2 : Int32))), (.ref r1)])) target
    refine XS.ior Xg83.here hx rfl (hb hby own_d1_95) rfl ?_
    show Steps p.tables e below (Tg83.setTop (mkF m 96 #[.val (.int p0), .val (.ref r1), .val (.int p2)] [(.int ((128 : Int32) ||| (p0 &&& (63 : Int32)))), (.int (p2 + (2 : Int32))), (.ref r1)])) target
    refine XS.i2b Xg83.here hx rfl (hb hby own_d1_96) rfl ?_
    exact kt
  obtain ⟨clg97, Arg97, Szg97, -⟩ := id F_3
  have hing97 : ¬ ((p2 + (2 : Int32)) < 0 ∨ clg97.slots.size ≤ ((p2 + (2 : Int32))).toNatClampNeg) := own_inb Szg97 hin.2.2.1
  obtain ⟨Tg97, hg97, Xg97, eg97, Wg97, stg97⟩ := stB Xg83 hx hZ eg83 Arg97 (j := (p2 + (2 : Int32))) hing97 (g := (mkF m 97 #[.val (.int p0), .val (.ref r1), .val (.int p2)] [(.int (((128 : Int32) ||| (p0 &&& (63 : Int32))).toInt8.toInt32)), (.int (p2 + (2 : Int32))), (.ref r1)])) rfl rfl (hb hby own_d1_97)
  refine own_st stg97 ?_
  have Ng97 := Fr.snoc Xg97 Ng83 g_r1
  obtain ⟨a97, ha97⟩ : ∃ gz : Nat → Int32, gz = fun i => if i = ((p2 + (2 : Int32))).toNatClampNeg then (nar .byte (((128 : Int32) ||| (p0 &&& (63 : Int32))).toInt8.toInt32)) else a83 i := ⟨_, rfl⟩
  have Zz_2 : n0 ≤ hg97.size := Nat.le_trans Zz_1 (Keep.of_wr Wg97).1
  have Kc_2 := Kc_1.wr Wg97 (Or.inl (List.mem_of_getElem? (i := 0) rfl))
  have F_5 : own_RayB Z hg97 r1 8 a97 := by rw [ha97]; exact own_RayB_set F_3 Wg97 rfl (fits_nar_byte _)
  refine own_st (B := Tg97.setTop (mkF m 99 #[.val (.int p0), .val (.ref r1), .val (.int p2)] [(.int (3 : Int32))])) (fun target kt => ?_) ?_
  · show Steps p.tables e below (Tg97.setTop (mkF m 98 #[.val (.int p0), .val (.ref r1), .val (.int p2)] [])) target
    refine XS.iconst Xg97.here hx rfl (hb hby own_d1_98) ?_
    exact kt
  obtain ⟨fs, hr, hrun, hended, hW, hsame⟩ := Xg97.leave (v := some (.int (3 : Int32))) (fun h => by rw [Bd.returns] at h; cases h)
  have hend : Steps p.tables e below (Tg97.setTop (mkF m 99 #[.val (.int p0), .val (.ref r1), .val (.int p2)] [(.int (3 : Int32))])) (Tg97.setFrames fs) := by
    exact retI Xg97 hx Bd.returns (hb hby own_d1_99) hr
  refine own_fin hend ⟨_, hrun, hended, _, _, rfl, ?_, ⟨_, rfl⟩, hW, hsame.mono (by decide) (by decide)⟩
  show own_Q1_e3 Z p0 r1 p2 g h0 n0 _ Tg97.heap _
  rw [eg97]
  subst ha66 ha83 ha97
  exact ⟨(congrArg (fun z => some (Value.int z)) rfl), Ng97, Kc_2, F_5⟩
theorem own_d1_100 : decode prog_171_method_22_code 100 = .ok (.aload_n 1, 1) := by decide +kernel
theorem own_d1_101 : decode prog_171_method_22_code 101 = .ok (.iload_n 2, 1) := by decide +kernel
theorem own_d1_102 : decode prog_171_method_22_code 102 = .ok (.sipush 240, 3) := by decide +kernel
theorem own_d1_105 : decode prog_171_method_22_code 105 = .ok (.iload_n 0, 1) := by decide +kernel
theorem own_d1_106 : decode prog_171_method_22_code 106 = .ok (.bipush 18, 2) := by decide +kernel
theorem own_d1_108 : decode prog_171_method_22_code 108 = .ok (.ishr, 1) := by decide +kernel
theorem own_d1_109 : decode prog_171_method_22_code 109 = .ok (.ior, 1) := by decide +kernel
theorem own_d1_110 : decode prog_171_method_22_code 110 = .ok (.i2b, 1) := by decide +kernel
theorem own_d1_111 : decode prog_171_method_22_code 111 = .ok (.bastore, 1) := by decide +kernel
theorem own_d1_112 : decode prog_171_method_22_code 112 = .ok (.aload_n 1, 1) := by decide +kernel
theorem own_d1_113 : decode prog_171_method_22_code 113 = .ok (.iload_n 2, 1) := by decide +kernel
theorem own_d1_114 : decode prog_171_method_22_code 114 = .ok (.iconst 1, 1) := by decide +kernel
theorem own_d1_115 : decode prog_171_method_22_code 115 = .ok (.iadd, 1) := by decide +kernel
theorem own_d1_116 : decode prog_171_method_22_code 116 = .ok (.sipush 128, 3) := by decide +kernel
theorem own_d1_119 : decode prog_171_method_22_code 119 = .ok (.iload_n 0, 1) := by decide +kernel
theorem own_d1_120 : decode prog_171_method_22_code 120 = .ok (.bipush 12, 2) := by decide +kernel
theorem own_d1_122 : decode prog_171_method_22_code 122 = .ok (.ishr, 1) := by decide +kernel
theorem own_d1_123 : decode prog_171_method_22_code 123 = .ok (.bipush 63, 2) := by decide +kernel
theorem own_d1_125 : decode prog_171_method_22_code 125 = .ok (.iand, 1) := by decide +kernel
theorem own_d1_126 : decode prog_171_method_22_code 126 = .ok (.ior, 1) := by decide +kernel
theorem own_d1_127 : decode prog_171_method_22_code 127 = .ok (.i2b, 1) := by decide +kernel
theorem own_d1_128 : decode prog_171_method_22_code 128 = .ok (.bastore, 1) := by decide +kernel
theorem own_d1_129 : decode prog_171_method_22_code 129 = .ok (.aload_n 1, 1) := by decide +kernel
theorem own_d1_130 : decode prog_171_method_22_code 130 = .ok (.iload_n 2, 1) := by decide +kernel
theorem own_d1_131 : decode prog_171_method_22_code 131 = .ok (.iconst 2, 1) := by decide +kernel
theorem own_d1_132 : decode prog_171_method_22_code 132 = .ok (.iadd, 1) := by decide +kernel
theorem own_d1_133 : decode prog_171_method_22_code 133 = .ok (.sipush 128, 3) := by decide +kernel
theorem own_d1_136 : decode prog_171_method_22_code 136 = .ok (.iload_n 0, 1) := by decide +kernel
theorem own_d1_137 : decode prog_171_method_22_code 137 = .ok (.bipush 6, 2) := by decide +kernel
theorem own_d1_139 : decode prog_171_method_22_code 139 = .ok (.ishr, 1) := by decide +kernel
theorem own_d1_140 : decode prog_171_method_22_code 140 = .ok (.bipush 63, 2) := by decide +kernel
theorem own_d1_142 : decode prog_171_method_22_code 142 = .ok (.iand, 1) := by decide +kernel
theorem own_d1_143 : decode prog_171_method_22_code 143 = .ok (.ior, 1) := by decide +kernel
theorem own_d1_144 : decode prog_171_method_22_code 144 = .ok (.i2b, 1) := by decide +kernel
theorem own_d1_145 : decode prog_171_method_22_code 145 = .ok (.bastore, 1) := by decide +kernel
theorem own_d1_146 : decode prog_171_method_22_code 146 = .ok (.aload_n 1, 1) := by decide +kernel
theorem own_d1_147 : decode prog_171_method_22_code 147 = .ok (.iload_n 2, 1) := by decide +kernel
theorem own_d1_148 : decode prog_171_method_22_code 148 = .ok (.iconst 3, 1) := by decide +kernel
theorem own_d1_149 : decode prog_171_method_22_code 149 = .ok (.iadd, 1) := by decide +kernel
theorem own_d1_150 : decode prog_171_method_22_code 150 = .ok (.sipush 128, 3) := by decide +kernel
theorem own_d1_153 : decode prog_171_method_22_code 153 = .ok (.iload_n 0, 1) := by decide +kernel
theorem own_d1_154 : decode prog_171_method_22_code 154 = .ok (.bipush 63, 2) := by decide +kernel
theorem own_d1_156 : decode prog_171_method_22_code 156 = .ok (.iand, 1) := by decide +kernel
theorem own_d1_157 : decode prog_171_method_22_code 157 = .ok (.ior, 1) := by decide +kernel
theorem own_d1_158 : decode prog_171_method_22_code 158 = .ok (.i2b, 1) := by decide +kernel
theorem own_d1_159 : decode prog_171_method_22_code 159 = .ok (.bastore, 1) := by decide +kernel
theorem own_d1_160 : decode prog_171_method_22_code 160 = .ok (.iconst 4, 1) := by decide +kernel
theorem own_d1_161 : decode prog_171_method_22_code 161 = .ok (.ireturn, 1) := by decide +kernel
theorem own_ef1_e4 (m : MethodId) (p0 : Int32) (r1 : Addr) (p2 : Int32) : entryFrame m #[(.int p0), (.ref r1), (.int p2)] 3 = mkF m 0 #[.val (.int p0), .val (.ref r1), .val (.int p2)] [] := by first | (simp [entryFrame, mkF, argsToLocals, Value.category]; done) | rfl
def own_Q1_e4 (Z : State) (p0 : Int32) (r1 : Addr) (p2 : Int32) (g : Nat → Int32) (h0 : Heap) (n0 : Nat) (v : Option Value) (h : Heap) (L : List Loc) : Prop := (v = some (.int (4 : Int32))) ∧ (Fr n0 L) ∧ (Keep h0 h [r1]) ∧ (own_RayB Z h r1 8 ((fun i => if i = ((p2 + (3 : Int32))).toNatClampNeg then (nar .byte (((128 : Int32) ||| (p0 &&& (63 : Int32))).toInt8.toInt32)) else ((fun i => if i = ((p2 + (2 : Int32))).toNatClampNeg then (nar .byte (((128 : Int32) ||| ((p0 >>> ((6 : Int32) &&& 31)) &&& (63 : Int32))).toInt8.toInt32)) else ((fun i => if i = ((p2 + (1 : Int32))).toNatClampNeg then (nar .byte (((128 : Int32) ||| ((p0 >>> ((12 : Int32) &&& 31)) &&& (63 : Int32))).toInt8.toInt32)) else ((fun i => if i = (p2).toNatClampNeg then (nar .byte (((240 : Int32) ||| (p0 >>> ((18 : Int32) &&& 31))).toInt8.toInt32)) else g i)) i)) i)) i)))
set_option maxRecDepth 65536 in
set_option maxHeartbeats 40000000 in
theorem own_rm1_e4 (l : Launch) (Z : State) (a0 : Array Value) (hw : ∀ d ∈ tables_1, d.before a0 Z = true) (ws : List Jvm.Cond) (p0 : Int32) (r1 : Addr) (p2 : Int32) (g : Nat → Int32) (h0 : Heap) (n0 : Nat) (Z0 : n0 ≤ h0.size) (R_r1 : own_RayB Z h0 r1 8 g) (g_r1 : n0 ≤ r1) (hat : p2 = (0 : Int32) ∨ p2 = (1 : Int32) ∨ p2 = (2 : Int32) ∨ p2 = (3 : Int32)) (h1 : ¬ (p0 < (128 : Int32))) (h2 : ¬ (p0 < (2048 : Int32))) (h3 : ¬ (p0 < (65536 : Int32))) :
    MetFree l (⟨"com/example/psyche/psyche/XmlChars", "encode", "(I[BI)I"⟩ : MethodName) (head1 (Jvm.Cond.code (⟨"com/example/psyche/psyche/XmlChars", "encode", "(I[BI)I"⟩ : MethodName) prog_171_method_22_code 3 (some .int) :: ws) ({ frames := 0, cells := 0, slots := 0, locals := 0 } : Room)) (fun a U => a = #[(.int p0), (.ref r1), (.int p2)] ∧ Z.Warmed39 U.vm ∧ U.heap = h0) (fun _ _ _ _ _ => True) (fun _ U o U' => ∃ v L, o = .returned v ∧ own_Q1_e4 Z p0 r1 p2 g h0 n0 v U'.heap L ∧ FrameEnd U o U' L ({ frames := 0, cells := 0, slots := 0, locals := 0 } : Room).cells ({ frames := 0, cells := 0, slots := 0, locals := 0 } : Room).slots) := by
  refine MetFree.of_bodySF (plainFor_of_name own_pn0) hisR ?_
  intro p e s m args below meth c s₁ Bd hml0 hP hK
  obtain ⟨rfl, hZ, hh⟩ := hP
  have hx := Bd.exec
  have hby := Bd.bytes
  have hml : c.maxLocals = 3 := hml0
  have hown : s.vm.findClass "com/example/psyche/psyche/XmlChars" = some m.cls := findClass_of_methodNamed Bd.named
  have hnm := (name_of_methodNamed Bd.named Bd.method).1
  have X0 : Stand p l e ({ frames := 0, cells := 0, slots := 0, locals := 0 } : Room) s m #[(.int p0), (.ref r1), (.int p2)] below meth c s₁ [] 0 0 := Stand.of_body Bd
  have e0 : s₁.heap = h0 := by rw [← hh, Bd.state]; rfl
  have N0 := Fr.nil n0
  have pre0 : ∀ t, Steps p.tables e below (s₁.setTop (mkF m 0 #[.val (.int p0), .val (.ref r1), .val (.int p2)] [])) t → Steps p.tables e below (s₁.setTop (entryFrame m #[(.int p0), (.ref r1), (.int p2)] 3)) t := fun t k => castTop (own_ef1_e4 m p0 r1 p2) k
  refine own_run (own_st pre0 ?_)
  have hin := own_in p2 hat
  refine own_st (B := s₁.setTop (mkF m 4 #[.val (.int p0), .val (.ref r1), .val (.int p2)] [(.int (128 : Int32)), (.int p0)])) (fun target kt => ?_) ?_
  · show Steps p.tables e below (s₁.setTop (mkF m 0 #[.val (.int p0), .val (.ref r1), .val (.int p2)] [])) target
    refine XS.iloadN X0.here hx rfl (hb hby own_d1_0) rfl ?_
    show Steps p.tables e below (s₁.setTop (mkF m 1 #[.val (.int p0), .val (.ref r1), .val (.int p2)] [(.int p0)])) target
    refine XS.sipush X0.here hx rfl (hb hby own_d1_1) ?_
    exact kt
  have c4 : ¬ (p0 < (128 : Int32)) := by
    exact h1
  refine own_st (B := s₁.setTop (mkF m 18 #[.val (.int p0), .val (.ref r1), .val (.int p2)] [(.int (2048 : Int32)), (.int p0)])) (fun target kt => ?_) ?_
  · show Steps p.tables e below (s₁.setTop (mkF m 4 #[.val (.int p0), .val (.ref r1), .val (.int p2)] [(.int (128 : Int32)), (.int p0)])) target
    refine XS.icmpYes X0.here hx rfl (pc0 := 4) (pc' := 14) rfl (hb hby own_d1_4) rfl (flt c4).2.1 (by decide) (by decide) ?_
    show Steps p.tables e below (s₁.setTop (mkF m 14 #[.val (.int p0), .val (.ref r1), .val (.int p2)] [])) target
    refine XS.iloadN X0.here hx rfl (hb hby own_d1_14) rfl ?_
    show Steps p.tables e below (s₁.setTop (mkF m 15 #[.val (.int p0), .val (.ref r1), .val (.int p2)] [(.int p0)])) target
    refine XS.sipush X0.here hx rfl (hb hby own_d1_15) ?_
    exact kt
  have c18 : ¬ (p0 < (2048 : Int32)) := by
    exact h2
  refine own_st (B := s₁.setTop (mkF m 52 #[.val (.int p0), .val (.ref r1), .val (.int p2)] [(.int (65536 : Int32)), (.int p0)])) (fun target kt => ?_) ?_
  · show Steps p.tables e below (s₁.setTop (mkF m 18 #[.val (.int p0), .val (.ref r1), .val (.int p2)] [(.int (2048 : Int32)), (.int p0)])) target
    refine XS.icmpYes X0.here hx rfl (pc0 := 18) (pc' := 49) rfl (hb hby own_d1_18) rfl (flt c18).2.1 (by decide) (by decide) ?_
    show Steps p.tables e below (s₁.setTop (mkF m 49 #[.val (.int p0), .val (.ref r1), .val (.int p2)] [])) target
    refine XS.iloadN X0.here hx rfl (hb hby own_d1_49) rfl ?_
    show Steps p.tables e below (s₁.setTop (mkF m 50 #[.val (.int p0), .val (.ref r1), .val (.int p2)] [(.int p0)])) target
    refine X0.ldcInt hx hown (mvT hZ (hw _ (List.mem_of_getElem? (i := 8) rfl))) (g := (mkF m 50 #[.val (.int p0), .val (.ref r1), .val (.int p2)] [(.int p0)])) rfl (hb hby own_d1_50) _ ?_
    exact kt
  have c52 : ¬ (p0 < (65536 : Int32)) := by
    exact h3
  refine own_st (B := s₁.setTop (mkF m 111 #[.val (.int p0), .val (.ref r1), .val (.int p2)] [(.int (((240 : Int32) ||| (p0 >>> ((18 : Int32) &&& 31))).toInt8.toInt32)), (.int p2), (.ref r1)])) (fun target kt => ?_) ?_
  · show Steps p.tables e below (s₁.setTop (mkF m 52 #[.val (.int p0), .val (.ref r1), .val (.int p2)] [(.int (65536 : Int32)), (.int p0)])) target
    refine XS.icmpYes X0.here hx rfl (pc0 := 52) (pc' := 100) rfl (hb hby own_d1_52) rfl (flt c52).2.1 (by decide) (by decide) ?_
    show Steps p.tables e below (s₁.setTop (mkF m 100 #[.val (.int p0), .val (.ref r1), .val (.int p2)] [])) target
    refine XS.aloadN X0.here hx rfl (hb hby own_d1_100) rfl rfl ?_
    show Steps p.tables e below (s₁.setTop (mkF m 101 #[.val (.int p0), .val (.ref r1), .val (.int p2)] [(.ref r1)])) target
    refine XS.iloadN X0.here hx rfl (hb hby own_d1_101) rfl ?_
    show Steps p.tables e below (s₁.setTop (mkF m 102 #[.val (.int p0), .val (.ref r1), .val (.int p2)] [(.int p2), (.ref r1)])) target
    refine XS.sipush X0.here hx rfl (hb hby own_d1_102) ?_
    show Steps p.tables e below (s₁.setTop (mkF m 105 #[.val (.int p0), .val (.ref r1), .val (.int p2)] [(.int (240 : Int32)), (.int p2), (.ref r1)])) target
    refine XS.iloadN X0.here hx rfl (hb hby own_d1_105) rfl ?_
    show Steps p.tables e below (s₁.setTop (mkF m 106 #[.val (.int p0), .val (.ref r1), .val (.int p2)] [(.int p0), (.int (240 : Int32)), (.int p2), (.ref r1)])) target
    refine XS.bipush X0.here hx rfl (hb hby own_d1_106) ?_
    show Steps p.tables e below (s₁.setTop (mkF m 108 #[.val (.int p0), .val (.ref r1), .val (.int p2)] [(.int (18 : Int32)), (.int p0), (.int (240 : Int32)), (.int p2), (.ref r1)])) target
    refine XS.ishr X0.here hx rfl (hb hby own_d1_108) rfl ?_
    show Steps p.tables e below (s₁.setTop (mkF m 109 #[.val (.int p0), .val (.ref r1), .val (.int p2)] [(.int (p0 >>> ((18 : Int32) &&& 31))), (.int (240 : Int32)), (.int p2), (.ref r1)])) target
    refine XS.ior X0.here hx rfl (hb hby own_d1_109) rfl ?_
    show Steps p.tables e below (s₁.setTop (mkF m 110 #[.val (.int p0), .val (.ref r1), .val (.int p2)] [(.int ((240 : Int32) ||| (p0 >>> ((18 : Int32) &&& 31)))), (.int p2), (.ref r1)])) target
    refine XS.i2b X0.here hx rfl (hb hby own_d1_110) rfl ?_
    exact kt
  obtain ⟨clg111, Arg111, Szg111, -⟩ := id R_r1
  have hing111 : ¬ (p2 < 0 ∨ clg111.slots.size ≤ (p2).toNatClampNeg) := own_inb Szg111 hin.1
  obtain ⟨Tg111, hg111, Xg111, eg111, Wg111, stg111⟩ := stB X0 hx hZ e0 Arg111 (j := p2) hing111 (g := (mkF m 111 #[.val (.int p0), .val (.ref r1), .val (.int p2)] [(.int (((240 : Int32) ||| (p0 >>> ((18 : Int32) &&& 31))).toInt8.toInt32)), (.int p2), (.ref r1)])) rfl rfl (hb hby own_d1_111)
  refine own_st stg111 ?_
  have Ng111 := Fr.snoc Xg111 N0 g_r1
  obtain ⟨a111, ha111⟩ : ∃ gz : Nat → Int32, gz = fun i => if i = (p2).toNatClampNeg then (nar .byte (((240 : Int32) ||| (p0 >>> ((18 : Int32) &&& 31))).toInt8.toInt32)) else g i := ⟨_, rfl⟩
  have Zz : n0 ≤ hg111.size := Nat.le_trans Z0 (Keep.of_wr Wg111).1
  have Kc := (Keep.refl h0 [r1]).wr Wg111 (Or.inl (List.mem_of_getElem? (i := 0) rfl))
  have F_1 : own_RayB Z hg111 r1 8 a111 := by rw [ha111]; exact own_RayB_set R_r1 Wg111 rfl (fits_nar_byte _)
  refine own_st (B := Tg111.setTop (mkF m 128 #[.val (.int p0), .val (.ref r1), .val (.int p2)] [(.int (((128 : Int32) ||| ((p0 >>> ((12 : Int32) &&& 31)) &&& (63 : Int32))).toInt8.toInt32)), (.int (p2 + (1 : Int32))), (.ref r1)])) (fun target kt => ?_) ?_
  · show Steps p.tables e below (Tg111.setTop (mkF m 112 #[.val (.int p0), .val (.ref r1), .val (.int p2)] [])) target
    refine XS.aloadN Xg111.here hx rfl (hb hby own_d1_112) rfl rfl ?_
    show Steps p.tables e below (Tg111.setTop (mkF m 113 #[.val (.int p0), .val (.ref r1), .val (.int p2)] [(.ref r1)])) target
    refine XS.iloadN Xg111.here hx rfl (hb hby own_d1_113) rfl ?_
    show Steps p.tables e below (Tg111.setTop (mkF m 114 #[.val (.int p0), .val (.ref r1), .val (.int p2)] [(.int p2), (.ref r1)])) target
    refine XS.iconst Xg111.here hx rfl (hb hby own_d1_114) ?_
    show Steps p.tables e below (Tg111.setTop (mkF m 115 #[.val (.int p0), .val (.ref r1), .val (.int p2)] [(.int (1 : Int32)), (.int p2), (.ref r1)])) target
    refine XS.iadd Xg111.here hx rfl (hb hby own_d1_115) rfl ?_
    show Steps p.tables e below (Tg111.setTop (mkF m 116 #[.val (.int p0), .val (.ref r1), .val (.int p2)] [(.int (p2 + (1 : Int32))), (.ref r1)])) target
    refine XS.sipush Xg111.here hx rfl (hb hby own_d1_116) ?_
    show Steps p.tables e below (Tg111.setTop (mkF m 119 #[.val (.int p0), .val (.ref r1), .val (.int p2)] [(.int (128 : Int32)), (.int (p2 + (1 : Int32))), (.ref r1)])) target
    refine XS.iloadN Xg111.here hx rfl (hb hby own_d1_119) rfl ?_
    show Steps p.tables e below (Tg111.setTop (mkF m 120 #[.val (.int p0), .val (.ref r1), .val (.int p2)] [(.int p0), (.int (128 : Int32)), (.int (p2 + (1 : Int32))), (.ref r1)])) target
    refine XS.bipush Xg111.here hx rfl (hb hby own_d1_120) ?_
    show Steps p.tables e below (Tg111.setTop (mkF m 122 #[.val (.int p0), .val (.ref r1), .val (.int p2)] [(.int (12 : Int32)), (.int p0), (.int (128 : Int32)), (.int (p2 + (1 : Int32))), (.ref r1)])) target
    refine XS.ishr Xg111.here hx rfl (hb hby own_d1_122) rfl ?_
    show Steps p.tables e below (Tg111.setTop (mkF m 123 #[.val (.int p0), .val (.ref r1), .val (.int p2)] [(.int (p0 >>> ((12 : Int32) &&& 31))), (.int (128 : Int32)), (.int (p2 + (1 : Int32))), (.ref r1)])) target
    refine XS.bipush Xg111.here hx rfl (hb hby own_d1_123) ?_
    show Steps p.tables e below (Tg111.setTop (mkF m 125 #[.val (.int p0), .val (.ref r1), .val (.int p2)] [(.int (63 : Int32)), (.int (p0 >>> ((12 : Int32) &&& 31))), (.int (128 : Int32)), (.int (p2 + (1 : Int32))), (.ref r1)])) target
    refine XS.iand Xg111.here hx rfl (hb hby own_d1_125) rfl ?_
    show Steps p.tables e below (Tg111.setTop (mkF m 126 #[.val (.int p0), .val (.ref r1), .val (.int p2)] [(.int ((p0 >>> ((12 : Int32) &&& 31)) &&& (63 : Int32))), (.int (128 : Int32)), (.int (p2 + (1 : Int32))), (.ref r1)])) target
    refine XS.ior Xg111.here hx rfl (hb hby own_d1_126) rfl ?_
    show Steps p.tables e below (Tg111.setTop (mkF m 127 #[.val (.int p0), .val (.ref r1), .val (.int p2)] [(.int ((128 : Int32) ||| ((p0 >>> ((12 : Int32) &&& 31)) &&& (63 : Int32)))), (.int (p2 + (1 : Int32))), (.ref r1)])) target
    refine XS.i2b Xg111.here hx rfl (hb hby own_d1_127) rfl ?_
    exact kt
  obtain ⟨clg128, Arg128, Szg128, -⟩ := id F_1
  have hing128 : ¬ ((p2 + (1 : Int32)) < 0 ∨ clg128.slots.size ≤ ((p2 + (1 : Int32))).toNatClampNeg) := own_inb Szg128 hin.2.1
  obtain ⟨Tg128, hg128, Xg128, eg128, Wg128, stg128⟩ := stB Xg111 hx hZ eg111 Arg128 (j := (p2 + (1 : Int32))) hing128 (g := (mkF m 128 #[.val (.int p0), .val (.ref r1), .val (.int p2)] [(.int (((128 : Int32) ||| ((p0 >>> ((12 : Int32) &&& 31)) &&& (63 : Int32))).toInt8.toInt32)), (.int (p2 + (1 : Int32))), (.ref r1)])) rfl rfl (hb hby own_d1_128)
  refine own_st stg128 ?_
  have Ng128 := Fr.snoc Xg128 Ng111 g_r1
  obtain ⟨a128, ha128⟩ : ∃ gz : Nat → Int32, gz = fun i => if i = ((p2 + (1 : Int32))).toNatClampNeg then (nar .byte (((128 : Int32) ||| ((p0 >>> ((12 : Int32) &&& 31)) &&& (63 : Int32))).toInt8.toInt32)) else a111 i := ⟨_, rfl⟩
  have Zz_1 : n0 ≤ hg128.size := Nat.le_trans Zz (Keep.of_wr Wg128).1
  have Kc_1 := Kc.wr Wg128 (Or.inl (List.mem_of_getElem? (i := 0) rfl))
  have F_3 : own_RayB Z hg128 r1 8 a128 := by rw [ha128]; exact own_RayB_set F_1 Wg128 rfl (fits_nar_byte _)
  refine own_st (B := Tg128.setTop (mkF m 145 #[.val (.int p0), .val (.ref r1), .val (.int p2)] [(.int (((128 : Int32) ||| ((p0 >>> ((6 : Int32) &&& 31)) &&& (63 : Int32))).toInt8.toInt32)), (.int (p2 + (2 : Int32))), (.ref r1)])) (fun target kt => ?_) ?_
  · show Steps p.tables e below (Tg128.setTop (mkF m 129 #[.val (.int p0), .val (.ref r1), .val (.int p2)] [])) target
    refine XS.aloadN Xg128.here hx rfl (hb hby own_d1_129) rfl rfl ?_
    show Steps p.tables e below (Tg128.setTop (mkF m 130 #[.val (.int p0), .val (.ref r1), .val (.int p2)] [(.ref r1)])) target
    refine XS.iloadN Xg128.here hx rfl (hb hby own_d1_130) rfl ?_
    show Steps p.tables e below (Tg128.setTop (mkF m 131 #[.val (.int p0), .val (.ref r1), .val (.int p2)] [(.int p2), (.ref r1)])) target
    refine XS.iconst Xg128.here hx rfl (hb hby own_d1_131) ?_
    show Steps p.tables e below (Tg128.setTop (mkF m 132 #[.val (.int p0), .val (.ref r1), .val (.int p2)] [(.int (2 : Int32)), (.int p2), (.ref r1)])) target
    refine XS.iadd Xg128.here hx rfl (hb hby own_d1_132) rfl ?_
    show Steps p.tables e below (Tg128.setTop (mkF m 133 #[.val (.int p0), .val (.ref r1), .val (.int p2)] [(.int (p2 + (2 : Int32))), (.ref r1)])) target
    refine XS.sipush Xg128.here hx rfl (hb hby own_d1_133) ?_
    show Steps p.tables e below (Tg128.setTop (mkF m 136 #[.val (.int p0), .val (.ref r1), .val (.int p2)] [(.int (128 : Int32)), (.int (p2 + (2 : Int32))), (.ref r1)])) target
    refine XS.iloadN Xg128.here hx rfl (hb hby own_d1_136) rfl ?_
    show Steps p.tables e below (Tg128.setTop (mkF m 137 #[.val (.int p0), .val (.ref r1), .val (.int p2)] [(.int p0), (.int (128 : Int32)), (.int (p2 + (2 : Int32))), (.ref r1)])) target
    refine XS.bipush Xg128.here hx rfl (hb hby own_d1_137) ?_
    show Steps p.tables e below (Tg128.setTop (mkF m 139 #[.val (.int p0), .val (.ref r1), .val (.int p2)] [(.int (6 : Int32)), (.int p0), (.int (128 : Int32)), (.int (p2 + (2 : Int32))), (.ref r1)])) target
    refine XS.ishr Xg128.here hx rfl (hb hby own_d1_139) rfl ?_
    show Steps p.tables e below (Tg128.setTop (mkF m 140 #[.val (.int p0), .val (.ref r1), .val (.int p2)] [(.int (p0 >>> ((6 : Int32) &&& 31))), (.int (128 : Int32)), (.int (p2 + (2 : Int32))), (.ref r1)])) target
    refine XS.bipush Xg128.here hx rfl (hb hby own_d1_140) ?_
    show Steps p.tables e below (Tg128.setTop (mkF m 142 #[.val (.int p0), .val (.ref r1), .val (.int p2)] [(.int (63 : Int32)), (.int (p0 >>> ((6 : Int32) &&& 31))), (.int (128 : Int32)), (.int (p2 + (2 : Int32))), (.ref r1)])) target
    refine XS.iand Xg128.here hx rfl (hb hby own_d1_142) rfl ?_
    show Steps p.tables e below (Tg128.setTop (mkF m 143 #[.val (.int p0), .val (.ref r1), .val (.int p2)] [(.int ((p0 >>> ((6 : Int32) &&& 31)) &&& (63 : Int32))), (.int (128 : Int32)), (.int (p2 + (2 : Int32))), (.ref r1)])) target
    refine XS.ior Xg128.here hx rfl (hb hby own_d1_143) rfl ?_
    show Steps p.tables e below (Tg128.setTop (mkF m 144 #[.val (.int p0), .val (.ref r1), .val (.int p2)] [(.int ((128 : Int32) ||| ((p0 >>> ((6 : Int32) &&& 31)) &&& (63 : Int32)))), (.int (p2 + (2 : Int32))), (.ref r1)])) target
    refine XS.i2b Xg128.here hx rfl (hb hby own_d1_144) rfl ?_
    exact kt
  obtain ⟨clg145, Arg145, Szg145, -⟩ := id F_3
  have hing145 : ¬ ((p2 + (2 : Int32)) < 0 ∨ clg145.slots.size ≤ ((p2 + (2 : Int32))).toNatClampNeg) := own_inb Szg145 hin.2.2.1
  obtain ⟨Tg145, hg145, Xg145, eg145, Wg145, stg145⟩ := stB Xg128 hx hZ eg128 Arg145 (j := (p2 + (2 : Int32))) hing145 (g := (mkF m 145 #[.val (.int p0), .val (.ref r1), .val (.int p2)] [(.int (((128 : Int32) ||| ((p0 >>> ((6 : Int32) &&& 31)) &&& (63 : Int32))).toInt8.toInt32)), (.int (p2 + (2 : Int32))), (.ref r1)])) rfl rfl (hb hby own_d1_145)
  refine own_st stg145 ?_
  have Ng145 := Fr.snoc Xg145 Ng128 g_r1
  obtain ⟨a145, ha145⟩ : ∃ gz : Nat → Int32, gz = fun i => if i = ((p2 + (2 : Int32))).toNatClampNeg then (nar .byte (((128 : Int32) ||| ((p0 >>> ((6 : Int32) &&& 31)) &&& (63 : Int32))).toInt8.toInt32)) else a128 i := ⟨_, rfl⟩
  have Zz_2 : n0 ≤ hg145.size := Nat.le_trans Zz_1 (Keep.of_wr Wg145).1
  have Kc_2 := Kc_1.wr Wg145 (Or.inl (List.mem_of_getElem? (i := 0) rfl))
  have F_5 : own_RayB Z hg145 r1 8 a145 := by rw [ha145]; exact own_RayB_set F_3 Wg145 rfl (fits_nar_byte _)
  refine own_st (B := Tg145.setTop (mkF m 159 #[.val (.int p0), .val (.ref r1), .val (.int p2)] [(.int (((128 : Int32) ||| (p0 &&& (63 : Int32))).toInt8.toInt32)), (.int (p2 + (3 : Int32))), (.ref r1)])) (fun target kt => ?_) ?_
  · show Steps p.tables e below (Tg145.setTop (mkF m 146 #[.val (.int p0), .val (.ref r1), .val (.int p2)] [])) target
    refine XS.aloadN Xg145.here hx rfl (hb hby own_d1_146) rfl rfl ?_
    show Steps p.tables e below (Tg145.setTop (mkF m 147 #[.val (.int p0), .val (.ref r1), .val (.int p2)] [(.ref r1)])) target
    refine XS.iloadN Xg145.here hx rfl (hb hby own_d1_147) rfl ?_
    show Steps p.tables e below (Tg145.setTop (mkF m 148 #[.val (.int p0), .val (.ref r1), .val (.int p2)] [(.int p2), (.ref r1)])) target
    refine XS.iconst Xg145.here hx rfl (hb hby own_d1_148) ?_
    show Steps p.tables e below (Tg145.setTop (mkF m 149 #[.val (.int p0), .val (.ref r1), .val (.int p2)] [(.int (3 : Int32)), (.int p2), (.ref r1)])) target
    refine XS.iadd Xg145.here hx rfl (hb hby own_d1_149) rfl ?_
    show Steps p.tables e below (Tg145.setTop (mkF m 150 #[.val (.int p0), .val (.ref r1), .val (.int p2)] [(.int (p2 + (3 : Int32))), (.ref r1)])) target
    refine XS.sipush Xg145.here hx rfl (hb hby own_d1_150) ?_
    show Steps p.tables e below (Tg145.setTop (mkF m 153 #[.val (.int p0), .val (.ref r1), .val (.int p2)] [(.int (128 : Int32)), (.int (p2 + (3 : Int32))), (.ref r1)])) target
    refine XS.iloadN Xg145.here hx rfl (hb hby own_d1_153) rfl ?_
    show Steps p.tables e below (Tg145.setTop (mkF m 154 #[.val (.int p0), .val (.ref r1), .val (.int p2)] [(.int p0), (.int (128 : Int32)), (.int (p2 + (3 : Int32))), (.ref r1)])) target
    refine XS.bipush Xg145.here hx rfl (hb hby own_d1_154) ?_
    show Steps p.tables e below (Tg145.setTop (mkF m 156 #[.val (.int p0), .val (.ref r1), .val (.int p2)] [(.int (63 : Int32)), (.int p0), (.int (128 : Int32)), (.int (p2 + (3 : Int32))), (.ref r1)])) target
    refine XS.iand Xg145.here hx rfl (hb hby own_d1_156) rfl ?_
    show Steps p.tables e below (Tg145.setTop (mkF m 157 #[.val (.int p0), .val (.ref r1), .val (.int p2)] [(.int (p0 &&& (63 : Int32))), (.int (128 : Int32)), (.int (p2 + (3 : Int32))), (.ref r1)])) target
    refine XS.ior Xg145.here hx rfl (hb hby own_d1_157) rfl ?_
    show Steps p.tables e below (Tg145.setTop (mkF m 158 #[.val (.int p0), .val (.ref r1), .val (.int p2)] [(.int ((128 : Int32) ||| (p0 &&& (63 : Int32)))), (.int (p2 + (3 : Int32))), (.ref r1)])) target
    refine XS.i2b Xg145.here hx rfl (hb hby own_d1_158) rfl ?_
    exact kt
  obtain ⟨clg159, Arg159, Szg159, -⟩ := id F_5
  have hing159 : ¬ ((p2 + (3 : Int32)) < 0 ∨ clg159.slots.size ≤ ((p2 + (3 : Int32))).toNatClampNeg) := own_inb Szg159 hin.2.2.2
  obtain ⟨Tg159, hg159, Xg159, eg159, Wg159, stg159⟩ := stB Xg145 hx hZ eg145 Arg159 (j := (p2 + (3 : Int32))) hing159 (g := (mkF m 159 #[.val (.int p0), .val (.ref r1), .val (.int p2)] [(.int (((128 : Int32) ||| (p0 &&& (63 : Int32))).toInt8.toInt32)), (.int (p2 + (3 : Int32))), (.ref r1)])) rfl rfl (hb hby own_d1_159)
  refine own_st stg159 ?_
  have Ng159 := Fr.snoc Xg159 Ng145 g_r1
  obtain ⟨a159, ha159⟩ : ∃ gz : Nat → Int32, gz = fun i => if i = ((p2 + (3 : Int32))).toNatClampNeg then (nar .byte (((128 : Int32) ||| (p0 &&& (63 : Int32))).toInt8.toInt32)) else a145 i := ⟨_, rfl⟩
  have Zz_3 : n0 ≤ hg159.size := Nat.le_trans Zz_2 (Keep.of_wr Wg159).1
  have Kc_3 := Kc_2.wr Wg159 (Or.inl (List.mem_of_getElem? (i := 0) rfl))
  have F_7 : own_RayB Z hg159 r1 8 a159 := by rw [ha159]; exact own_RayB_set F_5 Wg159 rfl (fits_nar_byte _)
  refine own_st (B := Tg159.setTop (mkF m 161 #[.val (.int p0), .val (.ref r1), .val (.int p2)] [(.int (4 : Int32))])) (fun target kt => ?_) ?_
  · show Steps p.tables e below (Tg159.setTop (mkF m 160 #[.val (.int p0), .val (.ref r1), .val (.int p2)] [])) target
    refine XS.iconst Xg159.here hx rfl (hb hby own_d1_160) ?_
    exact kt
  obtain ⟨fs, hr, hrun, hended, hW, hsame⟩ := Xg159.leave (v := some (.int (4 : Int32))) (fun h => by rw [Bd.returns] at h; cases h)
  have hend : Steps p.tables e below (Tg159.setTop (mkF m 161 #[.val (.int p0), .val (.ref r1), .val (.int p2)] [(.int (4 : Int32))])) (Tg159.setFrames fs) := by
    exact retI Xg159 hx Bd.returns (hb hby own_d1_161) hr
  refine own_fin hend ⟨_, hrun, hended, _, _, rfl, ?_, ⟨_, rfl⟩, hW, hsame.mono (by decide) (by decide)⟩
  show own_Q1_e4 Z p0 r1 p2 g h0 n0 _ Tg159.heap _
  rw [eg159]
  subst ha111 ha128 ha145 ha159
  exact ⟨(congrArg (fun z => some (Value.int z)) rfl), Ng159, Kc_3, F_7⟩
theorem own_pn1 : plainName "com/example/psyche/psyche/XmlCharsEncodePinLaw" = true := by first | (simp [plainName, overriddenIn]; done) | decide +kernel
theorem own_d3_0 : decode method_3_code 0 = .ok (.iload_n 0, 1) := by decide +kernel
theorem own_d3_1 : decode method_3_code 1 = .ok (.sipush 192, 3) := by decide +kernel
theorem own_d3_4 : decode method_3_code 4 = .ok (.iand, 1) := by decide +kernel
theorem own_d3_5 : decode method_3_code 5 = .ok (.sipush 128, 3) := by decide +kernel
theorem own_d3_8 : decode method_3_code 8 = .ok (.if_icmp .ne 7, 3) := by decide +kernel
theorem own_d3_11 : decode method_3_code 11 = .ok (.iconst 1, 1) := by decide +kernel
theorem own_d3_12 : decode method_3_code 12 = .ok (.goto 4, 3) := by decide +kernel
theorem own_d3_15 : decode method_3_code 15 = .ok (.iconst 0, 1) := by decide +kernel
theorem own_d3_16 : decode method_3_code 16 = .ok (.ireturn, 1) := by decide +kernel
theorem own_ef3 (m : MethodId) (p0 : Int32) : entryFrame m #[(.int p0)] 1 = mkF m 0 #[.val (.int p0)] [] := by first | (simp [entryFrame, mkF, argsToLocals, Value.category]; done) | rfl
def own_Q3 (Z : State) (p0 : Int32) (h0 : Heap) (n0 : Nat) (v : Option Value) (h : Heap) (L : List Loc) : Prop := (v = some (.int (own_b ((p0 &&& (192 : Int32)) = (128 : Int32))))) ∧ (Fr n0 L) ∧ (h = h0)
set_option maxRecDepth 65536 in
set_option maxHeartbeats 40000000 in
theorem own_rm3 (l : Launch) (Z : State) (a0 : Array Value) (hw : ∀ d ∈ tables_1, d.before a0 Z = true) (ws : List Jvm.Cond) (p0 : Int32) (h0 : Heap) (n0 : Nat) (Z0 : n0 ≤ h0.size) :
    MetFree l (⟨"com/example/psyche/psyche/XmlCharsEncodePinLaw", "cont", "(I)Z"⟩ : MethodName) (head1 (Jvm.Cond.code (⟨"com/example/psyche/psyche/XmlCharsEncodePinLaw", "cont", "(I)Z"⟩ : MethodName) method_3_code 1 (some .boolean) :: ws) ({ frames := 0, cells := 0, slots := 0, locals := 0 } : Room)) (fun a U => a = #[(.int p0)] ∧ Z.Warmed39 U.vm ∧ U.heap = h0) (fun _ _ _ _ _ => True) (fun _ U o U' => ∃ v L, o = .returned v ∧ own_Q3 Z p0 h0 n0 v U'.heap L ∧ FrameEnd U o U' L ({ frames := 0, cells := 0, slots := 0, locals := 0 } : Room).cells ({ frames := 0, cells := 0, slots := 0, locals := 0 } : Room).slots) := by
  refine MetFree.of_bodySF (plainFor_of_name own_pn1) hisR ?_
  intro p e s m args below meth c s₁ Bd hml0 hP hK
  obtain ⟨rfl, hZ, hh⟩ := hP
  have hx := Bd.exec
  have hby := Bd.bytes
  have hml : c.maxLocals = 1 := hml0
  have hown : s.vm.findClass "com/example/psyche/psyche/XmlCharsEncodePinLaw" = some m.cls := findClass_of_methodNamed Bd.named
  have hnm := (name_of_methodNamed Bd.named Bd.method).1
  have X0 : Stand p l e ({ frames := 0, cells := 0, slots := 0, locals := 0 } : Room) s m #[(.int p0)] below meth c s₁ [] 0 0 := Stand.of_body Bd
  have e0 : s₁.heap = h0 := by rw [← hh, Bd.state]; rfl
  have N0 := Fr.nil n0
  have pre0 : ∀ t, Steps p.tables e below (s₁.setTop (mkF m 0 #[.val (.int p0)] [])) t → Steps p.tables e below (s₁.setTop (entryFrame m #[(.int p0)] 1)) t := fun t k => castTop (own_ef3 m p0) k
  refine own_run (own_st pre0 ?_)
  refine own_st (B := s₁.setTop (mkF m 8 #[.val (.int p0)] [(.int (128 : Int32)), (.int (p0 &&& (192 : Int32)))])) (fun target kt => ?_) ?_
  · show Steps p.tables e below (s₁.setTop (mkF m 0 #[.val (.int p0)] [])) target
    refine XS.iloadN X0.here hx rfl (hb hby own_d3_0) rfl ?_
    show Steps p.tables e below (s₁.setTop (mkF m 1 #[.val (.int p0)] [(.int p0)])) target
    refine XS.sipush X0.here hx rfl (hb hby own_d3_1) ?_
    show Steps p.tables e below (s₁.setTop (mkF m 4 #[.val (.int p0)] [(.int (192 : Int32)), (.int p0)])) target
    refine XS.iand X0.here hx rfl (hb hby own_d3_4) rfl ?_
    show Steps p.tables e below (s₁.setTop (mkF m 5 #[.val (.int p0)] [(.int (p0 &&& (192 : Int32)))])) target
    refine XS.sipush X0.here hx rfl (hb hby own_d3_5) ?_
    exact kt
  obtain ⟨_, ⟨j16_s0, rfl, rfl⟩, st_M16⟩ : own_Lead p.tables e below (s₁.setTop (mkF m 8 #[.val (.int p0)] [(.int (128 : Int32)), (.int (p0 &&& (192 : Int32)))])) (fun B => ∃ (j16_s0 : Int32), B = s₁.setTop (mkF m 16 #[.val (.int p0)] [(.int j16_s0)]) ∧ j16_s0 = own_b ((p0 &&& (192 : Int32)) = (128 : Int32))) := by
    by_cases c8 : (p0 &&& (192 : Int32)) = (128 : Int32)
    · refine own_st (B := s₁.setTop (mkF m 16 #[.val (.int p0)] [(.int (1 : Int32))])) (fun target kt => ?_) ?_
      · show Steps p.tables e below (s₁.setTop (mkF m 8 #[.val (.int p0)] [(.int (128 : Int32)), (.int (p0 &&& (192 : Int32)))])) target
        refine XS.icmpNo X0.here hx rfl (hb hby own_d3_8) rfl (teq c8).2 ?_
        show Steps p.tables e below (s₁.setTop (mkF m 11 #[.val (.int p0)] [])) target
        refine XS.iconst X0.here hx rfl (hb hby own_d3_11) ?_
        show Steps p.tables e below (s₁.setTop (mkF m 12 #[.val (.int p0)] [(.int (1 : Int32))])) target
        refine XS.goto X0.here hx rfl (pc0 := 12) (pc' := 16) rfl (hb hby own_d3_12) (by decide) (by decide) ?_
        exact kt
      exact ⟨_, ⟨(1 : Int32), rfl, (own_b1 c8).symm⟩, fun _ k => k⟩
    · refine own_st (B := s₁.setTop (mkF m 16 #[.val (.int p0)] [(.int (0 : Int32))])) (fun target kt => ?_) ?_
      · show Steps p.tables e below (s₁.setTop (mkF m 8 #[.val (.int p0)] [(.int (128 : Int32)), (.int (p0 &&& (192 : Int32)))])) target
        refine XS.icmpYes X0.here hx rfl (pc0 := 8) (pc' := 15) rfl (hb hby own_d3_8) rfl (feq c8).2 (by decide) (by decide) ?_
        show Steps p.tables e below (s₁.setTop (mkF m 15 #[.val (.int p0)] [])) target
        refine XS.iconst X0.here hx rfl (hb hby own_d3_15) ?_
        exact kt
      exact ⟨_, ⟨(0 : Int32), rfl, (own_b0 c8).symm⟩, fun _ k => k⟩
  refine own_st st_M16 ?_
  obtain ⟨fs, hr, hrun, hended, hW, hsame⟩ := X0.leave (v := some (.int (nar .boolean (own_b ((p0 &&& (192 : Int32)) = (128 : Int32)))))) (fun h => by rw [Bd.returns] at h; cases h)
  have hend : Steps p.tables e below (s₁.setTop (mkF m 16 #[.val (.int p0)] [(.int (own_b ((p0 &&& (192 : Int32)) = (128 : Int32))))])) (s₁.setFrames fs) := by
    exact retN X0 hx (t := .boolean) Bd.returns (by simp) (hb hby own_d3_16) hr
  refine own_fin hend ⟨_, hrun, hended, _, _, rfl, ?_, ⟨_, rfl⟩, hW, hsame.mono (by decide) (by decide)⟩
  show own_Q3 Z p0 h0 n0 _ s₁.heap _
  rw [e0]
  exact ⟨(congrArg (fun z => some (Value.int z)) ((own_nar rfl).trans (own_bi ⟨fun w => w, fun w => w⟩))), N0, rfl⟩
theorem own_d2_0 : decode method_4_code 0 = .ok (.iload_n 1, 1) := by decide +kernel
theorem own_d2_1 : decode method_4_code 1 = .ok (.iload_n 2, 1) := by decide +kernel
theorem own_d2_2 : decode method_4_code 2 = .ok (.if_icmp .lt 10, 3) := by decide +kernel
theorem own_d2_5 : decode method_4_code 5 = .ok (.iload_n 1, 1) := by decide +kernel
theorem own_d2_6 : decode method_4_code 6 = .ok (.iload_n 2, 1) := by decide +kernel
theorem own_d2_7 : decode method_4_code 7 = .ok (.iload_n 3, 1) := by decide +kernel
theorem own_d2_8 : decode method_4_code 8 = .ok (.iadd, 1) := by decide +kernel
theorem own_d2_9 : decode method_4_code 9 = .ok (.if_icmp .lt 11, 3) := by decide +kernel
theorem own_d2_12 : decode method_4_code 12 = .ok (.aload_n 0, 1) := by decide +kernel
theorem own_d2_13 : decode method_4_code 13 = .ok (.iload_n 1, 1) := by decide +kernel
theorem own_d2_14 : decode method_4_code 14 = .ok (.baload, 1) := by decide +kernel
theorem own_d2_15 : decode method_4_code 15 = .ok (.iload 4, 2) := by decide +kernel
theorem own_d2_17 : decode method_4_code 17 = .ok (.if_icmp .ne 7, 3) := by decide +kernel
theorem own_d2_20 : decode method_4_code 20 = .ok (.iconst 1, 1) := by decide +kernel
theorem own_d2_21 : decode method_4_code 21 = .ok (.goto 4, 3) := by decide +kernel
theorem own_d2_24 : decode method_4_code 24 = .ok (.iconst 0, 1) := by decide +kernel
theorem own_d2_25 : decode method_4_code 25 = .ok (.ireturn, 1) := by decide +kernel
theorem own_ef2 (m : MethodId) (r0 : Addr) (p1 : Int32) (p2 : Int32) (p3 : Int32) (p4 : Int32) : entryFrame m #[(.ref r0), (.int p1), (.int p2), (.int p3), (.int p4)] 5 = mkF m 0 #[.val (.ref r0), .val (.int p1), .val (.int p2), .val (.int p3), .val (.int p4)] [] := by first | (simp [entryFrame, mkF, argsToLocals, Value.category]; done) | rfl
def own_Q2 (Z : State) (r0 : Addr) (p1 : Int32) (p2 : Int32) (p3 : Int32) (p4 : Int32) (g : Nat → Int32) (h0 : Heap) (n0 : Nat) (v : Option Value) (h : Heap) (L : List Loc) : Prop := (v = some (.int (own_b (((p1 < p2) ∧ ((g (p1).toNatClampNeg) = p4)) ∨ (¬ (p1 < p2) ∧ (((p1 < (p2 + p3)) ∨ ((g (p1).toNatClampNeg) = p4)))))))) ∧ (Fr n0 L) ∧ (h = h0)
set_option maxRecDepth 65536 in
set_option maxHeartbeats 40000000 in
theorem own_rm2 (l : Launch) (Z : State) (a0 : Array Value) (hw : ∀ d ∈ tables_1, d.before a0 Z = true) (ws : List Jvm.Cond) (r0 : Addr) (p1 : Int32) (p2 : Int32) (p3 : Int32) (p4 : Int32) (g : Nat → Int32) (h0 : Heap) (n0 : Nat) (Z0 : n0 ≤ h0.size) (R_r0 : own_RayB Z h0 r0 8 g) (hi : ¬ p1 < 0 ∧ p1.toNatClampNeg < 8) :
    MetFree l (⟨"com/example/psyche/psyche/XmlCharsEncodePinLaw", "same", "([BIIIB)Z"⟩ : MethodName) (head1 (Jvm.Cond.code (⟨"com/example/psyche/psyche/XmlCharsEncodePinLaw", "same", "([BIIIB)Z"⟩ : MethodName) method_4_code 5 (some .boolean) :: ws) ({ frames := 0, cells := 0, slots := 0, locals := 0 } : Room)) (fun a U => a = #[(.ref r0), (.int p1), (.int p2), (.int p3), (.int p4)] ∧ Z.Warmed39 U.vm ∧ U.heap = h0) (fun _ _ _ _ _ => True) (fun _ U o U' => ∃ v L, o = .returned v ∧ own_Q2 Z r0 p1 p2 p3 p4 g h0 n0 v U'.heap L ∧ FrameEnd U o U' L ({ frames := 0, cells := 0, slots := 0, locals := 0 } : Room).cells ({ frames := 0, cells := 0, slots := 0, locals := 0 } : Room).slots) := by
  refine MetFree.of_bodySF (plainFor_of_name own_pn1) hisR ?_
  intro p e s m args below meth c s₁ Bd hml0 hP hK
  obtain ⟨rfl, hZ, hh⟩ := hP
  have hx := Bd.exec
  have hby := Bd.bytes
  have hml : c.maxLocals = 5 := hml0
  have hown : s.vm.findClass "com/example/psyche/psyche/XmlCharsEncodePinLaw" = some m.cls := findClass_of_methodNamed Bd.named
  have hnm := (name_of_methodNamed Bd.named Bd.method).1
  have X0 : Stand p l e ({ frames := 0, cells := 0, slots := 0, locals := 0 } : Room) s m #[(.ref r0), (.int p1), (.int p2), (.int p3), (.int p4)] below meth c s₁ [] 0 0 := Stand.of_body Bd
  have e0 : s₁.heap = h0 := by rw [← hh, Bd.state]; rfl
  have N0 := Fr.nil n0
  have pre0 : ∀ t, Steps p.tables e below (s₁.setTop (mkF m 0 #[.val (.ref r0), .val (.int p1), .val (.int p2), .val (.int p3), .val (.int p4)] [])) t → Steps p.tables e below (s₁.setTop (entryFrame m #[(.ref r0), (.int p1), (.int p2), (.int p3), (.int p4)] 5)) t := fun t k => castTop (own_ef2 m r0 p1 p2 p3 p4) k
  refine own_run (own_st pre0 ?_)
  refine own_st (B := s₁.setTop (mkF m 2 #[.val (.ref r0), .val (.int p1), .val (.int p2), .val (.int p3), .val (.int p4)] [(.int p2), (.int p1)])) (fun target kt => ?_) ?_
  · show Steps p.tables e below (s₁.setTop (mkF m 0 #[.val (.ref r0), .val (.int p1), .val (.int p2), .val (.int p3), .val (.int p4)] [])) target
    refine XS.iloadN X0.here hx rfl (hb hby own_d2_0) rfl ?_
    show Steps p.tables e below (s₁.setTop (mkF m 1 #[.val (.ref r0), .val (.int p1), .val (.int p2), .val (.int p3), .val (.int p4)] [(.int p1)])) target
    refine XS.iloadN X0.here hx rfl (hb hby own_d2_1) rfl ?_
    exact kt
  obtain ⟨_, ⟨j25_s0, rfl, rfl⟩, st_M25⟩ : own_Lead p.tables e below (s₁.setTop (mkF m 2 #[.val (.ref r0), .val (.int p1), .val (.int p2), .val (.int p3), .val (.int p4)] [(.int p2), (.int p1)])) (fun B => ∃ (j25_s0 : Int32), B = s₁.setTop (mkF m 25 #[.val (.ref r0), .val (.int p1), .val (.int p2), .val (.int p3), .val (.int p4)] [(.int j25_s0)]) ∧ j25_s0 = own_b ((((p1 < p2) ∧ ((g (p1).toNatClampNeg) = p4)) ∨ (¬ (p1 < p2) ∧ (((p1 < (p2 + p3)) ∨ ((g (p1).toNatClampNeg) = p4))))))) := by
    by_cases c2 : p1 < p2
    · refine own_st (B := s₁.setTop (mkF m 14 #[.val (.ref r0), .val (.int p1), .val (.int p2), .val (.int p3), .val (.int p4)] [(.int p1), (.ref r0)])) (fun target kt => ?_) ?_
      · show Steps p.tables e below (s₁.setTop (mkF m 2 #[.val (.ref r0), .val (.int p1), .val (.int p2), .val (.int p3), .val (.int p4)] [(.int p2), (.int p1)])) target
        refine XS.icmpYes X0.here hx rfl (pc0 := 2) (pc' := 12) rfl (hb hby own_d2_2) rfl (tlt c2).1 (by decide) (by decide) ?_
        show Steps p.tables e below (s₁.setTop (mkF m 12 #[.val (.ref r0), .val (.int p1), .val (.int p2), .val (.int p3), .val (.int p4)] [])) target
        refine XS.aloadN X0.here hx rfl (hb hby own_d2_12) rfl rfl ?_
        show Steps p.tables e below (s₁.setTop (mkF m 13 #[.val (.ref r0), .val (.int p1), .val (.int p2), .val (.int p3), .val (.int p4)] [(.ref r0)])) target
        refine XS.iloadN X0.here hx rfl (hb hby own_d2_13) rfl ?_
        exact kt
      obtain ⟨clg14, Arg14, Szg14, Atg14⟩ := id R_r0
      have hing14 : ¬ (p1 < 0 ∨ clg14.slots.size ≤ (p1).toNatClampNeg) := own_inb Szg14 hi
      have hatg14 : clg14.slots[(p1).toNatClampNeg]? = some (.int (g (p1).toNatClampNeg)) := own_RayB_nth Atg14 Szg14 hing14
      refine own_st (B := s₁.setTop (mkF m 15 #[.val (.ref r0), .val (.int p1), .val (.int p2), .val (.int p3), .val (.int p4)] [(.int (g (p1).toNatClampNeg))])) (fun target kt => ?_) ?_
      · refine X0.baloadBytes hx (j := p1) (v := (.int (g (p1).toNatClampNeg))) (by first | exact Arg14.1 | (rw [e0]; exact Arg14.1)) (State.isArrayOf_alike hZ.alike Arg14.2.1) Arg14.2.2 hing14 hatg14 (g := (mkF m 14 #[.val (.ref r0), .val (.int p1), .val (.int p2), .val (.int p3), .val (.int p4)] [(.int p1), (.ref r0)])) rfl rfl (hb hby own_d2_14) _ ?_
        exact kt
      refine own_st (B := s₁.setTop (mkF m 17 #[.val (.ref r0), .val (.int p1), .val (.int p2), .val (.int p3), .val (.int p4)] [(.int p4), (.int (g (p1).toNatClampNeg))])) (fun target kt => ?_) ?_
      · show Steps p.tables e below (s₁.setTop (mkF m 15 #[.val (.ref r0), .val (.int p1), .val (.int p2), .val (.int p3), .val (.int p4)] [(.int (g (p1).toNatClampNeg))])) target
        refine XS.iload X0.here hx rfl (hb hby own_d2_15) rfl ?_
        exact kt
      by_cases c17 : (g (p1).toNatClampNeg) = p4
      · refine own_st (B := s₁.setTop (mkF m 25 #[.val (.ref r0), .val (.int p1), .val (.int p2), .val (.int p3), .val (.int p4)] [(.int (1 : Int32))])) (fun target kt => ?_) ?_
        · show Steps p.tables e below (s₁.setTop (mkF m 17 #[.val (.ref r0), .val (.int p1), .val (.int p2), .val (.int p3), .val (.int p4)] [(.int p4), (.int (g (p1).toNatClampNeg))])) target
          refine XS.icmpNo X0.here hx rfl (hb hby own_d2_17) rfl (teq c17).2 ?_
          show Steps p.tables e below (s₁.setTop (mkF m 20 #[.val (.ref r0), .val (.int p1), .val (.int p2), .val (.int p3), .val (.int p4)] [])) target
          refine XS.iconst X0.here hx rfl (hb hby own_d2_20) ?_
          show Steps p.tables e below (s₁.setTop (mkF m 21 #[.val (.ref r0), .val (.int p1), .val (.int p2), .val (.int p3), .val (.int p4)] [(.int (1 : Int32))])) target
          refine XS.goto X0.here hx rfl (pc0 := 21) (pc' := 25) rfl (hb hby own_d2_21) (by decide) (by decide) ?_
          exact kt
        exact ⟨_, ⟨(1 : Int32), rfl, (own_b1 (Or.inl ⟨c2, c17⟩)).symm⟩, fun _ k => k⟩
      · refine own_st (B := s₁.setTop (mkF m 25 #[.val (.ref r0), .val (.int p1), .val (.int p2), .val (.int p3), .val (.int p4)] [(.int (0 : Int32))])) (fun target kt => ?_) ?_
        · show Steps p.tables e below (s₁.setTop (mkF m 17 #[.val (.ref r0), .val (.int p1), .val (.int p2), .val (.int p3), .val (.int p4)] [(.int p4), (.int (g (p1).toNatClampNeg))])) target
          refine XS.icmpYes X0.here hx rfl (pc0 := 17) (pc' := 24) rfl (hb hby own_d2_17) rfl (feq c17).2 (by decide) (by decide) ?_
          show Steps p.tables e below (s₁.setTop (mkF m 24 #[.val (.ref r0), .val (.int p1), .val (.int p2), .val (.int p3), .val (.int p4)] [])) target
          refine XS.iconst X0.here hx rfl (hb hby own_d2_24) ?_
          exact kt
        exact ⟨_, ⟨(0 : Int32), rfl, (own_b0 (fun w => w.elim (fun u => c17 u.2) (fun u => u.1 c2))).symm⟩, fun _ k => k⟩
    · refine own_st (B := s₁.setTop (mkF m 9 #[.val (.ref r0), .val (.int p1), .val (.int p2), .val (.int p3), .val (.int p4)] [(.int (p2 + p3)), (.int p1)])) (fun target kt => ?_) ?_
      · show Steps p.tables e below (s₁.setTop (mkF m 2 #[.val (.ref r0), .val (.int p1), .val (.int p2), .val (.int p3), .val (.int p4)] [(.int p2), (.int p1)])) target
        refine XS.icmpNo X0.here hx rfl (hb hby own_d2_2) rfl (flt c2).1 ?_
        show Steps p.tables e below (s₁.setTop (mkF m 5 #[.val (.ref r0), .val (.int p1), .val (.int p2), .val (.int p3), .val (.int p4)] [])) target
        refine XS.iloadN X0.here hx rfl (hb hby own_d2_5) rfl ?_
        show Steps p.tables e below (s₁.setTop (mkF m 6 #[.val (.ref r0), .val (.int p1), .val (.int p2), .val (.int p3), .val (.int p4)] [(.int p1)])) target
        refine XS.iloadN X0.here hx rfl (hb hby own_d2_6) rfl ?_
        show Steps p.tables e below (s₁.setTop (mkF m 7 #[.val (.ref r0), .val (.int p1), .val (.int p2), .val (.int p3), .val (.int p4)] [(.int p2), (.int p1)])) target
        refine XS.iloadN X0.here hx rfl (hb hby own_d2_7) rfl ?_
        show Steps p.tables e below (s₁.setTop (mkF m 8 #[.val (.ref r0), .val (.int p1), .val (.int p2), .val (.int p3), .val (.int p4)] [(.int p3), (.int p2), (.int p1)])) target
        refine XS.iadd X0.here hx rfl (hb hby own_d2_8) rfl ?_
        exact kt
      by_cases c9 : p1 < (p2 + p3)
      · refine own_st (B := s₁.setTop (mkF m 25 #[.val (.ref r0), .val (.int p1), .val (.int p2), .val (.int p3), .val (.int p4)] [(.int (1 : Int32))])) (fun target kt => ?_) ?_
        · show Steps p.tables e below (s₁.setTop (mkF m 9 #[.val (.ref r0), .val (.int p1), .val (.int p2), .val (.int p3), .val (.int p4)] [(.int (p2 + p3)), (.int p1)])) target
          refine XS.icmpYes X0.here hx rfl (pc0 := 9) (pc' := 20) rfl (hb hby own_d2_9) rfl (tlt c9).1 (by decide) (by decide) ?_
          show Steps p.tables e below (s₁.setTop (mkF m 20 #[.val (.ref r0), .val (.int p1), .val (.int p2), .val (.int p3), .val (.int p4)] [])) target
          refine XS.iconst X0.here hx rfl (hb hby own_d2_20) ?_
          show Steps p.tables e below (s₁.setTop (mkF m 21 #[.val (.ref r0), .val (.int p1), .val (.int p2), .val (.int p3), .val (.int p4)] [(.int (1 : Int32))])) target
          refine XS.goto X0.here hx rfl (pc0 := 21) (pc' := 25) rfl (hb hby own_d2_21) (by decide) (by decide) ?_
          exact kt
        exact ⟨_, ⟨(1 : Int32), rfl, (own_b1 (Or.inr ⟨c2, (Or.inl c9)⟩)).symm⟩, fun _ k => k⟩
      · refine own_st (B := s₁.setTop (mkF m 14 #[.val (.ref r0), .val (.int p1), .val (.int p2), .val (.int p3), .val (.int p4)] [(.int p1), (.ref r0)])) (fun target kt => ?_) ?_
        · show Steps p.tables e below (s₁.setTop (mkF m 9 #[.val (.ref r0), .val (.int p1), .val (.int p2), .val (.int p3), .val (.int p4)] [(.int (p2 + p3)), (.int p1)])) target
          refine XS.icmpNo X0.here hx rfl (hb hby own_d2_9) rfl (flt c9).1 ?_
          show Steps p.tables e below (s₁.setTop (mkF m 12 #[.val (.ref r0), .val (.int p1), .val (.int p2), .val (.int p3), .val (.int p4)] [])) target
          refine XS.aloadN X0.here hx rfl (hb hby own_d2_12) rfl rfl ?_
          show Steps p.tables e below (s₁.setTop (mkF m 13 #[.val (.ref r0), .val (.int p1), .val (.int p2), .val (.int p3), .val (.int p4)] [(.ref r0)])) target
          refine XS.iloadN X0.here hx rfl (hb hby own_d2_13) rfl ?_
          exact kt
        obtain ⟨clg14, Arg14, Szg14, Atg14⟩ := id R_r0
        have hing14 : ¬ (p1 < 0 ∨ clg14.slots.size ≤ (p1).toNatClampNeg) := own_inb Szg14 hi
        have hatg14 : clg14.slots[(p1).toNatClampNeg]? = some (.int (g (p1).toNatClampNeg)) := own_RayB_nth Atg14 Szg14 hing14
        refine own_st (B := s₁.setTop (mkF m 15 #[.val (.ref r0), .val (.int p1), .val (.int p2), .val (.int p3), .val (.int p4)] [(.int (g (p1).toNatClampNeg))])) (fun target kt => ?_) ?_
        · refine X0.baloadBytes hx (j := p1) (v := (.int (g (p1).toNatClampNeg))) (by first | exact Arg14.1 | (rw [e0]; exact Arg14.1)) (State.isArrayOf_alike hZ.alike Arg14.2.1) Arg14.2.2 hing14 hatg14 (g := (mkF m 14 #[.val (.ref r0), .val (.int p1), .val (.int p2), .val (.int p3), .val (.int p4)] [(.int p1), (.ref r0)])) rfl rfl (hb hby own_d2_14) _ ?_
          exact kt
        refine own_st (B := s₁.setTop (mkF m 17 #[.val (.ref r0), .val (.int p1), .val (.int p2), .val (.int p3), .val (.int p4)] [(.int p4), (.int (g (p1).toNatClampNeg))])) (fun target kt => ?_) ?_
        · show Steps p.tables e below (s₁.setTop (mkF m 15 #[.val (.ref r0), .val (.int p1), .val (.int p2), .val (.int p3), .val (.int p4)] [(.int (g (p1).toNatClampNeg))])) target
          refine XS.iload X0.here hx rfl (hb hby own_d2_15) rfl ?_
          exact kt
        by_cases c17 : (g (p1).toNatClampNeg) = p4
        · refine own_st (B := s₁.setTop (mkF m 25 #[.val (.ref r0), .val (.int p1), .val (.int p2), .val (.int p3), .val (.int p4)] [(.int (1 : Int32))])) (fun target kt => ?_) ?_
          · show Steps p.tables e below (s₁.setTop (mkF m 17 #[.val (.ref r0), .val (.int p1), .val (.int p2), .val (.int p3), .val (.int p4)] [(.int p4), (.int (g (p1).toNatClampNeg))])) target
            refine XS.icmpNo X0.here hx rfl (hb hby own_d2_17) rfl (teq c17).2 ?_
            show Steps p.tables e below (s₁.setTop (mkF m 20 #[.val (.ref r0), .val (.int p1), .val (.int p2), .val (.int p3), .val (.int p4)] [])) target
            refine XS.iconst X0.here hx rfl (hb hby own_d2_20) ?_
            show Steps p.tables e below (s₁.setTop (mkF m 21 #[.val (.ref r0), .val (.int p1), .val (.int p2), .val (.int p3), .val (.int p4)] [(.int (1 : Int32))])) target
            refine XS.goto X0.here hx rfl (pc0 := 21) (pc' := 25) rfl (hb hby own_d2_21) (by decide) (by decide) ?_
            exact kt
          exact ⟨_, ⟨(1 : Int32), rfl, (own_b1 (Or.inr ⟨c2, (Or.inr c17)⟩)).symm⟩, fun _ k => k⟩
        · refine own_st (B := s₁.setTop (mkF m 25 #[.val (.ref r0), .val (.int p1), .val (.int p2), .val (.int p3), .val (.int p4)] [(.int (0 : Int32))])) (fun target kt => ?_) ?_
          · show Steps p.tables e below (s₁.setTop (mkF m 17 #[.val (.ref r0), .val (.int p1), .val (.int p2), .val (.int p3), .val (.int p4)] [(.int p4), (.int (g (p1).toNatClampNeg))])) target
            refine XS.icmpYes X0.here hx rfl (pc0 := 17) (pc' := 24) rfl (hb hby own_d2_17) rfl (feq c17).2 (by decide) (by decide) ?_
            show Steps p.tables e below (s₁.setTop (mkF m 24 #[.val (.ref r0), .val (.int p1), .val (.int p2), .val (.int p3), .val (.int p4)] [])) target
            refine XS.iconst X0.here hx rfl (hb hby own_d2_24) ?_
            exact kt
          exact ⟨_, ⟨(0 : Int32), rfl, (own_b0 (fun w => w.elim (fun u => c2 u.1) (fun u => (fun w => w.elim c9 c17) u.2))).symm⟩, fun _ k => k⟩
  refine own_st st_M25 ?_
  obtain ⟨fs, hr, hrun, hended, hW, hsame⟩ := X0.leave (v := some (.int (nar .boolean (own_b (((p1 < p2) ∧ ((g (p1).toNatClampNeg) = p4)) ∨ (¬ (p1 < p2) ∧ (((p1 < (p2 + p3)) ∨ ((g (p1).toNatClampNeg) = p4))))))))) (fun h => by rw [Bd.returns] at h; cases h)
  have hend : Steps p.tables e below (s₁.setTop (mkF m 25 #[.val (.ref r0), .val (.int p1), .val (.int p2), .val (.int p3), .val (.int p4)] [(.int (own_b (((p1 < p2) ∧ ((g (p1).toNatClampNeg) = p4)) ∨ (¬ (p1 < p2) ∧ (((p1 < (p2 + p3)) ∨ ((g (p1).toNatClampNeg) = p4)))))))])) (s₁.setFrames fs) := by
    exact retN X0 hx (t := .boolean) Bd.returns (by simp) (hb hby own_d2_25) hr
  refine own_fin hend ⟨_, hrun, hended, _, _, rfl, ?_, ⟨_, rfl⟩, hW, hsame.mono (by decide) (by decide)⟩
  show own_Q2 Z r0 p1 p2 p3 p4 g h0 n0 _ s₁.heap _
  rw [e0]
  exact ⟨(congrArg (fun z => some (Value.int z)) ((own_nar rfl).trans (own_bi ⟨fun w => w, fun w => w⟩))), N0, rfl⟩
theorem own_byte (y : Int32) (h0 : 0 ≤ y.toInt) (h1 : y.toInt < 256) : ((nar .byte (y.toInt8.toInt32)) &&& (255 : Int32)) = y := by
  have h2 := c_i2b y
  have h3 := c_i2b (y.toInt8.toInt32)
  show ((y.toInt8.toInt32).toInt8.toInt32 &&& (255 : Int32)) = y
  have h4 : ((y.toInt8.toInt32).toInt8.toInt32 &&& (255 : Int32)).toInt = ((y.toInt8.toInt32).toInt8.toInt32).toInt % 256 := c_mask _ 255 8 (by decide) (by decide)
  apply Int32.toInt_inj.mp
  rw [h4]
  omega
theorem own_or (a b : Int32) (k : Nat) (hk : k ≤ 31) (P : Int) (hP : P = (2 ^ k : Nat)) (ha : a.toInt % P = 0) (h0 : 0 ≤ a.toInt) (hb0 : 0 ≤ b.toInt) (hb1 : b.toInt < P) (h1 : a.toInt + b.toInt < 2147483648) : (a ||| b).toInt = a.toInt + b.toInt := by
  have h := c_or a b k hk P hP ha hb0 hb1
  have r := rng32 (a ||| b)
  omega
theorem own_enum {P : Int32 → Prop} (lo n : Nat) (hl : lo + n ≤ 1000) (h : ∀ k : Fin n, P (Int32.ofNat (lo + k.val))) (x : Int32) (h0 : (lo : Int) ≤ x.toInt) (h1 : x.toInt < lo + n) : P x := by
  have e : x = Int32.ofNat (lo + (x.toInt - lo).toNat) := by
    apply Int32.toInt_inj.mp
    have h2 : (Int32.ofNat (lo + (x.toInt - lo).toNat)).toInt = ((lo + (x.toInt - lo).toNat : Nat) : Int) := Int32.toInt_ofNat_small (by omega)
    rw [h2]
    omega
  have := h ⟨(x.toInt - lo).toNat, by omega⟩
  rw [e]
  exact this
theorem own_a224 (x : Int32) (h0 : 192 ≤ x.toInt) (h1 : x.toInt < 224) : (x &&& (224 : Int32)) = (192 : Int32) := own_enum (P := fun x => (x &&& (224 : Int32)) = (192 : Int32)) 192 32 (by decide) (by decide +kernel) x h0 h1
theorem own_a240 (x : Int32) (h0 : 224 ≤ x.toInt) (h1 : x.toInt < 240) : (x &&& (240 : Int32)) = (224 : Int32) := own_enum (P := fun x => (x &&& (240 : Int32)) = (224 : Int32)) 224 16 (by decide) (by decide +kernel) x h0 h1
theorem own_a248 (x : Int32) (h0 : 240 ≤ x.toInt) (h1 : x.toInt < 248) : (x &&& (248 : Int32)) = (240 : Int32) := own_enum (P := fun x => (x &&& (248 : Int32)) = (240 : Int32)) 240 8 (by decide) (by decide +kernel) x h0 h1
theorem own_a192 (x : Int32) (h0 : 128 ≤ x.toInt) (h1 : x.toInt < 192) : (x &&& (192 : Int32)) = (128 : Int32) := own_enum (P := fun x => (x &&& (192 : Int32)) = (128 : Int32)) 128 64 (by decide) (by decide +kernel) x h0 h1
theorem own_m63 (x : Int32) : (x &&& (63 : Int32)).toInt = x.toInt % 64 := c_mask x 63 6 (by decide) (by decide)
theorem own_m31 (x : Int32) : (x &&& (31 : Int32)).toInt = x.toInt % 32 := c_mask x 31 5 (by decide) (by decide)
theorem own_m15 (x : Int32) : (x &&& (15 : Int32)).toInt = x.toInt % 16 := c_mask x 15 4 (by decide) (by decide)
theorem own_m7 (x : Int32) : (x &&& (7 : Int32)).toInt = x.toInt % 8 := c_mask x 7 3 (by decide) (by decide)
theorem own_r6 (x : Int32) : (x >>> ((6 : Int32) &&& 31)).toInt = x.toInt / 64 := c_ishr x 6 6 (by decide)
theorem own_r12 (x : Int32) : (x >>> ((12 : Int32) &&& 31)).toInt = x.toInt / 4096 := c_ishr x 12 12 (by decide)
theorem own_r18 (x : Int32) : (x >>> ((18 : Int32) &&& 31)).toInt = x.toInt / 262144 := c_ishr x 18 18 (by decide)
theorem own_s6 (x : Int32) (h0 : 0 ≤ x.toInt) (h1 : x.toInt < 4096) : (x <<< ((6 : Int32) &&& 31)).toInt = x.toInt * 64 := by
  have h : ((x <<< ((6 : Int32) &&& 31)).toInt - x.toInt * 64) % 4294967296 = 0 := c_ishl x 6 6 (by decide)
  have r := rng32 (x <<< ((6 : Int32) &&& 31))
  omega
theorem own_s12 (x : Int32) (h0 : 0 ≤ x.toInt) (h1 : x.toInt < 4096) : (x <<< ((12 : Int32) &&& 31)).toInt = x.toInt * 4096 := by
  have h : ((x <<< ((12 : Int32) &&& 31)).toInt - x.toInt * 4096) % 4294967296 = 0 := c_ishl x 12 12 (by decide)
  have r := rng32 (x <<< ((12 : Int32) &&& 31))
  omega
theorem own_s18 (x : Int32) (h0 : 0 ≤ x.toInt) (h1 : x.toInt < 4096) : (x <<< ((18 : Int32) &&& 31)).toInt = x.toInt * 262144 := by
  have h : ((x <<< ((18 : Int32) &&& 31)).toInt - x.toInt * 262144) % 4294967296 = 0 := c_ishl x 18 18 (by decide)
  have r := rng32 (x <<< ((18 : Int32) &&& 31))
  omega
/-- the trailing byte made of six bits -/
theorem own_tr (b : Int32) (h0 : 0 ≤ b.toInt) (h1 : b.toInt < 64) : ((128 : Int32) ||| b).toInt = 128 + b.toInt := by
  have e : (128 : Int32).toInt = 128 := by decide
  have := own_or 128 b 6 (by decide) 64 (by decide) (by rw [e]; decide) (by rw [e]; decide) h0 h1 (by rw [e]; omega)
  rw [this, e]
theorem own_ld (a b : Int32) (A k : Int) (e : a.toInt = A) (ha : A % 8 = 0) (h0 : 0 ≤ A) (h8 : A ≤ 256) (hb0 : 0 ≤ b.toInt) (hb1 : b.toInt < 8) : (a ||| b).toInt = A + b.toInt := by
  have := own_or a b 3 (by decide) 8 (by decide) (by rw [e]; exact ha) (by rw [e]; exact h0) hb0 hb1 (by rw [e]; omega)
  rw [this, e]
theorem own_ld32 (b : Int32) (hb0 : 0 ≤ b.toInt) (hb1 : b.toInt < 32) : ((192 : Int32) ||| b).toInt = 192 + b.toInt := by
  have e : (192 : Int32).toInt = 192 := by decide
  have := own_or 192 b 6 (by decide) 64 (by decide) (by rw [e]; decide) (by rw [e]; decide) hb0 (by omega) (by rw [e]; omega)
  rw [this, e]
theorem own_ld16 (b : Int32) (hb0 : 0 ≤ b.toInt) (hb1 : b.toInt < 16) : ((224 : Int32) ||| b).toInt = 224 + b.toInt := by
  have e : (224 : Int32).toInt = 224 := by decide
  have := own_or 224 b 5 (by decide) 32 (by decide) (by rw [e]; decide) (by rw [e]; decide) hb0 (by omega) (by rw [e]; omega)
  rw [this, e]
theorem own_ld8 (b : Int32) (hb0 : 0 ≤ b.toInt) (hb1 : b.toInt < 8) : ((240 : Int32) ||| b).toInt = 240 + b.toInt := by
  have e : (240 : Int32).toInt = 240 := by decide
  have := own_or 240 b 4 (by decide) 16 (by decide) (by rw [e]; decide) (by rw [e]; decide) hb0 (by omega) (by rw [e]; omega)
  rw [this, e]
theorem own_j2 (c x y : Int32) (hc0 : 128 ≤ c.toInt) (hc1 : c.toInt < 2048) (hx : x.toInt = 192 + c.toInt / 64) (hy : y.toInt = 128 + c.toInt % 64) : (((x &&& (31 : Int32)) <<< ((6 : Int32) &&& 31)) ||| (y &&& (63 : Int32))) = c := by
  have h1 := own_m31 x
  have h2 := own_s6 (x &&& 31) (by omega) (by omega)
  have h3 := own_m63 y
  have h4 := own_or ((x &&& 31) <<< ((6 : Int32) &&& 31)) (y &&& 63) 6 (by decide) 64 (by decide) (by rw [h2]; omega) (by omega) (by omega) (by omega) (by omega)
  apply Int32.toInt_inj.mp
  omega
theorem own_j3 (c x y z : Int32) (hc0 : 2048 ≤ c.toInt) (hc1 : c.toInt < 65536) (hx : x.toInt = 224 + c.toInt / 4096) (hy : y.toInt = 128 + (c.toInt / 64) % 64) (hz : z.toInt = 128 + c.toInt % 64) :
    ((((x &&& (15 : Int32)) <<< ((12 : Int32) &&& 31)) ||| ((y &&& (63 : Int32)) <<< ((6 : Int32) &&& 31))) ||| (z &&& (63 : Int32))) = c := by
  have h1 := own_m15 x
  have h2 := own_s12 (x &&& 15) (by omega) (by omega)
  have h3 := own_m63 y
  have h4 := own_s6 (y &&& 63) (by omega) (by omega)
  have h5 := own_m63 z
  have h6 := own_or ((x &&& 15) <<< ((12 : Int32) &&& 31)) ((y &&& 63) <<< ((6 : Int32) &&& 31)) 12 (by decide) 4096 (by decide) (by rw [h2]; omega) (by omega) (by omega) (by omega) (by omega)
  have h7 := own_or (((x &&& 15) <<< ((12 : Int32) &&& 31)) ||| ((y &&& 63) <<< ((6 : Int32) &&& 31))) (z &&& 63) 6 (by decide) 64 (by decide) (by rw [h6]; omega) (by omega) (by omega) (by omega) (by omega)
  apply Int32.toInt_inj.mp
  omega
theorem own_j4 (c x y z t : Int32) (hc0 : 65536 ≤ c.toInt) (hc1 : c.toInt < 1114112) (hx : x.toInt = 240 + c.toInt / 262144) (hy : y.toInt = 128 + (c.toInt / 4096) % 64) (hz : z.toInt = 128 + (c.toInt / 64) % 64) (ht : t.toInt = 128 + c.toInt % 64) :
    (((((x &&& (7 : Int32)) <<< ((18 : Int32) &&& 31)) ||| ((y &&& (63 : Int32)) <<< ((12 : Int32) &&& 31))) ||| ((z &&& (63 : Int32)) <<< ((6 : Int32) &&& 31))) ||| (t &&& (63 : Int32))) = c := by
  have h1 := own_m7 x
  have h2 := own_s18 (x &&& 7) (by omega) (by omega)
  have h3 := own_m63 y
  have h4 := own_s12 (y &&& 63) (by omega) (by omega)
  have h5 := own_m63 z
  have h6 := own_s6 (z &&& 63) (by omega) (by omega)
  have h7 := own_m63 t
  have h8 := own_or ((x &&& 7) <<< ((18 : Int32) &&& 31)) ((y &&& 63) <<< ((12 : Int32) &&& 31)) 18 (by decide) 262144 (by decide) (by rw [h2]; omega) (by omega) (by omega) (by omega) (by omega)
  have h9 := own_or (((x &&& 7) <<< ((18 : Int32) &&& 31)) ||| ((y &&& 63) <<< ((12 : Int32) &&& 31))) ((z &&& 63) <<< ((6 : Int32) &&& 31)) 12 (by decide) 4096 (by decide) (by rw [h8]; omega) (by omega) (by omega) (by omega) (by omega)
  have h10 := own_or ((((x &&& 7) <<< ((18 : Int32) &&& 31)) ||| ((y &&& 63) <<< ((12 : Int32) &&& 31))) ||| ((z &&& 63) <<< ((6 : Int32) &&& 31))) (t &&& 63) 6 (by decide) 64 (by decide) (by rw [h9]; omega) (by omega) (by omega) (by omega) (by omega)
  apply Int32.toInt_inj.mp
  omega
theorem own_pos (a : Int32) : 0 ≤ (a &&& (2147483647 : Int32)).toInt := by
  have h : (a &&& (2147483647 : Int32)).toInt = a.toInt % 2147483648 := c_mask a 2147483647 31 (by decide) (by decide)
  rw [h]
  omega
theorem own_c1 (r c : Int32) (h : c = (r &&& (127 : Int32))) : 0 ≤ c.toInt ∧ c.toInt < 128 := by
  have h1 : (r &&& (127 : Int32)).toInt = r.toInt % 128 := c_mask r 127 7 (by decide) (by decide)
  rw [h, h1]
  omega
theorem own_cN (r b m c : Int32) (B M : Int) (hr : 0 ≤ r.toInt) (eb : b.toInt = B) (em : m.toInt = M) (hM : 0 < M) (hB : 0 ≤ B) (hs : B + M < 2147483648) (h : c = b + (r % m)) : B ≤ c.toInt ∧ c.toInt < B + M := by
  have h1 := (c_iremV r m).1 hr (by omega)
  have h2 := c_iadd b (r % m)
  have r1 := rng32 (b + (r % m))
  rw [h]
  omega
theorem own_nb8 (x : Int32) : nar .byte (x.toInt8.toInt32) = x.toInt8.toInt32 := by
  have h2 := c_i2b x
  have h3 := c_i2b (x.toInt8.toInt32)
  show (x.toInt8.toInt32).toInt8.toInt32 = x.toInt8.toInt32
  apply Int32.toInt_inj.mp
  omega
theorem own_pd0 : parseMethodDescriptor "(I[BI)I" = some ⟨[.int, (.array .byte), .int], some .int⟩ := by decide +kernel
theorem own_pd1 : parseMethodDescriptor "([BIIIB)Z" = some ⟨[(.array .byte), .int, .int, .int, .byte], some .boolean⟩ := by decide +kernel
theorem own_pd2 : parseMethodDescriptor "(I)Z" = some ⟨[.int], some .boolean⟩ := by decide +kernel
theorem own_ef0 (m : MethodId) (p0 : Int32) (p1 : Int32) (p2 : Int32) (p3 : Int32) : entryFrame m #[(.int p0), (.int p1), (.int p2), (.int p3)] maxLocals = mkF m 0 #[.val (.int p0), .val (.int p1), .val (.int p2), .val (.int p3), .unset, .unset, .unset, .unset, .unset, .unset, .unset, .unset, .unset, .unset, .unset, .unset, .unset] [] := by first | (simp [entryFrame, mkF, argsToLocals, Value.category, maxLocals]; done) | rfl
def own_Q0 (Z : State) (p0 : Int32) (p1 : Int32) (p2 : Int32) (p3 : Int32) (h0 : Heap) (n0 : Nat) (v : Option Value) (h : Heap) (L : List Loc) : Prop := (v = some (.int (1 : Int32))) ∧ (Fr n0 L)
set_option maxRecDepth 65536 in
set_option maxHeartbeats 40000000 in
theorem own_rm0 (l : Launch) (Z : State) (a0 : Array Value) (hw : ∀ d ∈ tables_1, d.before a0 Z = true) (ws : List Jvm.Cond) (p0 : Int32) (p1 : Int32) (p2 : Int32) (p3 : Int32) (h0 : Heap) (n0 : Nat) (Z0 : n0 ≤ h0.size) :
    MetFree l x (head1 (Jvm.Cond.code x code maxLocals ret :: ws) room_1) (fun a U => a = #[(.int p0), (.int p1), (.int p2), (.int p3)] ∧ Z.Warmed39 U.vm ∧ U.heap = h0) (fun _ _ _ _ _ => True) (fun _ U o U' => ∃ v L, o = .returned v ∧ own_Q0 Z p0 p1 p2 p3 h0 n0 v U'.heap L ∧ FrameEnd U o U' L room_1.cells room_1.slots) := by
  refine MetFree.of_bodySF (plainFor_of_name own_pn1) hisR ?_
  intro p e s m args below meth c s₁ Bd hml0 hP hK
  obtain ⟨rfl, hZ, hh⟩ := hP
  have hx := Bd.exec
  have hby := Bd.bytes
  have hml : c.maxLocals = 17 := hml0
  have hown : s.vm.findClass "com/example/psyche/psyche/XmlCharsEncodePinLaw" = some m.cls := findClass_of_methodNamed Bd.named
  have hnm := (name_of_methodNamed Bd.named Bd.method).1
  have X0 : Stand p l e room_1 s m #[(.int p0), (.int p1), (.int p2), (.int p3)] below meth c s₁ [] 0 0 := Stand.of_body Bd
  have e0 : s₁.heap = h0 := by rw [← hh, Bd.state]; rfl
  have N0 := Fr.nil n0
  have pre0 : ∀ t, Steps p.tables e below (s₁.setTop (mkF m 0 #[.val (.int p0), .val (.int p1), .val (.int p2), .val (.int p3), .unset, .unset, .unset, .unset, .unset, .unset, .unset, .unset, .unset, .unset, .unset, .unset, .unset] [])) t → Steps p.tables e below (s₁.setTop (entryFrame m #[(.int p0), (.int p1), (.int p2), (.int p3)] maxLocals)) t := fun t k => castTop (own_ef0 m p0 p1 p2 p3) k
  refine own_run (own_st pre0 ?_)
  obtain ⟨v3, hv3⟩ : ∃ z : Int32, z = (p1 &&& (3 : Int32)) := ⟨_, rfl⟩
  obtain ⟨v9, hv9⟩ : ∃ z : Int32, z = (p0 &&& (2147483647 : Int32)) := ⟨_, rfl⟩
  refine own_st (B := s₁.setTop (mkF m 13 #[.val (.int p0), .val (.int p1), .val (.int p2), .val (.int p3), .val (.int v3), .val (.int v9), .unset, .unset, .unset, .unset, .unset, .unset, .unset, .unset, .unset, .unset, .unset] [(.int v3)])) (fun target kt => ?_) ?_
  · show Steps p.tables e below (s₁.setTop (mkF m 0 #[.val (.int p0), .val (.int p1), .val (.int p2), .val (.int p3), .unset, .unset, .unset, .unset, .unset, .unset, .unset, .unset, .unset, .unset, .unset, .unset, .unset] [])) target
    refine XS.iloadN X0.here hx rfl (hb hby at_0) rfl ?_
    show Steps p.tables e below (s₁.setTop (mkF m 1 #[.val (.int p0), .val (.int p1), .val (.int p2), .val (.int p3), .unset, .unset, .unset, .unset, .unset, .unset, .unset, .unset, .unset, .unset, .unset, .unset, .unset] [(.int p1)])) target
    refine XS.iconst X0.here hx rfl (hb hby at_1) ?_
    show Steps p.tables e below (s₁.setTop (mkF m 2 #[.val (.int p0), .val (.int p1), .val (.int p2), .val (.int p3), .unset, .unset, .unset, .unset, .unset, .unset, .unset, .unset, .unset, .unset, .unset, .unset, .unset] [(.int (3 : Int32)), (.int p1)])) target
    refine XS.iand X0.here hx rfl (hb hby at_2) rfl ?_
    show Steps p.tables e below (s₁.setTop (mkF m 3 #[.val (.int p0), .val (.int p1), .val (.int p2), .val (.int p3), .unset, .unset, .unset, .unset, .unset, .unset, .unset, .unset, .unset, .unset, .unset, .unset, .unset] [(.int (p1 &&& (3 : Int32)))])) target
    refine XS.istore X0.here hx rfl (hb hby at_3) rfl (l' := #[.val (.int p0), .val (.int p1), .val (.int p2), .val (.int p3), .val (.int v3), .unset, .unset, .unset, .unset, .unset, .unset, .unset, .unset, .unset, .unset, .unset, .unset]) (by subst hv3; rfl) ?_
    show Steps p.tables e below (s₁.setTop (mkF m 5 #[.val (.int p0), .val (.int p1), .val (.int p2), .val (.int p3), .val (.int v3), .unset, .unset, .unset, .unset, .unset, .unset, .unset, .unset, .unset, .unset, .unset, .unset] [])) target
    refine XS.iloadN X0.here hx rfl (hb hby at_5) rfl ?_
    show Steps p.tables e below (s₁.setTop (mkF m 6 #[.val (.int p0), .val (.int p1), .val (.int p2), .val (.int p3), .val (.int v3), .unset, .unset, .unset, .unset, .unset, .unset, .unset, .unset, .unset, .unset, .unset, .unset] [(.int p0)])) target
    refine X0.ldcInt hx hown (mvT hZ (hw _ (List.mem_of_getElem? (i := 0) rfl))) (g := (mkF m 6 #[.val (.int p0), .val (.int p1), .val (.int p2), .val (.int p3), .val (.int v3), .unset, .unset, .unset, .unset, .unset, .unset, .unset, .unset, .unset, .unset, .unset, .unset] [(.int p0)])) rfl (hb hby at_6) _ ?_
    show Steps p.tables e below (s₁.setTop (mkF m 8 #[.val (.int p0), .val (.int p1), .val (.int p2), .val (.int p3), .val (.int v3), .unset, .unset, .unset, .unset, .unset, .unset, .unset, .unset, .unset, .unset, .unset, .unset] [(.int (2147483647 : Int32)), (.int p0)])) target
    refine XS.iand X0.here hx rfl (hb hby at_8) rfl ?_
    show Steps p.tables e below (s₁.setTop (mkF m 9 #[.val (.int p0), .val (.int p1), .val (.int p2), .val (.int p3), .val (.int v3), .unset, .unset, .unset, .unset, .unset, .unset, .unset, .unset, .unset, .unset, .unset, .unset] [(.int (p0 &&& (2147483647 : Int32)))])) target
    refine XS.istore X0.here hx rfl (hb hby at_9) rfl (l' := #[.val (.int p0), .val (.int p1), .val (.int p2), .val (.int p3), .val (.int v3), .val (.int v9), .unset, .unset, .unset, .unset, .unset, .unset, .unset, .unset, .unset, .unset, .unset]) (by subst hv9; rfl) ?_
    show Steps p.tables e below (s₁.setTop (mkF m 11 #[.val (.int p0), .val (.int p1), .val (.int p2), .val (.int p3), .val (.int v3), .val (.int v9), .unset, .unset, .unset, .unset, .unset, .unset, .unset, .unset, .unset, .unset, .unset] [])) target
    refine XS.iload X0.here hx rfl (hb hby at_11) rfl ?_
    exact kt
  by_cases c13 : v3 = (0 : Int32)
  · obtain ⟨v21, hv21⟩ : ∃ z : Int32, z = (v9 &&& (127 : Int32)) := ⟨_, rfl⟩
    refine own_st (B := s₁.setTop (mkF m 77 #[.val (.int p0), .val (.int p1), .val (.int p2), .val (.int p3), .val (.int v3), .val (.int v9), .val (.int v21), .unset, .unset, .unset, .unset, .unset, .unset, .unset, .unset, .unset, .unset] [])) (fun target kt => ?_) ?_
    · show Steps p.tables e below (s₁.setTop (mkF m 13 #[.val (.int p0), .val (.int p1), .val (.int p2), .val (.int p3), .val (.int v3), .val (.int v9), .unset, .unset, .unset, .unset, .unset, .unset, .unset, .unset, .unset, .unset, .unset] [(.int v3)])) target
      refine XS.ifNo X0.here hx rfl (hb hby at_13) rfl ((if0 _ _).trans (teq c13).2) ?_
      show Steps p.tables e below (s₁.setTop (mkF m 16 #[.val (.int p0), .val (.int p1), .val (.int p2), .val (.int p3), .val (.int v3), .val (.int v9), .unset, .unset, .unset, .unset, .unset, .unset, .unset, .unset, .unset, .unset, .unset] [])) target
      refine XS.iload X0.here hx rfl (hb hby at_16) rfl ?_
      show Steps p.tables e below (s₁.setTop (mkF m 18 #[.val (.int p0), .val (.int p1), .val (.int p2), .val (.int p3), .val (.int v3), .val (.int v9), .unset, .unset, .unset, .unset, .unset, .unset, .unset, .unset, .unset, .unset, .unset] [(.int v9)])) target
      refine XS.bipush X0.here hx rfl (hb hby at_18) ?_
      show Steps p.tables e below (s₁.setTop (mkF m 20 #[.val (.int p0), .val (.int p1), .val (.int p2), .val (.int p3), .val (.int v3), .val (.int v9), .unset, .unset, .unset, .unset, .unset, .unset, .unset, .unset, .unset, .unset, .unset] [(.int (127 : Int32)), (.int v9)])) target
      refine XS.iand X0.here hx rfl (hb hby at_20) rfl ?_
      show Steps p.tables e below (s₁.setTop (mkF m 21 #[.val (.int p0), .val (.int p1), .val (.int p2), .val (.int p3), .val (.int v3), .val (.int v9), .unset, .unset, .unset, .unset, .unset, .unset, .unset, .unset, .unset, .unset, .unset] [(.int (v9 &&& (127 : Int32)))])) target
      refine XS.istore X0.here hx rfl (hb hby at_21) rfl (l' := #[.val (.int p0), .val (.int p1), .val (.int p2), .val (.int p3), .val (.int v3), .val (.int v9), .val (.int v21), .unset, .unset, .unset, .unset, .unset, .unset, .unset, .unset, .unset, .unset]) (by subst hv21; rfl) ?_
      show Steps p.tables e below (s₁.setTop (mkF m 23 #[.val (.int p0), .val (.int p1), .val (.int p2), .val (.int p3), .val (.int v3), .val (.int v9), .val (.int v21), .unset, .unset, .unset, .unset, .unset, .unset, .unset, .unset, .unset, .unset] [])) target
      refine XS.goto X0.here hx rfl (pc0 := 23) (pc' := 77) rfl (hb hby at_23) (by decide) (by decide) ?_
      exact kt
    have hC : 0 ≤ v21.toInt ∧ v21.toInt < 128 := by
      exact own_c1 _ _ hv21
    have hR1 : (v21 < (128 : Int32)) := by rw [Int32.lt_iff_toInt_lt, show (128 : Int32).toInt = 128 by decide]; omega
    have hR2 : (v21 < (2048 : Int32)) := by rw [Int32.lt_iff_toInt_lt, show (2048 : Int32).toInt = 2048 by decide]; omega
    have hR3 : (v21 < (65536 : Int32)) := by rw [Int32.lt_iff_toInt_lt, show (65536 : Int32).toInt = 65536 by decide]; omega
    obtain ⟨v80, hv80⟩ : ∃ z : Int32, z = (p2 &&& (3 : Int32)) := ⟨_, rfl⟩
    obtain ⟨v84, hv84⟩ : ∃ z : Int32, z = (p3.toInt8.toInt32) := ⟨_, rfl⟩
    refine own_st (B := s₁.setTop (mkF m 88 #[.val (.int p0), .val (.int p1), .val (.int p2), .val (.int p3), .val (.int v3), .val (.int v9), .val (.int v21), .val (.int v80), .val (.int v84), .unset, .unset, .unset, .unset, .unset, .unset, .unset, .unset] [(.int (8 : Int32))])) (fun target kt => ?_) ?_
    · show Steps p.tables e below (s₁.setTop (mkF m 77 #[.val (.int p0), .val (.int p1), .val (.int p2), .val (.int p3), .val (.int v3), .val (.int v9), .val (.int v21), .unset, .unset, .unset, .unset, .unset, .unset, .unset, .unset, .unset, .unset] [])) target
      refine XS.iloadN X0.here hx rfl (hb hby at_77) rfl ?_
      show Steps p.tables e below (s₁.setTop (mkF m 78 #[.val (.int p0), .val (.int p1), .val (.int p2), .val (.int p3), .val (.int v3), .val (.int v9), .val (.int v21), .unset, .unset, .unset, .unset, .unset, .unset, .unset, .unset, .unset, .unset] [(.int p2)])) target
      refine XS.iconst X0.here hx rfl (hb hby at_78) ?_
      show Steps p.tables e below (s₁.setTop (mkF m 79 #[.val (.int p0), .val (.int p1), .val (.int p2), .val (.int p3), .val (.int v3), .val (.int v9), .val (.int v21), .unset, .unset, .unset, .unset, .unset, .unset, .unset, .unset, .unset, .unset] [(.int (3 : Int32)), (.int p2)])) target
      refine XS.iand X0.here hx rfl (hb hby at_79) rfl ?_
      show Steps p.tables e below (s₁.setTop (mkF m 80 #[.val (.int p0), .val (.int p1), .val (.int p2), .val (.int p3), .val (.int v3), .val (.int v9), .val (.int v21), .unset, .unset, .unset, .unset, .unset, .unset, .unset, .unset, .unset, .unset] [(.int (p2 &&& (3 : Int32)))])) target
      refine XS.istore X0.here hx rfl (hb hby at_80) rfl (l' := #[.val (.int p0), .val (.int p1), .val (.int p2), .val (.int p3), .val (.int v3), .val (.int v9), .val (.int v21), .val (.int v80), .unset, .unset, .unset, .unset, .unset, .unset, .unset, .unset, .unset]) (by subst hv80; rfl) ?_
      show Steps p.tables e below (s₁.setTop (mkF m 82 #[.val (.int p0), .val (.int p1), .val (.int p2), .val (.int p3), .val (.int v3), .val (.int v9), .val (.int v21), .val (.int v80), .unset, .unset, .unset, .unset, .unset, .unset, .unset, .unset, .unset] [])) target
      refine XS.iloadN X0.here hx rfl (hb hby at_82) rfl ?_
      show Steps p.tables e below (s₁.setTop (mkF m 83 #[.val (.int p0), .val (.int p1), .val (.int p2), .val (.int p3), .val (.int v3), .val (.int v9), .val (.int v21), .val (.int v80), .unset, .unset, .unset, .unset, .unset, .unset, .unset, .unset, .unset] [(.int p3)])) target
      refine XS.i2b X0.here hx rfl (hb hby at_83) rfl ?_
      show Steps p.tables e below (s₁.setTop (mkF m 84 #[.val (.int p0), .val (.int p1), .val (.int p2), .val (.int p3), .val (.int v3), .val (.int v9), .val (.int v21), .val (.int v80), .unset, .unset, .unset, .unset, .unset, .unset, .unset, .unset, .unset] [(.int (p3.toInt8.toInt32))])) target
      refine XS.istore X0.here hx rfl (hb hby at_84) rfl (l' := #[.val (.int p0), .val (.int p1), .val (.int p2), .val (.int p3), .val (.int v3), .val (.int v9), .val (.int v21), .val (.int v80), .val (.int v84), .unset, .unset, .unset, .unset, .unset, .unset, .unset, .unset]) (by subst hv84; rfl) ?_
      show Steps p.tables e below (s₁.setTop (mkF m 86 #[.val (.int p0), .val (.int p1), .val (.int p2), .val (.int p3), .val (.int v3), .val (.int v9), .val (.int v21), .val (.int v80), .val (.int v84), .unset, .unset, .unset, .unset, .unset, .unset, .unset, .unset] [])) target
      refine XS.bipush X0.here hx rfl (hb hby at_86) ?_
      exact kt
    obtain ⟨Tg88, hg88, kg88, Xg88, eg88, Eg88, Ag88, stg88⟩ := newP X0 hx hZ (hw _ (List.mem_of_getElem? (i := 3) rfl)) e0 (g := (mkF m 88 #[.val (.int p0), .val (.int p1), .val (.int p2), .val (.int p3), .val (.int v3), .val (.int v9), .val (.int v21), .val (.int v80), .val (.int v84), .unset, .unset, .unset, .unset, .unset, .unset, .unset, .unset] [(.int (8 : Int32))])) rfl (hb hby at_88) rfl (by decide) (cap := 8) (by decide) (by decide) (by decide) (by decide)
    obtain ⟨b88, gg88⟩ : ∃ z, z = h0.size := ⟨_, rfl⟩
    rw [← gg88] at Ag88 stg88
    refine own_st stg88 ?_
    have g_b88 : n0 ≤ b88 := Nat.le_trans Z0 (Nat.le_of_eq gg88.symm)
    have Zz : n0 ≤ hg88.size := Nat.le_trans Z0 Eg88.1
    have F : own_RayB Z hg88 b88 8 (fun _ => (0 : Int32)) := own_RayB_new Ag88 (by decide) (by decide)
    refine own_st (B := Tg88.setTop (mkF m 94 #[.val (.int p0), .val (.int p1), .val (.int p2), .val (.int p3), .val (.int v3), .val (.int v9), .val (.int v21), .val (.int v80), .val (.int v84), .unset, .unset, .unset, .unset, .unset, .unset, .unset, .unset] [(.int v84), (.int (0 : Int32)), (.ref b88), (.ref b88)])) (fun target kt => ?_) ?_
    · show Steps p.tables e below (Tg88.setTop (mkF m 90 #[.val (.int p0), .val (.int p1), .val (.int p2), .val (.int p3), .val (.int v3), .val (.int v9), .val (.int v21), .val (.int v80), .val (.int v84), .unset, .unset, .unset, .unset, .unset, .unset, .unset, .unset] [(.ref b88)])) target
      refine XS.dup Xg88.here hx rfl (hb hby at_90) rfl rfl ?_
      show Steps p.tables e below (Tg88.setTop (mkF m 91 #[.val (.int p0), .val (.int p1), .val (.int p2), .val (.int p3), .val (.int v3), .val (.int v9), .val (.int v21), .val (.int v80), .val (.int v84), .unset, .unset, .unset, .unset, .unset, .unset, .unset, .unset] [(.ref b88), (.ref b88)])) target
      refine XS.iconst Xg88.here hx rfl (hb hby at_91) ?_
      show Steps p.tables e below (Tg88.setTop (mkF m 92 #[.val (.int p0), .val (.int p1), .val (.int p2), .val (.int p3), .val (.int v3), .val (.int v9), .val (.int v21), .val (.int v80), .val (.int v84), .unset, .unset, .unset, .unset, .unset, .unset, .unset, .unset] [(.int (0 : Int32)), (.ref b88), (.ref b88)])) target
      refine XS.iload Xg88.here hx rfl (hb hby at_92) rfl ?_
      exact kt
    obtain ⟨clg94, Arg94, Szg94, -⟩ := id F
    have hing94 : ¬ ((0 : Int32) < 0 ∨ clg94.slots.size ≤ ((0 : Int32)).toNatClampNeg) := own_inb Szg94 (by decide)
    obtain ⟨Tg94, hg94, Xg94, eg94, Wg94, stg94⟩ := stB Xg88 hx hZ eg88 Arg94 (j := (0 : Int32)) hing94 (g := (mkF m 94 #[.val (.int p0), .val (.int p1), .val (.int p2), .val (.int p3), .val (.int v3), .val (.int v9), .val (.int v21), .val (.int v80), .val (.int v84), .unset, .unset, .unset, .unset, .unset, .unset, .unset, .unset] [(.int v84), (.int (0 : Int32)), (.ref b88), (.ref b88)])) rfl rfl (hb hby at_94)
    refine own_st stg94 ?_
    have Ng94 := Fr.snoc Xg94 N0 g_b88
    obtain ⟨a94, ha94⟩ : ∃ gz : Nat → Int32, gz = fun i => if i = 0 then (nar .byte v84) else (fun _ => (0 : Int32)) i := ⟨_, rfl⟩
    have Zz_1 : n0 ≤ hg94.size := Nat.le_trans Zz (Keep.of_wr Wg94).1
    have F_2 : own_RayB Z hg94 b88 8 a94 := by rw [ha94]; exact own_RayB_set F Wg94 (by decide) (fits_nar_byte _)
    refine own_st (B := Tg94.setTop (mkF m 99 #[.val (.int p0), .val (.int p1), .val (.int p2), .val (.int p3), .val (.int v3), .val (.int v9), .val (.int v21), .val (.int v80), .val (.int v84), .unset, .unset, .unset, .unset, .unset, .unset, .unset, .unset] [(.int v84), (.int (1 : Int32)), (.ref b88), (.ref b88)])) (fun target kt => ?_) ?_
    · show Steps p.tables e below (Tg94.setTop (mkF m 95 #[.val (.int p0), .val (.int p1), .val (.int p2), .val (.int p3), .val (.int v3), .val (.int v9), .val (.int v21), .val (.int v80), .val (.int v84), .unset, .unset, .unset, .unset, .unset, .unset, .unset, .unset] [(.ref b88)])) target
      refine XS.dup Xg94.here hx rfl (hb hby at_95) rfl rfl ?_
      show Steps p.tables e below (Tg94.setTop (mkF m 96 #[.val (.int p0), .val (.int p1), .val (.int p2), .val (.int p3), .val (.int v3), .val (.int v9), .val (.int v21), .val (.int v80), .val (.int v84), .unset, .unset, .unset, .unset, .unset, .unset, .unset, .unset] [(.ref b88), (.ref b88)])) target
      refine XS.iconst Xg94.here hx rfl (hb hby at_96) ?_
      show Steps p.tables e below (Tg94.setTop (mkF m 97 #[.val (.int p0), .val (.int p1), .val (.int p2), .val (.int p3), .val (.int v3), .val (.int v9), .val (.int v21), .val (.int v80), .val (.int v84), .unset, .unset, .unset, .unset, .unset, .unset, .unset, .unset] [(.int (1 : Int32)), (.ref b88), (.ref b88)])) target
      refine XS.iload Xg94.here hx rfl (hb hby at_97) rfl ?_
      exact kt
    obtain ⟨clg99, Arg99, Szg99, -⟩ := id F_2
    have hing99 : ¬ ((1 : Int32) < 0 ∨ clg99.slots.size ≤ ((1 : Int32)).toNatClampNeg) := own_inb Szg99 (by decide)
    obtain ⟨Tg99, hg99, Xg99, eg99, Wg99, stg99⟩ := stB Xg94 hx hZ eg94 Arg99 (j := (1 : Int32)) hing99 (g := (mkF m 99 #[.val (.int p0), .val (.int p1), .val (.int p2), .val (.int p3), .val (.int v3), .val (.int v9), .val (.int v21), .val (.int v80), .val (.int v84), .unset, .unset, .unset, .unset, .unset, .unset, .unset, .unset] [(.int v84), (.int (1 : Int32)), (.ref b88), (.ref b88)])) rfl rfl (hb hby at_99)
    refine own_st stg99 ?_
    have Ng99 := Fr.snoc Xg99 Ng94 g_b88
    obtain ⟨a99, ha99⟩ : ∃ gz : Nat → Int32, gz = fun i => if i = 1 then (nar .byte v84) else a94 i := ⟨_, rfl⟩
    have Zz_2 : n0 ≤ hg99.size := Nat.le_trans Zz_1 (Keep.of_wr Wg99).1
    have F_4 : own_RayB Z hg99 b88 8 a99 := by rw [ha99]; exact own_RayB_set F_2 Wg99 (by decide) (fits_nar_byte _)
    refine own_st (B := Tg99.setTop (mkF m 104 #[.val (.int p0), .val (.int p1), .val (.int p2), .val (.int p3), .val (.int v3), .val (.int v9), .val (.int v21), .val (.int v80), .val (.int v84), .unset, .unset, .unset, .unset, .unset, .unset, .unset, .unset] [(.int v84), (.int (2 : Int32)), (.ref b88), (.ref b88)])) (fun target kt => ?_) ?_
    · show Steps p.tables e below (Tg99.setTop (mkF m 100 #[.val (.int p0), .val (.int p1), .val (.int p2), .val (.int p3), .val (.int v3), .val (.int v9), .val (.int v21), .val (.int v80), .val (.int v84), .unset, .unset, .unset, .unset, .unset, .unset, .unset, .unset] [(.ref b88)])) target
      refine XS.dup Xg99.here hx rfl (hb hby at_100) rfl rfl ?_
      show Steps p.tables e below (Tg99.setTop (mkF m 101 #[.val (.int p0), .val (.int p1), .val (.int p2), .val (.int p3), .val (.int v3), .val (.int v9), .val (.int v21), .val (.int v80), .val (.int v84), .unset, .unset, .unset, .unset, .unset, .unset, .unset, .unset] [(.ref b88), (.ref b88)])) target
      refine XS.iconst Xg99.here hx rfl (hb hby at_101) ?_
      show Steps p.tables e below (Tg99.setTop (mkF m 102 #[.val (.int p0), .val (.int p1), .val (.int p2), .val (.int p3), .val (.int v3), .val (.int v9), .val (.int v21), .val (.int v80), .val (.int v84), .unset, .unset, .unset, .unset, .unset, .unset, .unset, .unset] [(.int (2 : Int32)), (.ref b88), (.ref b88)])) target
      refine XS.iload Xg99.here hx rfl (hb hby at_102) rfl ?_
      exact kt
    obtain ⟨clg104, Arg104, Szg104, -⟩ := id F_4
    have hing104 : ¬ ((2 : Int32) < 0 ∨ clg104.slots.size ≤ ((2 : Int32)).toNatClampNeg) := own_inb Szg104 (by decide)
    obtain ⟨Tg104, hg104, Xg104, eg104, Wg104, stg104⟩ := stB Xg99 hx hZ eg99 Arg104 (j := (2 : Int32)) hing104 (g := (mkF m 104 #[.val (.int p0), .val (.int p1), .val (.int p2), .val (.int p3), .val (.int v3), .val (.int v9), .val (.int v21), .val (.int v80), .val (.int v84), .unset, .unset, .unset, .unset, .unset, .unset, .unset, .unset] [(.int v84), (.int (2 : Int32)), (.ref b88), (.ref b88)])) rfl rfl (hb hby at_104)
    refine own_st stg104 ?_
    have Ng104 := Fr.snoc Xg104 Ng99 g_b88
    obtain ⟨a104, ha104⟩ : ∃ gz : Nat → Int32, gz = fun i => if i = 2 then (nar .byte v84) else a99 i := ⟨_, rfl⟩
    have Zz_3 : n0 ≤ hg104.size := Nat.le_trans Zz_2 (Keep.of_wr Wg104).1
    have F_6 : own_RayB Z hg104 b88 8 a104 := by rw [ha104]; exact own_RayB_set F_4 Wg104 (by decide) (fits_nar_byte _)
    refine own_st (B := Tg104.setTop (mkF m 109 #[.val (.int p0), .val (.int p1), .val (.int p2), .val (.int p3), .val (.int v3), .val (.int v9), .val (.int v21), .val (.int v80), .val (.int v84), .unset, .unset, .unset, .unset, .unset, .unset, .unset, .unset] [(.int v84), (.int (3 : Int32)), (.ref b88), (.ref b88)])) (fun target kt => ?_) ?_
    · show Steps p.tables e below (Tg104.setTop (mkF m 105 #[.val (.int p0), .val (.int p1), .val (.int p2), .val (.int p3), .val (.int v3), .val (.int v9), .val (.int v21), .val (.int v80), .val (.int v84), .unset, .unset, .unset, .unset, .unset, .unset, .unset, .unset] [(.ref b88)])) target
      refine XS.dup Xg104.here hx rfl (hb hby at_105) rfl rfl ?_
      show Steps p.tables e below (Tg104.setTop (mkF m 106 #[.val (.int p0), .val (.int p1), .val (.int p2), .val (.int p3), .val (.int v3), .val (.int v9), .val (.int v21), .val (.int v80), .val (.int v84), .unset, .unset, .unset, .unset, .unset, .unset, .unset, .unset] [(.ref b88), (.ref b88)])) target
      refine XS.iconst Xg104.here hx rfl (hb hby at_106) ?_
      show Steps p.tables e below (Tg104.setTop (mkF m 107 #[.val (.int p0), .val (.int p1), .val (.int p2), .val (.int p3), .val (.int v3), .val (.int v9), .val (.int v21), .val (.int v80), .val (.int v84), .unset, .unset, .unset, .unset, .unset, .unset, .unset, .unset] [(.int (3 : Int32)), (.ref b88), (.ref b88)])) target
      refine XS.iload Xg104.here hx rfl (hb hby at_107) rfl ?_
      exact kt
    obtain ⟨clg109, Arg109, Szg109, -⟩ := id F_6
    have hing109 : ¬ ((3 : Int32) < 0 ∨ clg109.slots.size ≤ ((3 : Int32)).toNatClampNeg) := own_inb Szg109 (by decide)
    obtain ⟨Tg109, hg109, Xg109, eg109, Wg109, stg109⟩ := stB Xg104 hx hZ eg104 Arg109 (j := (3 : Int32)) hing109 (g := (mkF m 109 #[.val (.int p0), .val (.int p1), .val (.int p2), .val (.int p3), .val (.int v3), .val (.int v9), .val (.int v21), .val (.int v80), .val (.int v84), .unset, .unset, .unset, .unset, .unset, .unset, .unset, .unset] [(.int v84), (.int (3 : Int32)), (.ref b88), (.ref b88)])) rfl rfl (hb hby at_109)
    refine own_st stg109 ?_
    have Ng109 := Fr.snoc Xg109 Ng104 g_b88
    obtain ⟨a109, ha109⟩ : ∃ gz : Nat → Int32, gz = fun i => if i = 3 then (nar .byte v84) else a104 i := ⟨_, rfl⟩
    have Zz_4 : n0 ≤ hg109.size := Nat.le_trans Zz_3 (Keep.of_wr Wg109).1
    have F_8 : own_RayB Z hg109 b88 8 a109 := by rw [ha109]; exact own_RayB_set F_6 Wg109 (by decide) (fits_nar_byte _)
    refine own_st (B := Tg109.setTop (mkF m 114 #[.val (.int p0), .val (.int p1), .val (.int p2), .val (.int p3), .val (.int v3), .val (.int v9), .val (.int v21), .val (.int v80), .val (.int v84), .unset, .unset, .unset, .unset, .unset, .unset, .unset, .unset] [(.int v84), (.int (4 : Int32)), (.ref b88), (.ref b88)])) (fun target kt => ?_) ?_
    · show Steps p.tables e below (Tg109.setTop (mkF m 110 #[.val (.int p0), .val (.int p1), .val (.int p2), .val (.int p3), .val (.int v3), .val (.int v9), .val (.int v21), .val (.int v80), .val (.int v84), .unset, .unset, .unset, .unset, .unset, .unset, .unset, .unset] [(.ref b88)])) target
      refine XS.dup Xg109.here hx rfl (hb hby at_110) rfl rfl ?_
      show Steps p.tables e below (Tg109.setTop (mkF m 111 #[.val (.int p0), .val (.int p1), .val (.int p2), .val (.int p3), .val (.int v3), .val (.int v9), .val (.int v21), .val (.int v80), .val (.int v84), .unset, .unset, .unset, .unset, .unset, .unset, .unset, .unset] [(.ref b88), (.ref b88)])) target
      refine XS.iconst Xg109.here hx rfl (hb hby at_111) ?_
      show Steps p.tables e below (Tg109.setTop (mkF m 112 #[.val (.int p0), .val (.int p1), .val (.int p2), .val (.int p3), .val (.int v3), .val (.int v9), .val (.int v21), .val (.int v80), .val (.int v84), .unset, .unset, .unset, .unset, .unset, .unset, .unset, .unset] [(.int (4 : Int32)), (.ref b88), (.ref b88)])) target
      refine XS.iload Xg109.here hx rfl (hb hby at_112) rfl ?_
      exact kt
    obtain ⟨clg114, Arg114, Szg114, -⟩ := id F_8
    have hing114 : ¬ ((4 : Int32) < 0 ∨ clg114.slots.size ≤ ((4 : Int32)).toNatClampNeg) := own_inb Szg114 (by decide)
    obtain ⟨Tg114, hg114, Xg114, eg114, Wg114, stg114⟩ := stB Xg109 hx hZ eg109 Arg114 (j := (4 : Int32)) hing114 (g := (mkF m 114 #[.val (.int p0), .val (.int p1), .val (.int p2), .val (.int p3), .val (.int v3), .val (.int v9), .val (.int v21), .val (.int v80), .val (.int v84), .unset, .unset, .unset, .unset, .unset, .unset, .unset, .unset] [(.int v84), (.int (4 : Int32)), (.ref b88), (.ref b88)])) rfl rfl (hb hby at_114)
    refine own_st stg114 ?_
    have Ng114 := Fr.snoc Xg114 Ng109 g_b88
    obtain ⟨a114, ha114⟩ : ∃ gz : Nat → Int32, gz = fun i => if i = 4 then (nar .byte v84) else a109 i := ⟨_, rfl⟩
    have Zz_5 : n0 ≤ hg114.size := Nat.le_trans Zz_4 (Keep.of_wr Wg114).1
    have F_10 : own_RayB Z hg114 b88 8 a114 := by rw [ha114]; exact own_RayB_set F_8 Wg114 (by decide) (fits_nar_byte _)
    refine own_st (B := Tg114.setTop (mkF m 119 #[.val (.int p0), .val (.int p1), .val (.int p2), .val (.int p3), .val (.int v3), .val (.int v9), .val (.int v21), .val (.int v80), .val (.int v84), .unset, .unset, .unset, .unset, .unset, .unset, .unset, .unset] [(.int v84), (.int (5 : Int32)), (.ref b88), (.ref b88)])) (fun target kt => ?_) ?_
    · show Steps p.tables e below (Tg114.setTop (mkF m 115 #[.val (.int p0), .val (.int p1), .val (.int p2), .val (.int p3), .val (.int v3), .val (.int v9), .val (.int v21), .val (.int v80), .val (.int v84), .unset, .unset, .unset, .unset, .unset, .unset, .unset, .unset] [(.ref b88)])) target
      refine XS.dup Xg114.here hx rfl (hb hby at_115) rfl rfl ?_
      show Steps p.tables e below (Tg114.setTop (mkF m 116 #[.val (.int p0), .val (.int p1), .val (.int p2), .val (.int p3), .val (.int v3), .val (.int v9), .val (.int v21), .val (.int v80), .val (.int v84), .unset, .unset, .unset, .unset, .unset, .unset, .unset, .unset] [(.ref b88), (.ref b88)])) target
      refine XS.iconst Xg114.here hx rfl (hb hby at_116) ?_
      show Steps p.tables e below (Tg114.setTop (mkF m 117 #[.val (.int p0), .val (.int p1), .val (.int p2), .val (.int p3), .val (.int v3), .val (.int v9), .val (.int v21), .val (.int v80), .val (.int v84), .unset, .unset, .unset, .unset, .unset, .unset, .unset, .unset] [(.int (5 : Int32)), (.ref b88), (.ref b88)])) target
      refine XS.iload Xg114.here hx rfl (hb hby at_117) rfl ?_
      exact kt
    obtain ⟨clg119, Arg119, Szg119, -⟩ := id F_10
    have hing119 : ¬ ((5 : Int32) < 0 ∨ clg119.slots.size ≤ ((5 : Int32)).toNatClampNeg) := own_inb Szg119 (by decide)
    obtain ⟨Tg119, hg119, Xg119, eg119, Wg119, stg119⟩ := stB Xg114 hx hZ eg114 Arg119 (j := (5 : Int32)) hing119 (g := (mkF m 119 #[.val (.int p0), .val (.int p1), .val (.int p2), .val (.int p3), .val (.int v3), .val (.int v9), .val (.int v21), .val (.int v80), .val (.int v84), .unset, .unset, .unset, .unset, .unset, .unset, .unset, .unset] [(.int v84), (.int (5 : Int32)), (.ref b88), (.ref b88)])) rfl rfl (hb hby at_119)
    refine own_st stg119 ?_
    have Ng119 := Fr.snoc Xg119 Ng114 g_b88
    obtain ⟨a119, ha119⟩ : ∃ gz : Nat → Int32, gz = fun i => if i = 5 then (nar .byte v84) else a114 i := ⟨_, rfl⟩
    have Zz_6 : n0 ≤ hg119.size := Nat.le_trans Zz_5 (Keep.of_wr Wg119).1
    have F_12 : own_RayB Z hg119 b88 8 a119 := by rw [ha119]; exact own_RayB_set F_10 Wg119 (by decide) (fits_nar_byte _)
    refine own_st (B := Tg119.setTop (mkF m 125 #[.val (.int p0), .val (.int p1), .val (.int p2), .val (.int p3), .val (.int v3), .val (.int v9), .val (.int v21), .val (.int v80), .val (.int v84), .unset, .unset, .unset, .unset, .unset, .unset, .unset, .unset] [(.int v84), (.int (6 : Int32)), (.ref b88), (.ref b88)])) (fun target kt => ?_) ?_
    · show Steps p.tables e below (Tg119.setTop (mkF m 120 #[.val (.int p0), .val (.int p1), .val (.int p2), .val (.int p3), .val (.int v3), .val (.int v9), .val (.int v21), .val (.int v80), .val (.int v84), .unset, .unset, .unset, .unset, .unset, .unset, .unset, .unset] [(.ref b88)])) target
      refine XS.dup Xg119.here hx rfl (hb hby at_120) rfl rfl ?_
      show Steps p.tables e below (Tg119.setTop (mkF m 121 #[.val (.int p0), .val (.int p1), .val (.int p2), .val (.int p3), .val (.int v3), .val (.int v9), .val (.int v21), .val (.int v80), .val (.int v84), .unset, .unset, .unset, .unset, .unset, .unset, .unset, .unset] [(.ref b88), (.ref b88)])) target
      refine XS.bipush Xg119.here hx rfl (hb hby at_121) ?_
      show Steps p.tables e below (Tg119.setTop (mkF m 123 #[.val (.int p0), .val (.int p1), .val (.int p2), .val (.int p3), .val (.int v3), .val (.int v9), .val (.int v21), .val (.int v80), .val (.int v84), .unset, .unset, .unset, .unset, .unset, .unset, .unset, .unset] [(.int (6 : Int32)), (.ref b88), (.ref b88)])) target
      refine XS.iload Xg119.here hx rfl (hb hby at_123) rfl ?_
      exact kt
    obtain ⟨clg125, Arg125, Szg125, -⟩ := id F_12
    have hing125 : ¬ ((6 : Int32) < 0 ∨ clg125.slots.size ≤ ((6 : Int32)).toNatClampNeg) := own_inb Szg125 (by decide)
    obtain ⟨Tg125, hg125, Xg125, eg125, Wg125, stg125⟩ := stB Xg119 hx hZ eg119 Arg125 (j := (6 : Int32)) hing125 (g := (mkF m 125 #[.val (.int p0), .val (.int p1), .val (.int p2), .val (.int p3), .val (.int v3), .val (.int v9), .val (.int v21), .val (.int v80), .val (.int v84), .unset, .unset, .unset, .unset, .unset, .unset, .unset, .unset] [(.int v84), (.int (6 : Int32)), (.ref b88), (.ref b88)])) rfl rfl (hb hby at_125)
    refine own_st stg125 ?_
    have Ng125 := Fr.snoc Xg125 Ng119 g_b88
    obtain ⟨a125, ha125⟩ : ∃ gz : Nat → Int32, gz = fun i => if i = 6 then (nar .byte v84) else a119 i := ⟨_, rfl⟩
    have Zz_7 : n0 ≤ hg125.size := Nat.le_trans Zz_6 (Keep.of_wr Wg125).1
    have F_14 : own_RayB Z hg125 b88 8 a125 := by rw [ha125]; exact own_RayB_set F_12 Wg125 (by decide) (fits_nar_byte _)
    refine own_st (B := Tg125.setTop (mkF m 131 #[.val (.int p0), .val (.int p1), .val (.int p2), .val (.int p3), .val (.int v3), .val (.int v9), .val (.int v21), .val (.int v80), .val (.int v84), .unset, .unset, .unset, .unset, .unset, .unset, .unset, .unset] [(.int v84), (.int (7 : Int32)), (.ref b88), (.ref b88)])) (fun target kt => ?_) ?_
    · show Steps p.tables e below (Tg125.setTop (mkF m 126 #[.val (.int p0), .val (.int p1), .val (.int p2), .val (.int p3), .val (.int v3), .val (.int v9), .val (.int v21), .val (.int v80), .val (.int v84), .unset, .unset, .unset, .unset, .unset, .unset, .unset, .unset] [(.ref b88)])) target
      refine XS.dup Xg125.here hx rfl (hb hby at_126) rfl rfl ?_
      show Steps p.tables e below (Tg125.setTop (mkF m 127 #[.val (.int p0), .val (.int p1), .val (.int p2), .val (.int p3), .val (.int v3), .val (.int v9), .val (.int v21), .val (.int v80), .val (.int v84), .unset, .unset, .unset, .unset, .unset, .unset, .unset, .unset] [(.ref b88), (.ref b88)])) target
      refine XS.bipush Xg125.here hx rfl (hb hby at_127) ?_
      show Steps p.tables e below (Tg125.setTop (mkF m 129 #[.val (.int p0), .val (.int p1), .val (.int p2), .val (.int p3), .val (.int v3), .val (.int v9), .val (.int v21), .val (.int v80), .val (.int v84), .unset, .unset, .unset, .unset, .unset, .unset, .unset, .unset] [(.int (7 : Int32)), (.ref b88), (.ref b88)])) target
      refine XS.iload Xg125.here hx rfl (hb hby at_129) rfl ?_
      exact kt
    obtain ⟨clg131, Arg131, Szg131, -⟩ := id F_14
    have hing131 : ¬ ((7 : Int32) < 0 ∨ clg131.slots.size ≤ ((7 : Int32)).toNatClampNeg) := own_inb Szg131 (by decide)
    obtain ⟨Tg131, hg131, Xg131, eg131, Wg131, stg131⟩ := stB Xg125 hx hZ eg125 Arg131 (j := (7 : Int32)) hing131 (g := (mkF m 131 #[.val (.int p0), .val (.int p1), .val (.int p2), .val (.int p3), .val (.int v3), .val (.int v9), .val (.int v21), .val (.int v80), .val (.int v84), .unset, .unset, .unset, .unset, .unset, .unset, .unset, .unset] [(.int v84), (.int (7 : Int32)), (.ref b88), (.ref b88)])) rfl rfl (hb hby at_131)
    refine own_st stg131 ?_
    have Ng131 := Fr.snoc Xg131 Ng125 g_b88
    obtain ⟨a131, ha131⟩ : ∃ gz : Nat → Int32, gz = fun i => if i = 7 then (nar .byte v84) else a125 i := ⟨_, rfl⟩
    have Zz_8 : n0 ≤ hg131.size := Nat.le_trans Zz_7 (Keep.of_wr Wg131).1
    have F_16 : own_RayB Z hg131 b88 8 a131 := by rw [ha131]; exact own_RayB_set F_14 Wg131 (by decide) (fits_nar_byte _)
    refine own_st (B := Tg131.setTop (mkF m 140 #[.val (.int p0), .val (.int p1), .val (.int p2), .val (.int p3), .val (.int v3), .val (.int v9), .val (.int v21), .val (.int v80), .val (.int v84), .val (.ref b88), .unset, .unset, .unset, .unset, .unset, .unset, .unset] [(.int v80), (.ref b88), (.int v21)])) (fun target kt => ?_) ?_
    · show Steps p.tables e below (Tg131.setTop (mkF m 132 #[.val (.int p0), .val (.int p1), .val (.int p2), .val (.int p3), .val (.int v3), .val (.int v9), .val (.int v21), .val (.int v80), .val (.int v84), .unset, .unset, .unset, .unset, .unset, .unset, .unset, .unset] [(.ref b88)])) target
      refine XS.astore Xg131.here hx rfl (hb hby at_132) rfl rfl (l' := #[.val (.int p0), .val (.int p1), .val (.int p2), .val (.int p3), .val (.int v3), .val (.int v9), .val (.int v21), .val (.int v80), .val (.int v84), .val (.ref b88), .unset, .unset, .unset, .unset, .unset, .unset, .unset]) rfl ?_
      show Steps p.tables e below (Tg131.setTop (mkF m 134 #[.val (.int p0), .val (.int p1), .val (.int p2), .val (.int p3), .val (.int v3), .val (.int v9), .val (.int v21), .val (.int v80), .val (.int v84), .val (.ref b88), .unset, .unset, .unset, .unset, .unset, .unset, .unset] [])) target
      refine XS.iload Xg131.here hx rfl (hb hby at_134) rfl ?_
      show Steps p.tables e below (Tg131.setTop (mkF m 136 #[.val (.int p0), .val (.int p1), .val (.int p2), .val (.int p3), .val (.int v3), .val (.int v9), .val (.int v21), .val (.int v80), .val (.int v84), .val (.ref b88), .unset, .unset, .unset, .unset, .unset, .unset, .unset] [(.int v21)])) target
      refine XS.aload Xg131.here hx rfl (hb hby at_136) rfl rfl ?_
      show Steps p.tables e below (Tg131.setTop (mkF m 138 #[.val (.int p0), .val (.int p1), .val (.int p2), .val (.int p3), .val (.int v3), .val (.int v9), .val (.int v21), .val (.int v80), .val (.int v84), .val (.ref b88), .unset, .unset, .unset, .unset, .unset, .unset, .unset] [(.ref b88), (.int v21)])) target
      refine XS.iload Xg131.here hx rfl (hb hby at_138) rfl ?_
      exact kt
    obtain ⟨_, _, ⟨Tg140, Lg140, kg140, ng140⟩, -, Xg140, ⟨Lcg140, hQg140, lg140, yg140, zg140⟩, stg140⟩ := Jvm.LawKit.callS Xg131 hx (y := (⟨"com/example/psyche/psyche/XmlChars", "encode", "(I[BI)I"⟩ : MethodName)) hown (mvT hZ (hw _ (List.mem_of_getElem? (i := 4) rfl))) (mvT hZ (hw _ (List.mem_of_getElem? (i := 5) rfl))) (mvT hZ (hw _ (List.mem_of_getElem? (i := 6) rfl))) (mvT hZ (hw _ (List.mem_of_getElem? (i := 7) rfl))) (by decide) (backOf (W := 0) (own_rm1_e1 l Z a0 hw [] v21 b88 v80 a131 hg131 n0 Zz_8 F_16 g_b88 (show v80 = (0 : Int32) ∨ v80 = (1 : Int32) ∨ v80 = (2 : Int32) ∨ v80 = (3 : Int32) from (own_at p2 v80 hv80)) (show v21 < (128 : Int32) from hR1)) hZ (hw _ (List.mem_of_getElem? (i := 7) rfl)) (hw _ (List.mem_of_getElem? (i := 6) rfl)) (by decide) (by decide)) (g := (mkF m 140 #[.val (.int p0), .val (.int p1), .val (.int p2), .val (.int p3), .val (.int v3), .val (.int v9), .val (.int v21), .val (.int v80), .val (.int v84), .val (.ref b88), .unset, .unset, .unset, .unset, .unset, .unset, .unset] [(.int v80), (.ref b88), (.int v21)])) rfl (by rw [hml]; rfl) (argsL := [(.int v21), (.ref b88), (.int v80)]) (rest := []) (lenOf own_pd0 rfl) rfl (by show 2 * 0 + _ ≤ _; exact Nat.le_of_eq rfl) (hb hby at_140) (fun _ _ => ⟨rfl, eg131, (by decide : 1 + 0 ≤ _), (by decide : 8 + 0 ≤ _)⟩)
    dsimp only [Pt.U, Pt.locs, Pt.cells, Pt.slots] at Xg140 lg140 yg140 zg140 stg140 hQg140
    subst lg140 yg140 zg140
    obtain ⟨rfl, Ng140q, Kg140, F_17⟩ := hQg140
    have Zz_9 : n0 ≤ Tg140.heap.size := Nat.le_trans Zz_8 Kg140.1
    obtain ⟨a140, ha140⟩ : ∃ z : Nat → Int32, z = (fun i => if i = (v80).toNatClampNeg then (nar .byte (v21.toInt8.toInt32)) else a131 i) := ⟨_, rfl⟩
    have F_18 : own_RayB Z Tg140.heap b88 8 a140 := by subst ha140; exact F_17
    have Ng140 := Fr.app Ng131 Ng140q
    refine own_st (stg140) ?_
    refine own_st (B := Tg140.setTop (mkF m 150 #[.val (.int p0), .val (.int p1), .val (.int p2), .val (.int p3), .val (.int v3), .val (.int v9), .val (.int v21), .val (.int v80), .val (.int v84), .val (.ref b88), .val (.int (1 : Int32)), .unset, .unset, .unset, .unset, .unset, .unset] [(.int (128 : Int32)), (.int v21)])) (fun target kt => ?_) ?_
    · show Steps p.tables e below (Tg140.setTop (mkF m 143 #[.val (.int p0), .val (.int p1), .val (.int p2), .val (.int p3), .val (.int v3), .val (.int v9), .val (.int v21), .val (.int v80), .val (.int v84), .val (.ref b88), .unset, .unset, .unset, .unset, .unset, .unset, .unset] [(.int (1 : Int32))])) target
      refine XS.istore Xg140.here hx rfl (hb hby at_143) rfl (l' := #[.val (.int p0), .val (.int p1), .val (.int p2), .val (.int p3), .val (.int v3), .val (.int v9), .val (.int v21), .val (.int v80), .val (.int v84), .val (.ref b88), .val (.int (1 : Int32)), .unset, .unset, .unset, .unset, .unset, .unset]) rfl ?_
      show Steps p.tables e below (Tg140.setTop (mkF m 145 #[.val (.int p0), .val (.int p1), .val (.int p2), .val (.int p3), .val (.int v3), .val (.int v9), .val (.int v21), .val (.int v80), .val (.int v84), .val (.ref b88), .val (.int (1 : Int32)), .unset, .unset, .unset, .unset, .unset, .unset] [])) target
      refine XS.iload Xg140.here hx rfl (hb hby at_145) rfl ?_
      show Steps p.tables e below (Tg140.setTop (mkF m 147 #[.val (.int p0), .val (.int p1), .val (.int p2), .val (.int p3), .val (.int v3), .val (.int v9), .val (.int v21), .val (.int v80), .val (.int v84), .val (.ref b88), .val (.int (1 : Int32)), .unset, .unset, .unset, .unset, .unset, .unset] [(.int v21)])) target
      refine XS.sipush Xg140.here hx rfl (hb hby at_147) ?_
      exact kt
    have c150 : v21 < (128 : Int32) := by
      exact hR1
    refine own_st (B := Tg140.setTop (mkF m 192 #[.val (.int p0), .val (.int p1), .val (.int p2), .val (.int p3), .val (.int v3), .val (.int v9), .val (.int v21), .val (.int v80), .val (.int v84), .val (.ref b88), .val (.int (1 : Int32)), .val (.int (1 : Int32)), .unset, .unset, .unset, .unset, .unset] [])) (fun target kt => ?_) ?_
    · show Steps p.tables e below (Tg140.setTop (mkF m 150 #[.val (.int p0), .val (.int p1), .val (.int p2), .val (.int p3), .val (.int v3), .val (.int v9), .val (.int v21), .val (.int v80), .val (.int v84), .val (.ref b88), .val (.int (1 : Int32)), .unset, .unset, .unset, .unset, .unset, .unset] [(.int (128 : Int32)), (.int v21)])) target
      refine XS.icmpNo Xg140.here hx rfl (hb hby at_150) rfl (tlt c150).2.1 ?_
      show Steps p.tables e below (Tg140.setTop (mkF m 153 #[.val (.int p0), .val (.int p1), .val (.int p2), .val (.int p3), .val (.int v3), .val (.int v9), .val (.int v21), .val (.int v80), .val (.int v84), .val (.ref b88), .val (.int (1 : Int32)), .unset, .unset, .unset, .unset, .unset, .unset] [])) target
      refine XS.iconst Xg140.here hx rfl (hb hby at_153) ?_
      show Steps p.tables e below (Tg140.setTop (mkF m 154 #[.val (.int p0), .val (.int p1), .val (.int p2), .val (.int p3), .val (.int v3), .val (.int v9), .val (.int v21), .val (.int v80), .val (.int v84), .val (.ref b88), .val (.int (1 : Int32)), .unset, .unset, .unset, .unset, .unset, .unset] [(.int (1 : Int32))])) target
      refine XS.goto Xg140.here hx rfl (pc0 := 154) (pc' := 181) rfl (hb hby at_154) (by decide) (by decide) ?_
      show Steps p.tables e below (Tg140.setTop (mkF m 181 #[.val (.int p0), .val (.int p1), .val (.int p2), .val (.int p3), .val (.int v3), .val (.int v9), .val (.int v21), .val (.int v80), .val (.int v84), .val (.ref b88), .val (.int (1 : Int32)), .unset, .unset, .unset, .unset, .unset, .unset] [(.int (1 : Int32))])) target
      refine XS.istore Xg140.here hx rfl (hb hby at_181) rfl (l' := #[.val (.int p0), .val (.int p1), .val (.int p2), .val (.int p3), .val (.int v3), .val (.int v9), .val (.int v21), .val (.int v80), .val (.int v84), .val (.ref b88), .val (.int (1 : Int32)), .val (.int (1 : Int32)), .unset, .unset, .unset, .unset, .unset]) rfl ?_
      show Steps p.tables e below (Tg140.setTop (mkF m 183 #[.val (.int p0), .val (.int p1), .val (.int p2), .val (.int p3), .val (.int v3), .val (.int v9), .val (.int v21), .val (.int v80), .val (.int v84), .val (.ref b88), .val (.int (1 : Int32)), .val (.int (1 : Int32)), .unset, .unset, .unset, .unset, .unset] [])) target
      refine XS.iload Xg140.here hx rfl (hb hby at_183) rfl ?_
      show Steps p.tables e below (Tg140.setTop (mkF m 185 #[.val (.int p0), .val (.int p1), .val (.int p2), .val (.int p3), .val (.int v3), .val (.int v9), .val (.int v21), .val (.int v80), .val (.int v84), .val (.ref b88), .val (.int (1 : Int32)), .val (.int (1 : Int32)), .unset, .unset, .unset, .unset, .unset] [(.int (1 : Int32))])) target
      refine XS.iload Xg140.here hx rfl (hb hby at_185) rfl ?_
      show Steps p.tables e below (Tg140.setTop (mkF m 187 #[.val (.int p0), .val (.int p1), .val (.int p2), .val (.int p3), .val (.int v3), .val (.int v9), .val (.int v21), .val (.int v80), .val (.int v84), .val (.ref b88), .val (.int (1 : Int32)), .val (.int (1 : Int32)), .unset, .unset, .unset, .unset, .unset] [(.int (1 : Int32)), (.int (1 : Int32))])) target
      refine XS.icmpYes Xg140.here hx rfl (pc0 := 187) (pc' := 192) rfl (hb hby at_187) rfl (teq (by decide : (1 : Int32) = (1 : Int32))).1 (by decide) (by decide) ?_
      exact kt
    have hat := own_at p2 v80 hv80
    have hn84 : nar .byte v84 = v84 := by rw [hv84]; exact own_nb8 p3
    have hfill : ∀ i, i < 8 → a131 i = v84 := by
      intro i hi
      have : i = 0 ∨ i = 1 ∨ i = 2 ∨ i = 3 ∨ i = 4 ∨ i = 5 ∨ i = 6 ∨ i = 7 := by omega
      rcases this with rfl | rfl | rfl | rfl | rfl | rfl | rfl | rfl <;> simp [ha131, ha125, ha119, ha114, ha109, ha104, ha99, ha94, hn84]
    refine own_st (B := Tg140.setTop (mkF m 201 #[.val (.int p0), .val (.int p1), .val (.int p2), .val (.int p3), .val (.int v3), .val (.int v9), .val (.int v21), .val (.int v80), .val (.int v84), .val (.ref b88), .val (.int (1 : Int32)), .val (.int (1 : Int32)), .unset, .unset, .unset, .unset, .unset] [(.int v84), (.int (1 : Int32)), (.int v80), (.int (0 : Int32)), (.ref b88)])) (fun target kt => ?_) ?_
    · show Steps p.tables e below (Tg140.setTop (mkF m 192 #[.val (.int p0), .val (.int p1), .val (.int p2), .val (.int p3), .val (.int v3), .val (.int v9), .val (.int v21), .val (.int v80), .val (.int v84), .val (.ref b88), .val (.int (1 : Int32)), .val (.int (1 : Int32)), .unset, .unset, .unset, .unset, .unset] [])) target
      refine XS.aload Xg140.here hx rfl (hb hby at_192) rfl rfl ?_
      show Steps p.tables e below (Tg140.setTop (mkF m 194 #[.val (.int p0), .val (.int p1), .val (.int p2), .val (.int p3), .val (.int v3), .val (.int v9), .val (.int v21), .val (.int v80), .val (.int v84), .val (.ref b88), .val (.int (1 : Int32)), .val (.int (1 : Int32)), .unset, .unset, .unset, .unset, .unset] [(.ref b88)])) target
      refine XS.iconst Xg140.here hx rfl (hb hby at_194) ?_
      show Steps p.tables e below (Tg140.setTop (mkF m 195 #[.val (.int p0), .val (.int p1), .val (.int p2), .val (.int p3), .val (.int v3), .val (.int v9), .val (.int v21), .val (.int v80), .val (.int v84), .val (.ref b88), .val (.int (1 : Int32)), .val (.int (1 : Int32)), .unset, .unset, .unset, .unset, .unset] [(.int (0 : Int32)), (.ref b88)])) target
      refine XS.iload Xg140.here hx rfl (hb hby at_195) rfl ?_
      show Steps p.tables e below (Tg140.setTop (mkF m 197 #[.val (.int p0), .val (.int p1), .val (.int p2), .val (.int p3), .val (.int v3), .val (.int v9), .val (.int v21), .val (.int v80), .val (.int v84), .val (.ref b88), .val (.int (1 : Int32)), .val (.int (1 : Int32)), .unset, .unset, .unset, .unset, .unset] [(.int v80), (.int (0 : Int32)), (.ref b88)])) target
      refine XS.iload Xg140.here hx rfl (hb hby at_197) rfl ?_
      show Steps p.tables e below (Tg140.setTop (mkF m 199 #[.val (.int p0), .val (.int p1), .val (.int p2), .val (.int p3), .val (.int v3), .val (.int v9), .val (.int v21), .val (.int v80), .val (.int v84), .val (.ref b88), .val (.int (1 : Int32)), .val (.int (1 : Int32)), .unset, .unset, .unset, .unset, .unset] [(.int (1 : Int32)), (.int v80), (.int (0 : Int32)), (.ref b88)])) target
      refine XS.iload Xg140.here hx rfl (hb hby at_199) rfl ?_
      exact kt
    obtain ⟨_, _, ⟨Tg201, Lg201, kg201, ng201⟩, -, Xg201, ⟨Lcg201, hQg201, lg201, yg201, zg201⟩, stg201⟩ := Jvm.LawKit.callS Xg140 hx (y := (⟨"com/example/psyche/psyche/XmlCharsEncodePinLaw", "same", "([BIIIB)Z"⟩ : MethodName)) hown (mvT hZ (hw _ (List.mem_of_getElem? (i := 9) rfl))) (mvT hZ (hw _ (List.mem_of_getElem? (i := 10) rfl))) (mvT hZ (hw _ (List.mem_of_getElem? (i := 11) rfl))) (mvT hZ (hw _ (List.mem_of_getElem? (i := 12) rfl))) (by decide) (backOf (W := 0) (own_rm2 l Z a0 hw [] b88 (0 : Int32) v80 (1 : Int32) v84 a140 Tg140.heap n0 Zz_9 F_18 (show ¬ (0 : Int32) < 0 ∧ (0 : Int32).toNatClampNeg < 8 from (by decide))) hZ (hw _ (List.mem_of_getElem? (i := 12) rfl)) (hw _ (List.mem_of_getElem? (i := 11) rfl)) (by decide) (by decide)) (g := (mkF m 201 #[.val (.int p0), .val (.int p1), .val (.int p2), .val (.int p3), .val (.int v3), .val (.int v9), .val (.int v21), .val (.int v80), .val (.int v84), .val (.ref b88), .val (.int (1 : Int32)), .val (.int (1 : Int32)), .unset, .unset, .unset, .unset, .unset] [(.int v84), (.int (1 : Int32)), (.int v80), (.int (0 : Int32)), (.ref b88)])) rfl (by rw [hml]; rfl) (argsL := [(.ref b88), (.int (0 : Int32)), (.int v80), (.int (1 : Int32)), (.int v84)]) (rest := []) (lenOf own_pd1 rfl) rfl (by show 2 * 0 + _ ≤ _; exact Nat.le_of_eq rfl) (hb hby at_201) (fun _ _ => ⟨rfl, rfl, (by decide : 1 + 0 ≤ _), (by decide : 8 + 0 ≤ _)⟩)
    dsimp only [Pt.U, Pt.locs, Pt.cells, Pt.slots] at Xg201 lg201 yg201 zg201 stg201 hQg201
    subst lg201 yg201 zg201
    obtain ⟨rfl, Ng201q, eg201⟩ := hQg201
    have Ng201 := Fr.app Ng140 Ng201q
    refine own_st (stg201) ?_
    have c204 : (((0 : Int32) < v80) ∧ ((a140 (0 : Int32).toNatClampNeg) = v84)) ∨ (¬ ((0 : Int32) < v80) ∧ (((0 : Int32) < (v80 + (1 : Int32))) ∨ ((a140 (0 : Int32).toNatClampNeg) = v84))) := by
      rcases hat with h | h | h | h <;> (rw [ha140, h]; first | exact Or.inr ⟨by decide, Or.inl (by decide)⟩ | (refine Or.inl ⟨by decide, ?_⟩; simp +decide [hfill]) | (refine Or.inr ⟨by decide, Or.inr ?_⟩; simp +decide [hfill]))
    refine own_st (B := Tg201.setTop (mkF m 216 #[.val (.int p0), .val (.int p1), .val (.int p2), .val (.int p3), .val (.int v3), .val (.int v9), .val (.int v21), .val (.int v80), .val (.int v84), .val (.ref b88), .val (.int (1 : Int32)), .val (.int (1 : Int32)), .unset, .unset, .unset, .unset, .unset] [(.int v84), (.int (1 : Int32)), (.int v80), (.int (1 : Int32)), (.ref b88)])) (fun target kt => ?_) ?_
    · show Steps p.tables e below (Tg201.setTop (mkF m 204 #[.val (.int p0), .val (.int p1), .val (.int p2), .val (.int p3), .val (.int v3), .val (.int v9), .val (.int v21), .val (.int v80), .val (.int v84), .val (.ref b88), .val (.int (1 : Int32)), .val (.int (1 : Int32)), .unset, .unset, .unset, .unset, .unset] [(.int (own_b ((((0 : Int32) < v80) ∧ ((a140 (0 : Int32).toNatClampNeg) = v84)) ∨ (¬ ((0 : Int32) < v80) ∧ (((0 : Int32) < (v80 + (1 : Int32))) ∨ ((a140 (0 : Int32).toNatClampNeg) = v84))))))])) target
      refine XS.ifNo Xg201.here hx rfl (hb hby at_204) rfl ((if0 _ _).trans (feq (own_bn0 rfl c204)).1) ?_
      show Steps p.tables e below (Tg201.setTop (mkF m 207 #[.val (.int p0), .val (.int p1), .val (.int p2), .val (.int p3), .val (.int v3), .val (.int v9), .val (.int v21), .val (.int v80), .val (.int v84), .val (.ref b88), .val (.int (1 : Int32)), .val (.int (1 : Int32)), .unset, .unset, .unset, .unset, .unset] [])) target
      refine XS.aload Xg201.here hx rfl (hb hby at_207) rfl rfl ?_
      show Steps p.tables e below (Tg201.setTop (mkF m 209 #[.val (.int p0), .val (.int p1), .val (.int p2), .val (.int p3), .val (.int v3), .val (.int v9), .val (.int v21), .val (.int v80), .val (.int v84), .val (.ref b88), .val (.int (1 : Int32)), .val (.int (1 : Int32)), .unset, .unset, .unset, .unset, .unset] [(.ref b88)])) target
      refine XS.iconst Xg201.here hx rfl (hb hby at_209) ?_
      show Steps p.tables e below (Tg201.setTop (mkF m 210 #[.val (.int p0), .val (.int p1), .val (.int p2), .val (.int p3), .val (.int v3), .val (.int v9), .val (.int v21), .val (.int v80), .val (.int v84), .val (.ref b88), .val (.int (1 : Int32)), .val (.int (1 : Int32)), .unset, .unset, .unset, .unset, .unset] [(.int (1 : Int32)), (.ref b88)])) target
      refine XS.iload Xg201.here hx rfl (hb hby at_210) rfl ?_
      show Steps p.tables e below (Tg201.setTop (mkF m 212 #[.val (.int p0), .val (.int p1), .val (.int p2), .val (.int p3), .val (.int v3), .val (.int v9), .val (.int v21), .val (.int v80), .val (.int v84), .val (.ref b88), .val (.int (1 : Int32)), .val (.int (1 : Int32)), .unset, .unset, .unset, .unset, .unset] [(.int v80), (.int (1 : Int32)), (.ref b88)])) target
      refine XS.iload Xg201.here hx rfl (hb hby at_212) rfl ?_
      show Steps p.tables e below (Tg201.setTop (mkF m 214 #[.val (.int p0), .val (.int p1), .val (.int p2), .val (.int p3), .val (.int v3), .val (.int v9), .val (.int v21), .val (.int v80), .val (.int v84), .val (.ref b88), .val (.int (1 : Int32)), .val (.int (1 : Int32)), .unset, .unset, .unset, .unset, .unset] [(.int (1 : Int32)), (.int v80), (.int (1 : Int32)), (.ref b88)])) target
      refine XS.iload Xg201.here hx rfl (hb hby at_214) rfl ?_
      exact kt
    obtain ⟨_, _, ⟨Tg216, Lg216, kg216, ng216⟩, -, Xg216, ⟨Lcg216, hQg216, lg216, yg216, zg216⟩, stg216⟩ := Jvm.LawKit.callS Xg201 hx (y := (⟨"com/example/psyche/psyche/XmlCharsEncodePinLaw", "same", "([BIIIB)Z"⟩ : MethodName)) hown (mvT hZ (hw _ (List.mem_of_getElem? (i := 9) rfl))) (mvT hZ (hw _ (List.mem_of_getElem? (i := 10) rfl))) (mvT hZ (hw _ (List.mem_of_getElem? (i := 11) rfl))) (mvT hZ (hw _ (List.mem_of_getElem? (i := 12) rfl))) (by decide) (backOf (W := 0) (own_rm2 l Z a0 hw [] b88 (1 : Int32) v80 (1 : Int32) v84 a140 Tg140.heap n0 Zz_9 F_18 (show ¬ (1 : Int32) < 0 ∧ (1 : Int32).toNatClampNeg < 8 from (by decide))) hZ (hw _ (List.mem_of_getElem? (i := 12) rfl)) (hw _ (List.mem_of_getElem? (i := 11) rfl)) (by decide) (by decide)) (g := (mkF m 216 #[.val (.int p0), .val (.int p1), .val (.int p2), .val (.int p3), .val (.int v3), .val (.int v9), .val (.int v21), .val (.int v80), .val (.int v84), .val (.ref b88), .val (.int (1 : Int32)), .val (.int (1 : Int32)), .unset, .unset, .unset, .unset, .unset] [(.int v84), (.int (1 : Int32)), (.int v80), (.int (1 : Int32)), (.ref b88)])) rfl (by rw [hml]; rfl) (argsL := [(.ref b88), (.int (1 : Int32)), (.int v80), (.int (1 : Int32)), (.int v84)]) (rest := []) (lenOf own_pd1 rfl) rfl (by show 2 * 0 + _ ≤ _; exact Nat.le_of_eq rfl) (hb hby at_216) (fun _ _ => ⟨rfl, eg201, (by decide : 1 + 0 ≤ _), (by decide : 8 + 0 ≤ _)⟩)
    dsimp only [Pt.U, Pt.locs, Pt.cells, Pt.slots] at Xg216 lg216 yg216 zg216 stg216 hQg216
    subst lg216 yg216 zg216
    obtain ⟨rfl, Ng216q, eg216⟩ := hQg216
    have Ng216 := Fr.app Ng201 Ng216q
    refine own_st (stg216) ?_
    have c219 : (((1 : Int32) < v80) ∧ ((a140 (1 : Int32).toNatClampNeg) = v84)) ∨ (¬ ((1 : Int32) < v80) ∧ (((1 : Int32) < (v80 + (1 : Int32))) ∨ ((a140 (1 : Int32).toNatClampNeg) = v84))) := by
      rcases hat with h | h | h | h <;> (rw [ha140, h]; first | exact Or.inr ⟨by decide, Or.inl (by decide)⟩ | (refine Or.inl ⟨by decide, ?_⟩; simp +decide [hfill]) | (refine Or.inr ⟨by decide, Or.inr ?_⟩; simp +decide [hfill]))
    refine own_st (B := Tg216.setTop (mkF m 231 #[.val (.int p0), .val (.int p1), .val (.int p2), .val (.int p3), .val (.int v3), .val (.int v9), .val (.int v21), .val (.int v80), .val (.int v84), .val (.ref b88), .val (.int (1 : Int32)), .val (.int (1 : Int32)), .unset, .unset, .unset, .unset, .unset] [(.int v84), (.int (1 : Int32)), (.int v80), (.int (2 : Int32)), (.ref b88)])) (fun target kt => ?_) ?_
    · show Steps p.tables e below (Tg216.setTop (mkF m 219 #[.val (.int p0), .val (.int p1), .val (.int p2), .val (.int p3), .val (.int v3), .val (.int v9), .val (.int v21), .val (.int v80), .val (.int v84), .val (.ref b88), .val (.int (1 : Int32)), .val (.int (1 : Int32)), .unset, .unset, .unset, .unset, .unset] [(.int (own_b ((((1 : Int32) < v80) ∧ ((a140 (1 : Int32).toNatClampNeg) = v84)) ∨ (¬ ((1 : Int32) < v80) ∧ (((1 : Int32) < (v80 + (1 : Int32))) ∨ ((a140 (1 : Int32).toNatClampNeg) = v84))))))])) target
      refine XS.ifNo Xg216.here hx rfl (hb hby at_219) rfl ((if0 _ _).trans (feq (own_bn0 rfl c219)).1) ?_
      show Steps p.tables e below (Tg216.setTop (mkF m 222 #[.val (.int p0), .val (.int p1), .val (.int p2), .val (.int p3), .val (.int v3), .val (.int v9), .val (.int v21), .val (.int v80), .val (.int v84), .val (.ref b88), .val (.int (1 : Int32)), .val (.int (1 : Int32)), .unset, .unset, .unset, .unset, .unset] [])) target
      refine XS.aload Xg216.here hx rfl (hb hby at_222) rfl rfl ?_
      show Steps p.tables e below (Tg216.setTop (mkF m 224 #[.val (.int p0), .val (.int p1), .val (.int p2), .val (.int p3), .val (.int v3), .val (.int v9), .val (.int v21), .val (.int v80), .val (.int v84), .val (.ref b88), .val (.int (1 : Int32)), .val (.int (1 : Int32)), .unset, .unset, .unset, .unset, .unset] [(.ref b88)])) target
      refine XS.iconst Xg216.here hx rfl (hb hby at_224) ?_
      show Steps p.tables e below (Tg216.setTop (mkF m 225 #[.val (.int p0), .val (.int p1), .val (.int p2), .val (.int p3), .val (.int v3), .val (.int v9), .val (.int v21), .val (.int v80), .val (.int v84), .val (.ref b88), .val (.int (1 : Int32)), .val (.int (1 : Int32)), .unset, .unset, .unset, .unset, .unset] [(.int (2 : Int32)), (.ref b88)])) target
      refine XS.iload Xg216.here hx rfl (hb hby at_225) rfl ?_
      show Steps p.tables e below (Tg216.setTop (mkF m 227 #[.val (.int p0), .val (.int p1), .val (.int p2), .val (.int p3), .val (.int v3), .val (.int v9), .val (.int v21), .val (.int v80), .val (.int v84), .val (.ref b88), .val (.int (1 : Int32)), .val (.int (1 : Int32)), .unset, .unset, .unset, .unset, .unset] [(.int v80), (.int (2 : Int32)), (.ref b88)])) target
      refine XS.iload Xg216.here hx rfl (hb hby at_227) rfl ?_
      show Steps p.tables e below (Tg216.setTop (mkF m 229 #[.val (.int p0), .val (.int p1), .val (.int p2), .val (.int p3), .val (.int v3), .val (.int v9), .val (.int v21), .val (.int v80), .val (.int v84), .val (.ref b88), .val (.int (1 : Int32)), .val (.int (1 : Int32)), .unset, .unset, .unset, .unset, .unset] [(.int (1 : Int32)), (.int v80), (.int (2 : Int32)), (.ref b88)])) target
      refine XS.iload Xg216.here hx rfl (hb hby at_229) rfl ?_
      exact kt
    obtain ⟨_, _, ⟨Tg231, Lg231, kg231, ng231⟩, -, Xg231, ⟨Lcg231, hQg231, lg231, yg231, zg231⟩, stg231⟩ := Jvm.LawKit.callS Xg216 hx (y := (⟨"com/example/psyche/psyche/XmlCharsEncodePinLaw", "same", "([BIIIB)Z"⟩ : MethodName)) hown (mvT hZ (hw _ (List.mem_of_getElem? (i := 9) rfl))) (mvT hZ (hw _ (List.mem_of_getElem? (i := 10) rfl))) (mvT hZ (hw _ (List.mem_of_getElem? (i := 11) rfl))) (mvT hZ (hw _ (List.mem_of_getElem? (i := 12) rfl))) (by decide) (backOf (W := 0) (own_rm2 l Z a0 hw [] b88 (2 : Int32) v80 (1 : Int32) v84 a140 Tg140.heap n0 Zz_9 F_18 (show ¬ (2 : Int32) < 0 ∧ (2 : Int32).toNatClampNeg < 8 from (by decide))) hZ (hw _ (List.mem_of_getElem? (i := 12) rfl)) (hw _ (List.mem_of_getElem? (i := 11) rfl)) (by decide) (by decide)) (g := (mkF m 231 #[.val (.int p0), .val (.int p1), .val (.int p2), .val (.int p3), .val (.int v3), .val (.int v9), .val (.int v21), .val (.int v80), .val (.int v84), .val (.ref b88), .val (.int (1 : Int32)), .val (.int (1 : Int32)), .unset, .unset, .unset, .unset, .unset] [(.int v84), (.int (1 : Int32)), (.int v80), (.int (2 : Int32)), (.ref b88)])) rfl (by rw [hml]; rfl) (argsL := [(.ref b88), (.int (2 : Int32)), (.int v80), (.int (1 : Int32)), (.int v84)]) (rest := []) (lenOf own_pd1 rfl) rfl (by show 2 * 0 + _ ≤ _; exact Nat.le_of_eq rfl) (hb hby at_231) (fun _ _ => ⟨rfl, eg216, (by decide : 1 + 0 ≤ _), (by decide : 8 + 0 ≤ _)⟩)
    dsimp only [Pt.U, Pt.locs, Pt.cells, Pt.slots] at Xg231 lg231 yg231 zg231 stg231 hQg231
    subst lg231 yg231 zg231
    obtain ⟨rfl, Ng231q, eg231⟩ := hQg231
    have Ng231 := Fr.app Ng216 Ng231q
    refine own_st (stg231) ?_
    have c234 : (((2 : Int32) < v80) ∧ ((a140 (2 : Int32).toNatClampNeg) = v84)) ∨ (¬ ((2 : Int32) < v80) ∧ (((2 : Int32) < (v80 + (1 : Int32))) ∨ ((a140 (2 : Int32).toNatClampNeg) = v84))) := by
      rcases hat with h | h | h | h <;> (rw [ha140, h]; first | exact Or.inr ⟨by decide, Or.inl (by decide)⟩ | (refine Or.inl ⟨by decide, ?_⟩; simp +decide [hfill]) | (refine Or.inr ⟨by decide, Or.inr ?_⟩; simp +decide [hfill]))
    refine own_st (B := Tg231.setTop (mkF m 246 #[.val (.int p0), .val (.int p1), .val (.int p2), .val (.int p3), .val (.int v3), .val (.int v9), .val (.int v21), .val (.int v80), .val (.int v84), .val (.ref b88), .val (.int (1 : Int32)), .val (.int (1 : Int32)), .unset, .unset, .unset, .unset, .unset] [(.int v84), (.int (1 : Int32)), (.int v80), (.int (3 : Int32)), (.ref b88)])) (fun target kt => ?_) ?_
    · show Steps p.tables e below (Tg231.setTop (mkF m 234 #[.val (.int p0), .val (.int p1), .val (.int p2), .val (.int p3), .val (.int v3), .val (.int v9), .val (.int v21), .val (.int v80), .val (.int v84), .val (.ref b88), .val (.int (1 : Int32)), .val (.int (1 : Int32)), .unset, .unset, .unset, .unset, .unset] [(.int (own_b ((((2 : Int32) < v80) ∧ ((a140 (2 : Int32).toNatClampNeg) = v84)) ∨ (¬ ((2 : Int32) < v80) ∧ (((2 : Int32) < (v80 + (1 : Int32))) ∨ ((a140 (2 : Int32).toNatClampNeg) = v84))))))])) target
      refine XS.ifNo Xg231.here hx rfl (hb hby at_234) rfl ((if0 _ _).trans (feq (own_bn0 rfl c234)).1) ?_
      show Steps p.tables e below (Tg231.setTop (mkF m 237 #[.val (.int p0), .val (.int p1), .val (.int p2), .val (.int p3), .val (.int v3), .val (.int v9), .val (.int v21), .val (.int v80), .val (.int v84), .val (.ref b88), .val (.int (1 : Int32)), .val (.int (1 : Int32)), .unset, .unset, .unset, .unset, .unset] [])) target
      refine XS.aload Xg231.here hx rfl (hb hby at_237) rfl rfl ?_
      show Steps p.tables e below (Tg231.setTop (mkF m 239 #[.val (.int p0), .val (.int p1), .val (.int p2), .val (.int p3), .val (.int v3), .val (.int v9), .val (.int v21), .val (.int v80), .val (.int v84), .val (.ref b88), .val (.int (1 : Int32)), .val (.int (1 : Int32)), .unset, .unset, .unset, .unset, .unset] [(.ref b88)])) target
      refine XS.iconst Xg231.here hx rfl (hb hby at_239) ?_
      show Steps p.tables e below (Tg231.setTop (mkF m 240 #[.val (.int p0), .val (.int p1), .val (.int p2), .val (.int p3), .val (.int v3), .val (.int v9), .val (.int v21), .val (.int v80), .val (.int v84), .val (.ref b88), .val (.int (1 : Int32)), .val (.int (1 : Int32)), .unset, .unset, .unset, .unset, .unset] [(.int (3 : Int32)), (.ref b88)])) target
      refine XS.iload Xg231.here hx rfl (hb hby at_240) rfl ?_
      show Steps p.tables e below (Tg231.setTop (mkF m 242 #[.val (.int p0), .val (.int p1), .val (.int p2), .val (.int p3), .val (.int v3), .val (.int v9), .val (.int v21), .val (.int v80), .val (.int v84), .val (.ref b88), .val (.int (1 : Int32)), .val (.int (1 : Int32)), .unset, .unset, .unset, .unset, .unset] [(.int v80), (.int (3 : Int32)), (.ref b88)])) target
      refine XS.iload Xg231.here hx rfl (hb hby at_242) rfl ?_
      show Steps p.tables e below (Tg231.setTop (mkF m 244 #[.val (.int p0), .val (.int p1), .val (.int p2), .val (.int p3), .val (.int v3), .val (.int v9), .val (.int v21), .val (.int v80), .val (.int v84), .val (.ref b88), .val (.int (1 : Int32)), .val (.int (1 : Int32)), .unset, .unset, .unset, .unset, .unset] [(.int (1 : Int32)), (.int v80), (.int (3 : Int32)), (.ref b88)])) target
      refine XS.iload Xg231.here hx rfl (hb hby at_244) rfl ?_
      exact kt
    obtain ⟨_, _, ⟨Tg246, Lg246, kg246, ng246⟩, -, Xg246, ⟨Lcg246, hQg246, lg246, yg246, zg246⟩, stg246⟩ := Jvm.LawKit.callS Xg231 hx (y := (⟨"com/example/psyche/psyche/XmlCharsEncodePinLaw", "same", "([BIIIB)Z"⟩ : MethodName)) hown (mvT hZ (hw _ (List.mem_of_getElem? (i := 9) rfl))) (mvT hZ (hw _ (List.mem_of_getElem? (i := 10) rfl))) (mvT hZ (hw _ (List.mem_of_getElem? (i := 11) rfl))) (mvT hZ (hw _ (List.mem_of_getElem? (i := 12) rfl))) (by decide) (backOf (W := 0) (own_rm2 l Z a0 hw [] b88 (3 : Int32) v80 (1 : Int32) v84 a140 Tg140.heap n0 Zz_9 F_18 (show ¬ (3 : Int32) < 0 ∧ (3 : Int32).toNatClampNeg < 8 from (by decide))) hZ (hw _ (List.mem_of_getElem? (i := 12) rfl)) (hw _ (List.mem_of_getElem? (i := 11) rfl)) (by decide) (by decide)) (g := (mkF m 246 #[.val (.int p0), .val (.int p1), .val (.int p2), .val (.int p3), .val (.int v3), .val (.int v9), .val (.int v21), .val (.int v80), .val (.int v84), .val (.ref b88), .val (.int (1 : Int32)), .val (.int (1 : Int32)), .unset, .unset, .unset, .unset, .unset] [(.int v84), (.int (1 : Int32)), (.int v80), (.int (3 : Int32)), (.ref b88)])) rfl (by rw [hml]; rfl) (argsL := [(.ref b88), (.int (3 : Int32)), (.int v80), (.int (1 : Int32)), (.int v84)]) (rest := []) (lenOf own_pd1 rfl) rfl (by show 2 * 0 + _ ≤ _; exact Nat.le_of_eq rfl) (hb hby at_246) (fun _ _ => ⟨rfl, eg231, (by decide : 1 + 0 ≤ _), (by decide : 8 + 0 ≤ _)⟩)
    dsimp only [Pt.U, Pt.locs, Pt.cells, Pt.slots] at Xg246 lg246 yg246 zg246 stg246 hQg246
    subst lg246 yg246 zg246
    obtain ⟨rfl, Ng246q, eg246⟩ := hQg246
    have Ng246 := Fr.app Ng231 Ng246q
    refine own_st (stg246) ?_
    have c249 : (((3 : Int32) < v80) ∧ ((a140 (3 : Int32).toNatClampNeg) = v84)) ∨ (¬ ((3 : Int32) < v80) ∧ (((3 : Int32) < (v80 + (1 : Int32))) ∨ ((a140 (3 : Int32).toNatClampNeg) = v84))) := by
      rcases hat with h | h | h | h <;> (rw [ha140, h]; first | exact Or.inr ⟨by decide, Or.inl (by decide)⟩ | (refine Or.inl ⟨by decide, ?_⟩; simp +decide [hfill]) | (refine Or.inr ⟨by decide, Or.inr ?_⟩; simp +decide [hfill]))
    refine own_st (B := Tg246.setTop (mkF m 261 #[.val (.int p0), .val (.int p1), .val (.int p2), .val (.int p3), .val (.int v3), .val (.int v9), .val (.int v21), .val (.int v80), .val (.int v84), .val (.ref b88), .val (.int (1 : Int32)), .val (.int (1 : Int32)), .unset, .unset, .unset, .unset, .unset] [(.int v84), (.int (1 : Int32)), (.int v80), (.int (4 : Int32)), (.ref b88)])) (fun target kt => ?_) ?_
    · show Steps p.tables e below (Tg246.setTop (mkF m 249 #[.val (.int p0), .val (.int p1), .val (.int p2), .val (.int p3), .val (.int v3), .val (.int v9), .val (.int v21), .val (.int v80), .val (.int v84), .val (.ref b88), .val (.int (1 : Int32)), .val (.int (1 : Int32)), .unset, .unset, .unset, .unset, .unset] [(.int (own_b ((((3 : Int32) < v80) ∧ ((a140 (3 : Int32).toNatClampNeg) = v84)) ∨ (¬ ((3 : Int32) < v80) ∧ (((3 : Int32) < (v80 + (1 : Int32))) ∨ ((a140 (3 : Int32).toNatClampNeg) = v84))))))])) target
      refine XS.ifNo Xg246.here hx rfl (hb hby at_249) rfl ((if0 _ _).trans (feq (own_bn0 rfl c249)).1) ?_
      show Steps p.tables e below (Tg246.setTop (mkF m 252 #[.val (.int p0), .val (.int p1), .val (.int p2), .val (.int p3), .val (.int v3), .val (.int v9), .val (.int v21), .val (.int v80), .val (.int v84), .val (.ref b88), .val (.int (1 : Int32)), .val (.int (1 : Int32)), .unset, .unset, .unset, .unset, .unset] [])) target
      refine XS.aload Xg246.here hx rfl (hb hby at_252) rfl rfl ?_
      show Steps p.tables e below (Tg246.setTop (mkF m 254 #[.val (.int p0), .val (.int p1), .val (.int p2), .val (.int p3), .val (.int v3), .val (.int v9), .val (.int v21), .val (.int v80), .val (.int v84), .val (.ref b88), .val (.int (1 : Int32)), .val (.int (1 : Int32)), .unset, .unset, .unset, .unset, .unset] [(.ref b88)])) target
      refine XS.iconst Xg246.here hx rfl (hb hby at_254) ?_
      show Steps p.tables e below (Tg246.setTop (mkF m 255 #[.val (.int p0), .val (.int p1), .val (.int p2), .val (.int p3), .val (.int v3), .val (.int v9), .val (.int v21), .val (.int v80), .val (.int v84), .val (.ref b88), .val (.int (1 : Int32)), .val (.int (1 : Int32)), .unset, .unset, .unset, .unset, .unset] [(.int (4 : Int32)), (.ref b88)])) target
      refine XS.iload Xg246.here hx rfl (hb hby at_255) rfl ?_
      show Steps p.tables e below (Tg246.setTop (mkF m 257 #[.val (.int p0), .val (.int p1), .val (.int p2), .val (.int p3), .val (.int v3), .val (.int v9), .val (.int v21), .val (.int v80), .val (.int v84), .val (.ref b88), .val (.int (1 : Int32)), .val (.int (1 : Int32)), .unset, .unset, .unset, .unset, .unset] [(.int v80), (.int (4 : Int32)), (.ref b88)])) target
      refine XS.iload Xg246.here hx rfl (hb hby at_257) rfl ?_
      show Steps p.tables e below (Tg246.setTop (mkF m 259 #[.val (.int p0), .val (.int p1), .val (.int p2), .val (.int p3), .val (.int v3), .val (.int v9), .val (.int v21), .val (.int v80), .val (.int v84), .val (.ref b88), .val (.int (1 : Int32)), .val (.int (1 : Int32)), .unset, .unset, .unset, .unset, .unset] [(.int (1 : Int32)), (.int v80), (.int (4 : Int32)), (.ref b88)])) target
      refine XS.iload Xg246.here hx rfl (hb hby at_259) rfl ?_
      exact kt
    obtain ⟨_, _, ⟨Tg261, Lg261, kg261, ng261⟩, -, Xg261, ⟨Lcg261, hQg261, lg261, yg261, zg261⟩, stg261⟩ := Jvm.LawKit.callS Xg246 hx (y := (⟨"com/example/psyche/psyche/XmlCharsEncodePinLaw", "same", "([BIIIB)Z"⟩ : MethodName)) hown (mvT hZ (hw _ (List.mem_of_getElem? (i := 9) rfl))) (mvT hZ (hw _ (List.mem_of_getElem? (i := 10) rfl))) (mvT hZ (hw _ (List.mem_of_getElem? (i := 11) rfl))) (mvT hZ (hw _ (List.mem_of_getElem? (i := 12) rfl))) (by decide) (backOf (W := 0) (own_rm2 l Z a0 hw [] b88 (4 : Int32) v80 (1 : Int32) v84 a140 Tg140.heap n0 Zz_9 F_18 (show ¬ (4 : Int32) < 0 ∧ (4 : Int32).toNatClampNeg < 8 from (by decide))) hZ (hw _ (List.mem_of_getElem? (i := 12) rfl)) (hw _ (List.mem_of_getElem? (i := 11) rfl)) (by decide) (by decide)) (g := (mkF m 261 #[.val (.int p0), .val (.int p1), .val (.int p2), .val (.int p3), .val (.int v3), .val (.int v9), .val (.int v21), .val (.int v80), .val (.int v84), .val (.ref b88), .val (.int (1 : Int32)), .val (.int (1 : Int32)), .unset, .unset, .unset, .unset, .unset] [(.int v84), (.int (1 : Int32)), (.int v80), (.int (4 : Int32)), (.ref b88)])) rfl (by rw [hml]; rfl) (argsL := [(.ref b88), (.int (4 : Int32)), (.int v80), (.int (1 : Int32)), (.int v84)]) (rest := []) (lenOf own_pd1 rfl) rfl (by show 2 * 0 + _ ≤ _; exact Nat.le_of_eq rfl) (hb hby at_261) (fun _ _ => ⟨rfl, eg246, (by decide : 1 + 0 ≤ _), (by decide : 8 + 0 ≤ _)⟩)
    dsimp only [Pt.U, Pt.locs, Pt.cells, Pt.slots] at Xg261 lg261 yg261 zg261 stg261 hQg261
    subst lg261 yg261 zg261
    obtain ⟨rfl, Ng261q, eg261⟩ := hQg261
    have Ng261 := Fr.app Ng246 Ng261q
    refine own_st (stg261) ?_
    have c264 : (((4 : Int32) < v80) ∧ ((a140 (4 : Int32).toNatClampNeg) = v84)) ∨ (¬ ((4 : Int32) < v80) ∧ (((4 : Int32) < (v80 + (1 : Int32))) ∨ ((a140 (4 : Int32).toNatClampNeg) = v84))) := by
      rcases hat with h | h | h | h <;> (rw [ha140, h]; first | exact Or.inr ⟨by decide, Or.inl (by decide)⟩ | (refine Or.inl ⟨by decide, ?_⟩; simp +decide [hfill]) | (refine Or.inr ⟨by decide, Or.inr ?_⟩; simp +decide [hfill]))
    refine own_st (B := Tg261.setTop (mkF m 276 #[.val (.int p0), .val (.int p1), .val (.int p2), .val (.int p3), .val (.int v3), .val (.int v9), .val (.int v21), .val (.int v80), .val (.int v84), .val (.ref b88), .val (.int (1 : Int32)), .val (.int (1 : Int32)), .unset, .unset, .unset, .unset, .unset] [(.int v84), (.int (1 : Int32)), (.int v80), (.int (5 : Int32)), (.ref b88)])) (fun target kt => ?_) ?_
    · show Steps p.tables e below (Tg261.setTop (mkF m 264 #[.val (.int p0), .val (.int p1), .val (.int p2), .val (.int p3), .val (.int v3), .val (.int v9), .val (.int v21), .val (.int v80), .val (.int v84), .val (.ref b88), .val (.int (1 : Int32)), .val (.int (1 : Int32)), .unset, .unset, .unset, .unset, .unset] [(.int (own_b ((((4 : Int32) < v80) ∧ ((a140 (4 : Int32).toNatClampNeg) = v84)) ∨ (¬ ((4 : Int32) < v80) ∧ (((4 : Int32) < (v80 + (1 : Int32))) ∨ ((a140 (4 : Int32).toNatClampNeg) = v84))))))])) target
      refine XS.ifNo Xg261.here hx rfl (hb hby at_264) rfl ((if0 _ _).trans (feq (own_bn0 rfl c264)).1) ?_
      show Steps p.tables e below (Tg261.setTop (mkF m 267 #[.val (.int p0), .val (.int p1), .val (.int p2), .val (.int p3), .val (.int v3), .val (.int v9), .val (.int v21), .val (.int v80), .val (.int v84), .val (.ref b88), .val (.int (1 : Int32)), .val (.int (1 : Int32)), .unset, .unset, .unset, .unset, .unset] [])) target
      refine XS.aload Xg261.here hx rfl (hb hby at_267) rfl rfl ?_
      show Steps p.tables e below (Tg261.setTop (mkF m 269 #[.val (.int p0), .val (.int p1), .val (.int p2), .val (.int p3), .val (.int v3), .val (.int v9), .val (.int v21), .val (.int v80), .val (.int v84), .val (.ref b88), .val (.int (1 : Int32)), .val (.int (1 : Int32)), .unset, .unset, .unset, .unset, .unset] [(.ref b88)])) target
      refine XS.iconst Xg261.here hx rfl (hb hby at_269) ?_
      show Steps p.tables e below (Tg261.setTop (mkF m 270 #[.val (.int p0), .val (.int p1), .val (.int p2), .val (.int p3), .val (.int v3), .val (.int v9), .val (.int v21), .val (.int v80), .val (.int v84), .val (.ref b88), .val (.int (1 : Int32)), .val (.int (1 : Int32)), .unset, .unset, .unset, .unset, .unset] [(.int (5 : Int32)), (.ref b88)])) target
      refine XS.iload Xg261.here hx rfl (hb hby at_270) rfl ?_
      show Steps p.tables e below (Tg261.setTop (mkF m 272 #[.val (.int p0), .val (.int p1), .val (.int p2), .val (.int p3), .val (.int v3), .val (.int v9), .val (.int v21), .val (.int v80), .val (.int v84), .val (.ref b88), .val (.int (1 : Int32)), .val (.int (1 : Int32)), .unset, .unset, .unset, .unset, .unset] [(.int v80), (.int (5 : Int32)), (.ref b88)])) target
      refine XS.iload Xg261.here hx rfl (hb hby at_272) rfl ?_
      show Steps p.tables e below (Tg261.setTop (mkF m 274 #[.val (.int p0), .val (.int p1), .val (.int p2), .val (.int p3), .val (.int v3), .val (.int v9), .val (.int v21), .val (.int v80), .val (.int v84), .val (.ref b88), .val (.int (1 : Int32)), .val (.int (1 : Int32)), .unset, .unset, .unset, .unset, .unset] [(.int (1 : Int32)), (.int v80), (.int (5 : Int32)), (.ref b88)])) target
      refine XS.iload Xg261.here hx rfl (hb hby at_274) rfl ?_
      exact kt
    obtain ⟨_, _, ⟨Tg276, Lg276, kg276, ng276⟩, -, Xg276, ⟨Lcg276, hQg276, lg276, yg276, zg276⟩, stg276⟩ := Jvm.LawKit.callS Xg261 hx (y := (⟨"com/example/psyche/psyche/XmlCharsEncodePinLaw", "same", "([BIIIB)Z"⟩ : MethodName)) hown (mvT hZ (hw _ (List.mem_of_getElem? (i := 9) rfl))) (mvT hZ (hw _ (List.mem_of_getElem? (i := 10) rfl))) (mvT hZ (hw _ (List.mem_of_getElem? (i := 11) rfl))) (mvT hZ (hw _ (List.mem_of_getElem? (i := 12) rfl))) (by decide) (backOf (W := 0) (own_rm2 l Z a0 hw [] b88 (5 : Int32) v80 (1 : Int32) v84 a140 Tg140.heap n0 Zz_9 F_18 (show ¬ (5 : Int32) < 0 ∧ (5 : Int32).toNatClampNeg < 8 from (by decide))) hZ (hw _ (List.mem_of_getElem? (i := 12) rfl)) (hw _ (List.mem_of_getElem? (i := 11) rfl)) (by decide) (by decide)) (g := (mkF m 276 #[.val (.int p0), .val (.int p1), .val (.int p2), .val (.int p3), .val (.int v3), .val (.int v9), .val (.int v21), .val (.int v80), .val (.int v84), .val (.ref b88), .val (.int (1 : Int32)), .val (.int (1 : Int32)), .unset, .unset, .unset, .unset, .unset] [(.int v84), (.int (1 : Int32)), (.int v80), (.int (5 : Int32)), (.ref b88)])) rfl (by rw [hml]; rfl) (argsL := [(.ref b88), (.int (5 : Int32)), (.int v80), (.int (1 : Int32)), (.int v84)]) (rest := []) (lenOf own_pd1 rfl) rfl (by show 2 * 0 + _ ≤ _; exact Nat.le_of_eq rfl) (hb hby at_276) (fun _ _ => ⟨rfl, eg261, (by decide : 1 + 0 ≤ _), (by decide : 8 + 0 ≤ _)⟩)
    dsimp only [Pt.U, Pt.locs, Pt.cells, Pt.slots] at Xg276 lg276 yg276 zg276 stg276 hQg276
    subst lg276 yg276 zg276
    obtain ⟨rfl, Ng276q, eg276⟩ := hQg276
    have Ng276 := Fr.app Ng261 Ng276q
    refine own_st (stg276) ?_
    have c279 : (((5 : Int32) < v80) ∧ ((a140 (5 : Int32).toNatClampNeg) = v84)) ∨ (¬ ((5 : Int32) < v80) ∧ (((5 : Int32) < (v80 + (1 : Int32))) ∨ ((a140 (5 : Int32).toNatClampNeg) = v84))) := by
      rcases hat with h | h | h | h <;> (rw [ha140, h]; first | exact Or.inr ⟨by decide, Or.inl (by decide)⟩ | (refine Or.inl ⟨by decide, ?_⟩; simp +decide [hfill]) | (refine Or.inr ⟨by decide, Or.inr ?_⟩; simp +decide [hfill]))
    refine own_st (B := Tg276.setTop (mkF m 292 #[.val (.int p0), .val (.int p1), .val (.int p2), .val (.int p3), .val (.int v3), .val (.int v9), .val (.int v21), .val (.int v80), .val (.int v84), .val (.ref b88), .val (.int (1 : Int32)), .val (.int (1 : Int32)), .unset, .unset, .unset, .unset, .unset] [(.int v84), (.int (1 : Int32)), (.int v80), (.int (6 : Int32)), (.ref b88)])) (fun target kt => ?_) ?_
    · show Steps p.tables e below (Tg276.setTop (mkF m 279 #[.val (.int p0), .val (.int p1), .val (.int p2), .val (.int p3), .val (.int v3), .val (.int v9), .val (.int v21), .val (.int v80), .val (.int v84), .val (.ref b88), .val (.int (1 : Int32)), .val (.int (1 : Int32)), .unset, .unset, .unset, .unset, .unset] [(.int (own_b ((((5 : Int32) < v80) ∧ ((a140 (5 : Int32).toNatClampNeg) = v84)) ∨ (¬ ((5 : Int32) < v80) ∧ (((5 : Int32) < (v80 + (1 : Int32))) ∨ ((a140 (5 : Int32).toNatClampNeg) = v84))))))])) target
      refine XS.ifNo Xg276.here hx rfl (hb hby at_279) rfl ((if0 _ _).trans (feq (own_bn0 rfl c279)).1) ?_
      show Steps p.tables e below (Tg276.setTop (mkF m 282 #[.val (.int p0), .val (.int p1), .val (.int p2), .val (.int p3), .val (.int v3), .val (.int v9), .val (.int v21), .val (.int v80), .val (.int v84), .val (.ref b88), .val (.int (1 : Int32)), .val (.int (1 : Int32)), .unset, .unset, .unset, .unset, .unset] [])) target
      refine XS.aload Xg276.here hx rfl (hb hby at_282) rfl rfl ?_
      show Steps p.tables e below (Tg276.setTop (mkF m 284 #[.val (.int p0), .val (.int p1), .val (.int p2), .val (.int p3), .val (.int v3), .val (.int v9), .val (.int v21), .val (.int v80), .val (.int v84), .val (.ref b88), .val (.int (1 : Int32)), .val (.int (1 : Int32)), .unset, .unset, .unset, .unset, .unset] [(.ref b88)])) target
      refine XS.bipush Xg276.here hx rfl (hb hby at_284) ?_
      show Steps p.tables e below (Tg276.setTop (mkF m 286 #[.val (.int p0), .val (.int p1), .val (.int p2), .val (.int p3), .val (.int v3), .val (.int v9), .val (.int v21), .val (.int v80), .val (.int v84), .val (.ref b88), .val (.int (1 : Int32)), .val (.int (1 : Int32)), .unset, .unset, .unset, .unset, .unset] [(.int (6 : Int32)), (.ref b88)])) target
      refine XS.iload Xg276.here hx rfl (hb hby at_286) rfl ?_
      show Steps p.tables e below (Tg276.setTop (mkF m 288 #[.val (.int p0), .val (.int p1), .val (.int p2), .val (.int p3), .val (.int v3), .val (.int v9), .val (.int v21), .val (.int v80), .val (.int v84), .val (.ref b88), .val (.int (1 : Int32)), .val (.int (1 : Int32)), .unset, .unset, .unset, .unset, .unset] [(.int v80), (.int (6 : Int32)), (.ref b88)])) target
      refine XS.iload Xg276.here hx rfl (hb hby at_288) rfl ?_
      show Steps p.tables e below (Tg276.setTop (mkF m 290 #[.val (.int p0), .val (.int p1), .val (.int p2), .val (.int p3), .val (.int v3), .val (.int v9), .val (.int v21), .val (.int v80), .val (.int v84), .val (.ref b88), .val (.int (1 : Int32)), .val (.int (1 : Int32)), .unset, .unset, .unset, .unset, .unset] [(.int (1 : Int32)), (.int v80), (.int (6 : Int32)), (.ref b88)])) target
      refine XS.iload Xg276.here hx rfl (hb hby at_290) rfl ?_
      exact kt
    obtain ⟨_, _, ⟨Tg292, Lg292, kg292, ng292⟩, -, Xg292, ⟨Lcg292, hQg292, lg292, yg292, zg292⟩, stg292⟩ := Jvm.LawKit.callS Xg276 hx (y := (⟨"com/example/psyche/psyche/XmlCharsEncodePinLaw", "same", "([BIIIB)Z"⟩ : MethodName)) hown (mvT hZ (hw _ (List.mem_of_getElem? (i := 9) rfl))) (mvT hZ (hw _ (List.mem_of_getElem? (i := 10) rfl))) (mvT hZ (hw _ (List.mem_of_getElem? (i := 11) rfl))) (mvT hZ (hw _ (List.mem_of_getElem? (i := 12) rfl))) (by decide) (backOf (W := 0) (own_rm2 l Z a0 hw [] b88 (6 : Int32) v80 (1 : Int32) v84 a140 Tg140.heap n0 Zz_9 F_18 (show ¬ (6 : Int32) < 0 ∧ (6 : Int32).toNatClampNeg < 8 from (by decide))) hZ (hw _ (List.mem_of_getElem? (i := 12) rfl)) (hw _ (List.mem_of_getElem? (i := 11) rfl)) (by decide) (by decide)) (g := (mkF m 292 #[.val (.int p0), .val (.int p1), .val (.int p2), .val (.int p3), .val (.int v3), .val (.int v9), .val (.int v21), .val (.int v80), .val (.int v84), .val (.ref b88), .val (.int (1 : Int32)), .val (.int (1 : Int32)), .unset, .unset, .unset, .unset, .unset] [(.int v84), (.int (1 : Int32)), (.int v80), (.int (6 : Int32)), (.ref b88)])) rfl (by rw [hml]; rfl) (argsL := [(.ref b88), (.int (6 : Int32)), (.int v80), (.int (1 : Int32)), (.int v84)]) (rest := []) (lenOf own_pd1 rfl) rfl (by show 2 * 0 + _ ≤ _; exact Nat.le_of_eq rfl) (hb hby at_292) (fun _ _ => ⟨rfl, eg276, (by decide : 1 + 0 ≤ _), (by decide : 8 + 0 ≤ _)⟩)
    dsimp only [Pt.U, Pt.locs, Pt.cells, Pt.slots] at Xg292 lg292 yg292 zg292 stg292 hQg292
    subst lg292 yg292 zg292
    obtain ⟨rfl, Ng292q, eg292⟩ := hQg292
    have Ng292 := Fr.app Ng276 Ng292q
    refine own_st (stg292) ?_
    have c295 : (((6 : Int32) < v80) ∧ ((a140 (6 : Int32).toNatClampNeg) = v84)) ∨ (¬ ((6 : Int32) < v80) ∧ (((6 : Int32) < (v80 + (1 : Int32))) ∨ ((a140 (6 : Int32).toNatClampNeg) = v84))) := by
      rcases hat with h | h | h | h <;> (rw [ha140, h]; first | exact Or.inr ⟨by decide, Or.inl (by decide)⟩ | (refine Or.inl ⟨by decide, ?_⟩; simp +decide [hfill]) | (refine Or.inr ⟨by decide, Or.inr ?_⟩; simp +decide [hfill]))
    refine own_st (B := Tg292.setTop (mkF m 308 #[.val (.int p0), .val (.int p1), .val (.int p2), .val (.int p3), .val (.int v3), .val (.int v9), .val (.int v21), .val (.int v80), .val (.int v84), .val (.ref b88), .val (.int (1 : Int32)), .val (.int (1 : Int32)), .unset, .unset, .unset, .unset, .unset] [(.int v84), (.int (1 : Int32)), (.int v80), (.int (7 : Int32)), (.ref b88)])) (fun target kt => ?_) ?_
    · show Steps p.tables e below (Tg292.setTop (mkF m 295 #[.val (.int p0), .val (.int p1), .val (.int p2), .val (.int p3), .val (.int v3), .val (.int v9), .val (.int v21), .val (.int v80), .val (.int v84), .val (.ref b88), .val (.int (1 : Int32)), .val (.int (1 : Int32)), .unset, .unset, .unset, .unset, .unset] [(.int (own_b ((((6 : Int32) < v80) ∧ ((a140 (6 : Int32).toNatClampNeg) = v84)) ∨ (¬ ((6 : Int32) < v80) ∧ (((6 : Int32) < (v80 + (1 : Int32))) ∨ ((a140 (6 : Int32).toNatClampNeg) = v84))))))])) target
      refine XS.ifNo Xg292.here hx rfl (hb hby at_295) rfl ((if0 _ _).trans (feq (own_bn0 rfl c295)).1) ?_
      show Steps p.tables e below (Tg292.setTop (mkF m 298 #[.val (.int p0), .val (.int p1), .val (.int p2), .val (.int p3), .val (.int v3), .val (.int v9), .val (.int v21), .val (.int v80), .val (.int v84), .val (.ref b88), .val (.int (1 : Int32)), .val (.int (1 : Int32)), .unset, .unset, .unset, .unset, .unset] [])) target
      refine XS.aload Xg292.here hx rfl (hb hby at_298) rfl rfl ?_
      show Steps p.tables e below (Tg292.setTop (mkF m 300 #[.val (.int p0), .val (.int p1), .val (.int p2), .val (.int p3), .val (.int v3), .val (.int v9), .val (.int v21), .val (.int v80), .val (.int v84), .val (.ref b88), .val (.int (1 : Int32)), .val (.int (1 : Int32)), .unset, .unset, .unset, .unset, .unset] [(.ref b88)])) target
      refine XS.bipush Xg292.here hx rfl (hb hby at_300) ?_
      show Steps p.tables e below (Tg292.setTop (mkF m 302 #[.val (.int p0), .val (.int p1), .val (.int p2), .val (.int p3), .val (.int v3), .val (.int v9), .val (.int v21), .val (.int v80), .val (.int v84), .val (.ref b88), .val (.int (1 : Int32)), .val (.int (1 : Int32)), .unset, .unset, .unset, .unset, .unset] [(.int (7 : Int32)), (.ref b88)])) target
      refine XS.iload Xg292.here hx rfl (hb hby at_302) rfl ?_
      show Steps p.tables e below (Tg292.setTop (mkF m 304 #[.val (.int p0), .val (.int p1), .val (.int p2), .val (.int p3), .val (.int v3), .val (.int v9), .val (.int v21), .val (.int v80), .val (.int v84), .val (.ref b88), .val (.int (1 : Int32)), .val (.int (1 : Int32)), .unset, .unset, .unset, .unset, .unset] [(.int v80), (.int (7 : Int32)), (.ref b88)])) target
      refine XS.iload Xg292.here hx rfl (hb hby at_304) rfl ?_
      show Steps p.tables e below (Tg292.setTop (mkF m 306 #[.val (.int p0), .val (.int p1), .val (.int p2), .val (.int p3), .val (.int v3), .val (.int v9), .val (.int v21), .val (.int v80), .val (.int v84), .val (.ref b88), .val (.int (1 : Int32)), .val (.int (1 : Int32)), .unset, .unset, .unset, .unset, .unset] [(.int (1 : Int32)), (.int v80), (.int (7 : Int32)), (.ref b88)])) target
      refine XS.iload Xg292.here hx rfl (hb hby at_306) rfl ?_
      exact kt
    obtain ⟨_, _, ⟨Tg308, Lg308, kg308, ng308⟩, -, Xg308, ⟨Lcg308, hQg308, lg308, yg308, zg308⟩, stg308⟩ := Jvm.LawKit.callS Xg292 hx (y := (⟨"com/example/psyche/psyche/XmlCharsEncodePinLaw", "same", "([BIIIB)Z"⟩ : MethodName)) hown (mvT hZ (hw _ (List.mem_of_getElem? (i := 9) rfl))) (mvT hZ (hw _ (List.mem_of_getElem? (i := 10) rfl))) (mvT hZ (hw _ (List.mem_of_getElem? (i := 11) rfl))) (mvT hZ (hw _ (List.mem_of_getElem? (i := 12) rfl))) (by decide) (backOf (W := 0) (own_rm2 l Z a0 hw [] b88 (7 : Int32) v80 (1 : Int32) v84 a140 Tg140.heap n0 Zz_9 F_18 (show ¬ (7 : Int32) < 0 ∧ (7 : Int32).toNatClampNeg < 8 from (by decide))) hZ (hw _ (List.mem_of_getElem? (i := 12) rfl)) (hw _ (List.mem_of_getElem? (i := 11) rfl)) (by decide) (by decide)) (g := (mkF m 308 #[.val (.int p0), .val (.int p1), .val (.int p2), .val (.int p3), .val (.int v3), .val (.int v9), .val (.int v21), .val (.int v80), .val (.int v84), .val (.ref b88), .val (.int (1 : Int32)), .val (.int (1 : Int32)), .unset, .unset, .unset, .unset, .unset] [(.int v84), (.int (1 : Int32)), (.int v80), (.int (7 : Int32)), (.ref b88)])) rfl (by rw [hml]; rfl) (argsL := [(.ref b88), (.int (7 : Int32)), (.int v80), (.int (1 : Int32)), (.int v84)]) (rest := []) (lenOf own_pd1 rfl) rfl (by show 2 * 0 + _ ≤ _; exact Nat.le_of_eq rfl) (hb hby at_308) (fun _ _ => ⟨rfl, eg292, (by decide : 1 + 0 ≤ _), (by decide : 8 + 0 ≤ _)⟩)
    dsimp only [Pt.U, Pt.locs, Pt.cells, Pt.slots] at Xg308 lg308 yg308 zg308 stg308 hQg308
    subst lg308 yg308 zg308
    obtain ⟨rfl, Ng308q, eg308⟩ := hQg308
    have Ng308 := Fr.app Ng292 Ng308q
    refine own_st (stg308) ?_
    have c311 : (((7 : Int32) < v80) ∧ ((a140 (7 : Int32).toNatClampNeg) = v84)) ∨ (¬ ((7 : Int32) < v80) ∧ (((7 : Int32) < (v80 + (1 : Int32))) ∨ ((a140 (7 : Int32).toNatClampNeg) = v84))) := by
      rcases hat with h | h | h | h <;> (rw [ha140, h]; first | exact Or.inr ⟨by decide, Or.inl (by decide)⟩ | (refine Or.inl ⟨by decide, ?_⟩; simp +decide [hfill]) | (refine Or.inr ⟨by decide, Or.inr ?_⟩; simp +decide [hfill]))
    refine own_st (B := Tg308.setTop (mkF m 328 #[.val (.int p0), .val (.int p1), .val (.int p2), .val (.int p3), .val (.int v3), .val (.int v9), .val (.int v21), .val (.int v80), .val (.int v84), .val (.ref b88), .val (.int (1 : Int32)), .val (.int (1 : Int32)), .val (.int (1 : Int32)), .unset, .unset, .unset, .unset] [])) (fun target kt => ?_) ?_
    · show Steps p.tables e below (Tg308.setTop (mkF m 311 #[.val (.int p0), .val (.int p1), .val (.int p2), .val (.int p3), .val (.int v3), .val (.int v9), .val (.int v21), .val (.int v80), .val (.int v84), .val (.ref b88), .val (.int (1 : Int32)), .val (.int (1 : Int32)), .unset, .unset, .unset, .unset, .unset] [(.int (own_b ((((7 : Int32) < v80) ∧ ((a140 (7 : Int32).toNatClampNeg) = v84)) ∨ (¬ ((7 : Int32) < v80) ∧ (((7 : Int32) < (v80 + (1 : Int32))) ∨ ((a140 (7 : Int32).toNatClampNeg) = v84))))))])) target
      refine XS.ifNo Xg308.here hx rfl (hb hby at_311) rfl ((if0 _ _).trans (feq (own_bn0 rfl c311)).1) ?_
      show Steps p.tables e below (Tg308.setTop (mkF m 314 #[.val (.int p0), .val (.int p1), .val (.int p2), .val (.int p3), .val (.int v3), .val (.int v9), .val (.int v21), .val (.int v80), .val (.int v84), .val (.ref b88), .val (.int (1 : Int32)), .val (.int (1 : Int32)), .unset, .unset, .unset, .unset, .unset] [])) target
      refine XS.iconst Xg308.here hx rfl (hb hby at_314) ?_
      show Steps p.tables e below (Tg308.setTop (mkF m 315 #[.val (.int p0), .val (.int p1), .val (.int p2), .val (.int p3), .val (.int v3), .val (.int v9), .val (.int v21), .val (.int v80), .val (.int v84), .val (.ref b88), .val (.int (1 : Int32)), .val (.int (1 : Int32)), .unset, .unset, .unset, .unset, .unset] [(.int (1 : Int32))])) target
      refine XS.goto Xg308.here hx rfl (pc0 := 315) (pc' := 319) rfl (hb hby at_315) (by decide) (by decide) ?_
      show Steps p.tables e below (Tg308.setTop (mkF m 319 #[.val (.int p0), .val (.int p1), .val (.int p2), .val (.int p3), .val (.int v3), .val (.int v9), .val (.int v21), .val (.int v80), .val (.int v84), .val (.ref b88), .val (.int (1 : Int32)), .val (.int (1 : Int32)), .unset, .unset, .unset, .unset, .unset] [(.int (1 : Int32))])) target
      refine XS.istore Xg308.here hx rfl (hb hby at_319) rfl (l' := #[.val (.int p0), .val (.int p1), .val (.int p2), .val (.int p3), .val (.int v3), .val (.int v9), .val (.int v21), .val (.int v80), .val (.int v84), .val (.ref b88), .val (.int (1 : Int32)), .val (.int (1 : Int32)), .val (.int (1 : Int32)), .unset, .unset, .unset, .unset]) rfl ?_
      show Steps p.tables e below (Tg308.setTop (mkF m 321 #[.val (.int p0), .val (.int p1), .val (.int p2), .val (.int p3), .val (.int v3), .val (.int v9), .val (.int v21), .val (.int v80), .val (.int v84), .val (.ref b88), .val (.int (1 : Int32)), .val (.int (1 : Int32)), .val (.int (1 : Int32)), .unset, .unset, .unset, .unset] [])) target
      refine XS.iload Xg308.here hx rfl (hb hby at_321) rfl ?_
      show Steps p.tables e below (Tg308.setTop (mkF m 323 #[.val (.int p0), .val (.int p1), .val (.int p2), .val (.int p3), .val (.int v3), .val (.int v9), .val (.int v21), .val (.int v80), .val (.int v84), .val (.ref b88), .val (.int (1 : Int32)), .val (.int (1 : Int32)), .val (.int (1 : Int32)), .unset, .unset, .unset, .unset] [(.int (1 : Int32))])) target
      refine XS.ifYes Xg308.here hx rfl (pc0 := 323) (pc' := 328) rfl (hb hby at_323) rfl ((if0 _ _).trans (feq (by decide : ¬ ((1 : Int32) = (0 : Int32)))).2) (by decide) (by decide) ?_
      exact kt
    have hin := own_in v80 hat
    have hb0 : a140 (v80).toNatClampNeg = nar .byte (v21.toInt8.toInt32) := by
      rw [ha140]
      rcases hat with h | h | h | h <;> (rw [h]; simp +decide)
    refine own_st (B := Tg308.setTop (mkF m 332 #[.val (.int p0), .val (.int p1), .val (.int p2), .val (.int p3), .val (.int v3), .val (.int v9), .val (.int v21), .val (.int v80), .val (.int v84), .val (.ref b88), .val (.int (1 : Int32)), .val (.int (1 : Int32)), .val (.int (1 : Int32)), .unset, .unset, .unset, .unset] [(.int v80), (.ref b88)])) (fun target kt => ?_) ?_
    · show Steps p.tables e below (Tg308.setTop (mkF m 328 #[.val (.int p0), .val (.int p1), .val (.int p2), .val (.int p3), .val (.int v3), .val (.int v9), .val (.int v21), .val (.int v80), .val (.int v84), .val (.ref b88), .val (.int (1 : Int32)), .val (.int (1 : Int32)), .val (.int (1 : Int32)), .unset, .unset, .unset, .unset] [])) target
      refine XS.aload Xg308.here hx rfl (hb hby at_328) rfl rfl ?_
      show Steps p.tables e below (Tg308.setTop (mkF m 330 #[.val (.int p0), .val (.int p1), .val (.int p2), .val (.int p3), .val (.int v3), .val (.int v9), .val (.int v21), .val (.int v80), .val (.int v84), .val (.ref b88), .val (.int (1 : Int32)), .val (.int (1 : Int32)), .val (.int (1 : Int32)), .unset, .unset, .unset, .unset] [(.ref b88)])) target
      refine XS.iload Xg308.here hx rfl (hb hby at_330) rfl ?_
      exact kt
    obtain ⟨clg332, Arg332, Szg332, Atg332⟩ := id F_18
    have hing332 : ¬ (v80 < 0 ∨ clg332.slots.size ≤ (v80).toNatClampNeg) := own_inb Szg332 hin.1
    have hatg332 : clg332.slots[(v80).toNatClampNeg]? = some (.int (a140 (v80).toNatClampNeg)) := own_RayB_nth Atg332 Szg332 hing332
    refine own_st (B := Tg308.setTop (mkF m 333 #[.val (.int p0), .val (.int p1), .val (.int p2), .val (.int p3), .val (.int v3), .val (.int v9), .val (.int v21), .val (.int v80), .val (.int v84), .val (.ref b88), .val (.int (1 : Int32)), .val (.int (1 : Int32)), .val (.int (1 : Int32)), .unset, .unset, .unset, .unset] [(.int (a140 (v80).toNatClampNeg))])) (fun target kt => ?_) ?_
    · refine Xg308.baloadBytes hx (j := v80) (v := (.int (a140 (v80).toNatClampNeg))) (by first | exact Arg332.1 | (rw [eg308]; exact Arg332.1)) (State.isArrayOf_alike hZ.alike Arg332.2.1) Arg332.2.2 hing332 hatg332 (g := (mkF m 332 #[.val (.int p0), .val (.int p1), .val (.int p2), .val (.int p3), .val (.int v3), .val (.int v9), .val (.int v21), .val (.int v80), .val (.int v84), .val (.ref b88), .val (.int (1 : Int32)), .val (.int (1 : Int32)), .val (.int (1 : Int32)), .unset, .unset, .unset, .unset] [(.int v80), (.ref b88)])) rfl rfl (hb hby at_332) _ ?_
      exact kt
    obtain ⟨v337, hv337⟩ : ∃ z : Int32, z = ((a140 (v80).toNatClampNeg) &&& (255 : Int32)) := ⟨_, rfl⟩
    refine own_st (B := Tg308.setTop (mkF m 339 #[.val (.int p0), .val (.int p1), .val (.int p2), .val (.int p3), .val (.int v3), .val (.int v9), .val (.int v21), .val (.int v80), .val (.int v84), .val (.ref b88), .val (.int (1 : Int32)), .val (.int (1 : Int32)), .val (.int (1 : Int32)), .val (.int v337), .unset, .unset, .unset] [])) (fun target kt => ?_) ?_
    · show Steps p.tables e below (Tg308.setTop (mkF m 333 #[.val (.int p0), .val (.int p1), .val (.int p2), .val (.int p3), .val (.int v3), .val (.int v9), .val (.int v21), .val (.int v80), .val (.int v84), .val (.ref b88), .val (.int (1 : Int32)), .val (.int (1 : Int32)), .val (.int (1 : Int32)), .unset, .unset, .unset, .unset] [(.int (a140 (v80).toNatClampNeg))])) target
      refine XS.sipush Xg308.here hx rfl (hb hby at_333) ?_
      show Steps p.tables e below (Tg308.setTop (mkF m 336 #[.val (.int p0), .val (.int p1), .val (.int p2), .val (.int p3), .val (.int v3), .val (.int v9), .val (.int v21), .val (.int v80), .val (.int v84), .val (.ref b88), .val (.int (1 : Int32)), .val (.int (1 : Int32)), .val (.int (1 : Int32)), .unset, .unset, .unset, .unset] [(.int (255 : Int32)), (.int (a140 (v80).toNatClampNeg))])) target
      refine XS.iand Xg308.here hx rfl (hb hby at_336) rfl ?_
      show Steps p.tables e below (Tg308.setTop (mkF m 337 #[.val (.int p0), .val (.int p1), .val (.int p2), .val (.int p3), .val (.int v3), .val (.int v9), .val (.int v21), .val (.int v80), .val (.int v84), .val (.ref b88), .val (.int (1 : Int32)), .val (.int (1 : Int32)), .val (.int (1 : Int32)), .unset, .unset, .unset, .unset] [(.int ((a140 (v80).toNatClampNeg) &&& (255 : Int32)))])) target
      refine XS.istore Xg308.here hx rfl (hb hby at_337) rfl (l' := #[.val (.int p0), .val (.int p1), .val (.int p2), .val (.int p3), .val (.int v3), .val (.int v9), .val (.int v21), .val (.int v80), .val (.int v84), .val (.ref b88), .val (.int (1 : Int32)), .val (.int (1 : Int32)), .val (.int (1 : Int32)), .val (.int v337), .unset, .unset, .unset]) (by subst hv337; rfl) ?_
      exact kt
    refine own_st (B := Tg308.setTop (mkF m 349 #[.val (.int p0), .val (.int p1), .val (.int p2), .val (.int p3), .val (.int v3), .val (.int v9), .val (.int v21), .val (.int v80), .val (.int v84), .val (.ref b88), .val (.int (1 : Int32)), .val (.int (1 : Int32)), .val (.int (1 : Int32)), .val (.int v337), .unset, .unset, .unset] [(.int v21), (.int v337)])) (fun target kt => ?_) ?_
    · show Steps p.tables e below (Tg308.setTop (mkF m 339 #[.val (.int p0), .val (.int p1), .val (.int p2), .val (.int p3), .val (.int v3), .val (.int v9), .val (.int v21), .val (.int v80), .val (.int v84), .val (.ref b88), .val (.int (1 : Int32)), .val (.int (1 : Int32)), .val (.int (1 : Int32)), .val (.int v337), .unset, .unset, .unset] [])) target
      refine XS.iload Xg308.here hx rfl (hb hby at_339) rfl ?_
      show Steps p.tables e below (Tg308.setTop (mkF m 341 #[.val (.int p0), .val (.int p1), .val (.int p2), .val (.int p3), .val (.int v3), .val (.int v9), .val (.int v21), .val (.int v80), .val (.int v84), .val (.ref b88), .val (.int (1 : Int32)), .val (.int (1 : Int32)), .val (.int (1 : Int32)), .val (.int v337), .unset, .unset, .unset] [(.int (1 : Int32))])) target
      refine XS.iconst Xg308.here hx rfl (hb hby at_341) ?_
      show Steps p.tables e below (Tg308.setTop (mkF m 342 #[.val (.int p0), .val (.int p1), .val (.int p2), .val (.int p3), .val (.int v3), .val (.int v9), .val (.int v21), .val (.int v80), .val (.int v84), .val (.ref b88), .val (.int (1 : Int32)), .val (.int (1 : Int32)), .val (.int (1 : Int32)), .val (.int v337), .unset, .unset, .unset] [(.int (1 : Int32)), (.int (1 : Int32))])) target
      refine XS.icmpNo Xg308.here hx rfl (hb hby at_342) rfl (teq (by decide : (1 : Int32) = (1 : Int32))).2 ?_
      show Steps p.tables e below (Tg308.setTop (mkF m 345 #[.val (.int p0), .val (.int p1), .val (.int p2), .val (.int p3), .val (.int v3), .val (.int v9), .val (.int v21), .val (.int v80), .val (.int v84), .val (.ref b88), .val (.int (1 : Int32)), .val (.int (1 : Int32)), .val (.int (1 : Int32)), .val (.int v337), .unset, .unset, .unset] [])) target
      refine XS.iload Xg308.here hx rfl (hb hby at_345) rfl ?_
      show Steps p.tables e below (Tg308.setTop (mkF m 347 #[.val (.int p0), .val (.int p1), .val (.int p2), .val (.int p3), .val (.int v3), .val (.int v9), .val (.int v21), .val (.int v80), .val (.int v84), .val (.ref b88), .val (.int (1 : Int32)), .val (.int (1 : Int32)), .val (.int (1 : Int32)), .val (.int v337), .unset, .unset, .unset] [(.int v337)])) target
      refine XS.iload Xg308.here hx rfl (hb hby at_347) rfl ?_
      exact kt
    have c349 : v337 = v21 := by
      rw [hv337, hb0]
      exact own_byte _ hC.1 (by omega)
    refine own_st (B := Tg308.setTop (mkF m 357 #[.val (.int p0), .val (.int p1), .val (.int p2), .val (.int p3), .val (.int v3), .val (.int v9), .val (.int v21), .val (.int v80), .val (.int v84), .val (.ref b88), .val (.int (1 : Int32)), .val (.int (1 : Int32)), .val (.int (1 : Int32)), .val (.int v337), .unset, .unset, .unset] [(.int (1 : Int32))])) (fun target kt => ?_) ?_
    · show Steps p.tables e below (Tg308.setTop (mkF m 349 #[.val (.int p0), .val (.int p1), .val (.int p2), .val (.int p3), .val (.int v3), .val (.int v9), .val (.int v21), .val (.int v80), .val (.int v84), .val (.ref b88), .val (.int (1 : Int32)), .val (.int (1 : Int32)), .val (.int (1 : Int32)), .val (.int v337), .unset, .unset, .unset] [(.int v21), (.int v337)])) target
      refine XS.icmpNo Xg308.here hx rfl (hb hby at_349) rfl (teq c349).2 ?_
      show Steps p.tables e below (Tg308.setTop (mkF m 352 #[.val (.int p0), .val (.int p1), .val (.int p2), .val (.int p3), .val (.int v3), .val (.int v9), .val (.int v21), .val (.int v80), .val (.int v84), .val (.ref b88), .val (.int (1 : Int32)), .val (.int (1 : Int32)), .val (.int (1 : Int32)), .val (.int v337), .unset, .unset, .unset] [])) target
      refine XS.iconst Xg308.here hx rfl (hb hby at_352) ?_
      show Steps p.tables e below (Tg308.setTop (mkF m 353 #[.val (.int p0), .val (.int p1), .val (.int p2), .val (.int p3), .val (.int v3), .val (.int v9), .val (.int v21), .val (.int v80), .val (.int v84), .val (.ref b88), .val (.int (1 : Int32)), .val (.int (1 : Int32)), .val (.int (1 : Int32)), .val (.int v337), .unset, .unset, .unset] [(.int (1 : Int32))])) target
      refine XS.goto Xg308.here hx rfl (pc0 := 353) (pc' := 357) rfl (hb hby at_353) (by decide) (by decide) ?_
      exact kt
    obtain ⟨fs, hr, hrun, hended, hW, hsame⟩ := Xg308.leave (v := some (.int (1 : Int32))) (fun h => by rw [Bd.returns] at h; cases h)
    have hend : Steps p.tables e below (Tg308.setTop (mkF m 357 #[.val (.int p0), .val (.int p1), .val (.int p2), .val (.int p3), .val (.int v3), .val (.int v9), .val (.int v21), .val (.int v80), .val (.int v84), .val (.ref b88), .val (.int (1 : Int32)), .val (.int (1 : Int32)), .val (.int (1 : Int32)), .val (.int v337), .unset, .unset, .unset] [(.int (1 : Int32))])) (Tg308.setFrames fs) := by
      exact retN Xg308 hx (t := .boolean) Bd.returns (by simp) (hb hby at_357) hr
    refine own_fin hend ⟨_, hrun, hended, _, _, rfl, ?_, ⟨_, rfl⟩, hW, hsame.mono (by decide) (by decide)⟩
    show own_Q0 Z p0 p1 p2 p3 h0 n0 _ Tg308.heap _
    rw [eg308]
    exact ⟨rfl, Ng308⟩
  · refine own_st (B := s₁.setTop (mkF m 29 #[.val (.int p0), .val (.int p1), .val (.int p2), .val (.int p3), .val (.int v3), .val (.int v9), .unset, .unset, .unset, .unset, .unset, .unset, .unset, .unset, .unset, .unset, .unset] [(.int (1 : Int32)), (.int v3)])) (fun target kt => ?_) ?_
    · show Steps p.tables e below (s₁.setTop (mkF m 13 #[.val (.int p0), .val (.int p1), .val (.int p2), .val (.int p3), .val (.int v3), .val (.int v9), .unset, .unset, .unset, .unset, .unset, .unset, .unset, .unset, .unset, .unset, .unset] [(.int v3)])) target
      refine XS.ifYes X0.here hx rfl (pc0 := 13) (pc' := 26) rfl (hb hby at_13) rfl ((if0 _ _).trans (feq c13).2) (by decide) (by decide) ?_
      show Steps p.tables e below (s₁.setTop (mkF m 26 #[.val (.int p0), .val (.int p1), .val (.int p2), .val (.int p3), .val (.int v3), .val (.int v9), .unset, .unset, .unset, .unset, .unset, .unset, .unset, .unset, .unset, .unset, .unset] [])) target
      refine XS.iload X0.here hx rfl (hb hby at_26) rfl ?_
      show Steps p.tables e below (s₁.setTop (mkF m 28 #[.val (.int p0), .val (.int p1), .val (.int p2), .val (.int p3), .val (.int v3), .val (.int v9), .unset, .unset, .unset, .unset, .unset, .unset, .unset, .unset, .unset, .unset, .unset] [(.int v3)])) target
      refine XS.iconst X0.here hx rfl (hb hby at_28) ?_
      exact kt
    by_cases c29 : v3 = (1 : Int32)
    · obtain ⟨v42, hv42⟩ : ∃ z : Int32, z = ((128 : Int32) + (v9 % (1920 : Int32))) := ⟨_, rfl⟩
      refine own_st (B := s₁.setTop (mkF m 77 #[.val (.int p0), .val (.int p1), .val (.int p2), .val (.int p3), .val (.int v3), .val (.int v9), .val (.int v42), .unset, .unset, .unset, .unset, .unset, .unset, .unset, .unset, .unset, .unset] [])) (fun target kt => ?_) ?_
      · show Steps p.tables e below (s₁.setTop (mkF m 29 #[.val (.int p0), .val (.int p1), .val (.int p2), .val (.int p3), .val (.int v3), .val (.int v9), .unset, .unset, .unset, .unset, .unset, .unset, .unset, .unset, .unset, .unset, .unset] [(.int (1 : Int32)), (.int v3)])) target
        refine XS.icmpNo X0.here hx rfl (hb hby at_29) rfl (teq c29).2 ?_
        show Steps p.tables e below (s₁.setTop (mkF m 32 #[.val (.int p0), .val (.int p1), .val (.int p2), .val (.int p3), .val (.int v3), .val (.int v9), .unset, .unset, .unset, .unset, .unset, .unset, .unset, .unset, .unset, .unset, .unset] [])) target
        refine XS.sipush X0.here hx rfl (hb hby at_32) ?_
        show Steps p.tables e below (s₁.setTop (mkF m 35 #[.val (.int p0), .val (.int p1), .val (.int p2), .val (.int p3), .val (.int v3), .val (.int v9), .unset, .unset, .unset, .unset, .unset, .unset, .unset, .unset, .unset, .unset, .unset] [(.int (128 : Int32))])) target
        refine XS.iload X0.here hx rfl (hb hby at_35) rfl ?_
        show Steps p.tables e below (s₁.setTop (mkF m 37 #[.val (.int p0), .val (.int p1), .val (.int p2), .val (.int p3), .val (.int v3), .val (.int v9), .unset, .unset, .unset, .unset, .unset, .unset, .unset, .unset, .unset, .unset, .unset] [(.int v9), (.int (128 : Int32))])) target
        refine XS.sipush X0.here hx rfl (hb hby at_37) ?_
        show Steps p.tables e below (s₁.setTop (mkF m 40 #[.val (.int p0), .val (.int p1), .val (.int p2), .val (.int p3), .val (.int v3), .val (.int v9), .unset, .unset, .unset, .unset, .unset, .unset, .unset, .unset, .unset, .unset, .unset] [(.int (1920 : Int32)), (.int v9), (.int (128 : Int32))])) target
        refine iremM X0 hx rfl (hb hby at_40) rfl (by decide) ?_
        show Steps p.tables e below (s₁.setTop (mkF m 41 #[.val (.int p0), .val (.int p1), .val (.int p2), .val (.int p3), .val (.int v3), .val (.int v9), .unset, .unset, .unset, .unset, .unset, .unset, .unset, .unset, .unset, .unset, .unset] [(.int (v9 % (1920 : Int32))), (.int (128 : Int32))])) target
        refine XS.iadd X0.here hx rfl (hb hby at_41) rfl ?_
        show Steps p.tables e below (s₁.setTop (mkF m 42 #[.val (.int p0), .val (.int p1), .val (.int p2), .val (.int p3), .val (.int v3), .val (.int v9), .unset, .unset, .unset, .unset, .unset, .unset, .unset, .unset, .unset, .unset, .unset] [(.int ((128 : Int32) + (v9 % (1920 : Int32))))])) target
        refine XS.istore X0.here hx rfl (hb hby at_42) rfl (l' := #[.val (.int p0), .val (.int p1), .val (.int p2), .val (.int p3), .val (.int v3), .val (.int v9), .val (.int v42), .unset, .unset, .unset, .unset, .unset, .unset, .unset, .unset, .unset, .unset]) (by subst hv42; rfl) ?_
        show Steps p.tables e below (s₁.setTop (mkF m 44 #[.val (.int p0), .val (.int p1), .val (.int p2), .val (.int p3), .val (.int v3), .val (.int v9), .val (.int v42), .unset, .unset, .unset, .unset, .unset, .unset, .unset, .unset, .unset, .unset] [])) target
        refine XS.goto X0.here hx rfl (pc0 := 44) (pc' := 77) rfl (hb hby at_44) (by decide) (by decide) ?_
        exact kt
      have hC : 128 ≤ v42.toInt ∧ v42.toInt < 2048 := by
        exact own_cN v9 _ _ _ 128 1920 (by rw [hv9]; exact own_pos p0) (by decide) (by decide) (by decide) (by decide) (by decide) hv42
      have hR1 : ¬ (v42 < (128 : Int32)) := by rw [Int32.lt_iff_toInt_lt, show (128 : Int32).toInt = 128 by decide]; omega
      have hR2 : (v42 < (2048 : Int32)) := by rw [Int32.lt_iff_toInt_lt, show (2048 : Int32).toInt = 2048 by decide]; omega
      have hR3 : (v42 < (65536 : Int32)) := by rw [Int32.lt_iff_toInt_lt, show (65536 : Int32).toInt = 65536 by decide]; omega
      obtain ⟨v80, hv80⟩ : ∃ z : Int32, z = (p2 &&& (3 : Int32)) := ⟨_, rfl⟩
      obtain ⟨v84, hv84⟩ : ∃ z : Int32, z = (p3.toInt8.toInt32) := ⟨_, rfl⟩
      refine own_st (B := s₁.setTop (mkF m 88 #[.val (.int p0), .val (.int p1), .val (.int p2), .val (.int p3), .val (.int v3), .val (.int v9), .val (.int v42), .val (.int v80), .val (.int v84), .unset, .unset, .unset, .unset, .unset, .unset, .unset, .unset] [(.int (8 : Int32))])) (fun target kt => ?_) ?_
      · show Steps p.tables e below (s₁.setTop (mkF m 77 #[.val (.int p0), .val (.int p1), .val (.int p2), .val (.int p3), .val (.int v3), .val (.int v9), .val (.int v42), .unset, .unset, .unset, .unset, .unset, .unset, .unset, .unset, .unset, .unset] [])) target
        refine XS.iloadN X0.here hx rfl (hb hby at_77) rfl ?_
        show Steps p.tables e below (s₁.setTop (mkF m 78 #[.val (.int p0), .val (.int p1), .val (.int p2), .val (.int p3), .val (.int v3), .val (.int v9), .val (.int v42), .unset, .unset, .unset, .unset, .unset, .unset, .unset, .unset, .unset, .unset] [(.int p2)])) target
        refine XS.iconst X0.here hx rfl (hb hby at_78) ?_
        show Steps p.tables e below (s₁.setTop (mkF m 79 #[.val (.int p0), .val (.int p1), .val (.int p2), .val (.int p3), .val (.int v3), .val (.int v9), .val (.int v42), .unset, .unset, .unset, .unset, .unset, .unset, .unset, .unset, .unset, .unset] [(.int (3 : Int32)), (.int p2)])) target
        refine XS.iand X0.here hx rfl (hb hby at_79) rfl ?_
        show Steps p.tables e below (s₁.setTop (mkF m 80 #[.val (.int p0), .val (.int p1), .val (.int p2), .val (.int p3), .val (.int v3), .val (.int v9), .val (.int v42), .unset, .unset, .unset, .unset, .unset, .unset, .unset, .unset, .unset, .unset] [(.int (p2 &&& (3 : Int32)))])) target
        refine XS.istore X0.here hx rfl (hb hby at_80) rfl (l' := #[.val (.int p0), .val (.int p1), .val (.int p2), .val (.int p3), .val (.int v3), .val (.int v9), .val (.int v42), .val (.int v80), .unset, .unset, .unset, .unset, .unset, .unset, .unset, .unset, .unset]) (by subst hv80; rfl) ?_
        show Steps p.tables e below (s₁.setTop (mkF m 82 #[.val (.int p0), .val (.int p1), .val (.int p2), .val (.int p3), .val (.int v3), .val (.int v9), .val (.int v42), .val (.int v80), .unset, .unset, .unset, .unset, .unset, .unset, .unset, .unset, .unset] [])) target
        refine XS.iloadN X0.here hx rfl (hb hby at_82) rfl ?_
        show Steps p.tables e below (s₁.setTop (mkF m 83 #[.val (.int p0), .val (.int p1), .val (.int p2), .val (.int p3), .val (.int v3), .val (.int v9), .val (.int v42), .val (.int v80), .unset, .unset, .unset, .unset, .unset, .unset, .unset, .unset, .unset] [(.int p3)])) target
        refine XS.i2b X0.here hx rfl (hb hby at_83) rfl ?_
        show Steps p.tables e below (s₁.setTop (mkF m 84 #[.val (.int p0), .val (.int p1), .val (.int p2), .val (.int p3), .val (.int v3), .val (.int v9), .val (.int v42), .val (.int v80), .unset, .unset, .unset, .unset, .unset, .unset, .unset, .unset, .unset] [(.int (p3.toInt8.toInt32))])) target
        refine XS.istore X0.here hx rfl (hb hby at_84) rfl (l' := #[.val (.int p0), .val (.int p1), .val (.int p2), .val (.int p3), .val (.int v3), .val (.int v9), .val (.int v42), .val (.int v80), .val (.int v84), .unset, .unset, .unset, .unset, .unset, .unset, .unset, .unset]) (by subst hv84; rfl) ?_
        show Steps p.tables e below (s₁.setTop (mkF m 86 #[.val (.int p0), .val (.int p1), .val (.int p2), .val (.int p3), .val (.int v3), .val (.int v9), .val (.int v42), .val (.int v80), .val (.int v84), .unset, .unset, .unset, .unset, .unset, .unset, .unset, .unset] [])) target
        refine XS.bipush X0.here hx rfl (hb hby at_86) ?_
        exact kt
      obtain ⟨Tg88, hg88, kg88, Xg88, eg88, Eg88, Ag88, stg88⟩ := newP X0 hx hZ (hw _ (List.mem_of_getElem? (i := 3) rfl)) e0 (g := (mkF m 88 #[.val (.int p0), .val (.int p1), .val (.int p2), .val (.int p3), .val (.int v3), .val (.int v9), .val (.int v42), .val (.int v80), .val (.int v84), .unset, .unset, .unset, .unset, .unset, .unset, .unset, .unset] [(.int (8 : Int32))])) rfl (hb hby at_88) rfl (by decide) (cap := 8) (by decide) (by decide) (by decide) (by decide)
      obtain ⟨b88, gg88⟩ : ∃ z, z = h0.size := ⟨_, rfl⟩
      rw [← gg88] at Ag88 stg88
      refine own_st stg88 ?_
      have g_b88 : n0 ≤ b88 := Nat.le_trans Z0 (Nat.le_of_eq gg88.symm)
      have Zz : n0 ≤ hg88.size := Nat.le_trans Z0 Eg88.1
      have F : own_RayB Z hg88 b88 8 (fun _ => (0 : Int32)) := own_RayB_new Ag88 (by decide) (by decide)
      refine own_st (B := Tg88.setTop (mkF m 94 #[.val (.int p0), .val (.int p1), .val (.int p2), .val (.int p3), .val (.int v3), .val (.int v9), .val (.int v42), .val (.int v80), .val (.int v84), .unset, .unset, .unset, .unset, .unset, .unset, .unset, .unset] [(.int v84), (.int (0 : Int32)), (.ref b88), (.ref b88)])) (fun target kt => ?_) ?_
      · show Steps p.tables e below (Tg88.setTop (mkF m 90 #[.val (.int p0), .val (.int p1), .val (.int p2), .val (.int p3), .val (.int v3), .val (.int v9), .val (.int v42), .val (.int v80), .val (.int v84), .unset, .unset, .unset, .unset, .unset, .unset, .unset, .unset] [(.ref b88)])) target
        refine XS.dup Xg88.here hx rfl (hb hby at_90) rfl rfl ?_
        show Steps p.tables e below (Tg88.setTop (mkF m 91 #[.val (.int p0), .val (.int p1), .val (.int p2), .val (.int p3), .val (.int v3), .val (.int v9), .val (.int v42), .val (.int v80), .val (.int v84), .unset, .unset, .unset, .unset, .unset, .unset, .unset, .unset] [(.ref b88), (.ref b88)])) target
        refine XS.iconst Xg88.here hx rfl (hb hby at_91) ?_
        show Steps p.tables e below (Tg88.setTop (mkF m 92 #[.val (.int p0), .val (.int p1), .val (.int p2), .val (.int p3), .val (.int v3), .val (.int v9), .val (.int v42), .val (.int v80), .val (.int v84), .unset, .unset, .unset, .unset, .unset, .unset, .unset, .unset] [(.int (0 : Int32)), (.ref b88), (.ref b88)])) target
        refine XS.iload Xg88.here hx rfl (hb hby at_92) rfl ?_
        exact kt
      obtain ⟨clg94, Arg94, Szg94, -⟩ := id F
      have hing94 : ¬ ((0 : Int32) < 0 ∨ clg94.slots.size ≤ ((0 : Int32)).toNatClampNeg) := own_inb Szg94 (by decide)
      obtain ⟨Tg94, hg94, Xg94, eg94, Wg94, stg94⟩ := stB Xg88 hx hZ eg88 Arg94 (j := (0 : Int32)) hing94 (g := (mkF m 94 #[.val (.int p0), .val (.int p1), .val (.int p2), .val (.int p3), .val (.int v3), .val (.int v9), .val (.int v42), .val (.int v80), .val (.int v84), .unset, .unset, .unset, .unset, .unset, .unset, .unset, .unset] [(.int v84), (.int (0 : Int32)), (.ref b88), (.ref b88)])) rfl rfl (hb hby at_94)
      refine own_st stg94 ?_
      have Ng94 := Fr.snoc Xg94 N0 g_b88
      obtain ⟨a94, ha94⟩ : ∃ gz : Nat → Int32, gz = fun i => if i = 0 then (nar .byte v84) else (fun _ => (0 : Int32)) i := ⟨_, rfl⟩
      have Zz_1 : n0 ≤ hg94.size := Nat.le_trans Zz (Keep.of_wr Wg94).1
      have F_2 : own_RayB Z hg94 b88 8 a94 := by rw [ha94]; exact own_RayB_set F Wg94 (by decide) (fits_nar_byte _)
      refine own_st (B := Tg94.setTop (mkF m 99 #[.val (.int p0), .val (.int p1), .val (.int p2), .val (.int p3), .val (.int v3), .val (.int v9), .val (.int v42), .val (.int v80), .val (.int v84), .unset, .unset, .unset, .unset, .unset, .unset, .unset, .unset] [(.int v84), (.int (1 : Int32)), (.ref b88), (.ref b88)])) (fun target kt => ?_) ?_
      · show Steps p.tables e below (Tg94.setTop (mkF m 95 #[.val (.int p0), .val (.int p1), .val (.int p2), .val (.int p3), .val (.int v3), .val (.int v9), .val (.int v42), .val (.int v80), .val (.int v84), .unset, .unset, .unset, .unset, .unset, .unset, .unset, .unset] [(.ref b88)])) target
        refine XS.dup Xg94.here hx rfl (hb hby at_95) rfl rfl ?_
        show Steps p.tables e below (Tg94.setTop (mkF m 96 #[.val (.int p0), .val (.int p1), .val (.int p2), .val (.int p3), .val (.int v3), .val (.int v9), .val (.int v42), .val (.int v80), .val (.int v84), .unset, .unset, .unset, .unset, .unset, .unset, .unset, .unset] [(.ref b88), (.ref b88)])) target
        refine XS.iconst Xg94.here hx rfl (hb hby at_96) ?_
        show Steps p.tables e below (Tg94.setTop (mkF m 97 #[.val (.int p0), .val (.int p1), .val (.int p2), .val (.int p3), .val (.int v3), .val (.int v9), .val (.int v42), .val (.int v80), .val (.int v84), .unset, .unset, .unset, .unset, .unset, .unset, .unset, .unset] [(.int (1 : Int32)), (.ref b88), (.ref b88)])) target
        refine XS.iload Xg94.here hx rfl (hb hby at_97) rfl ?_
        exact kt
      obtain ⟨clg99, Arg99, Szg99, -⟩ := id F_2
      have hing99 : ¬ ((1 : Int32) < 0 ∨ clg99.slots.size ≤ ((1 : Int32)).toNatClampNeg) := own_inb Szg99 (by decide)
      obtain ⟨Tg99, hg99, Xg99, eg99, Wg99, stg99⟩ := stB Xg94 hx hZ eg94 Arg99 (j := (1 : Int32)) hing99 (g := (mkF m 99 #[.val (.int p0), .val (.int p1), .val (.int p2), .val (.int p3), .val (.int v3), .val (.int v9), .val (.int v42), .val (.int v80), .val (.int v84), .unset, .unset, .unset, .unset, .unset, .unset, .unset, .unset] [(.int v84), (.int (1 : Int32)), (.ref b88), (.ref b88)])) rfl rfl (hb hby at_99)
      refine own_st stg99 ?_
      have Ng99 := Fr.snoc Xg99 Ng94 g_b88
      obtain ⟨a99, ha99⟩ : ∃ gz : Nat → Int32, gz = fun i => if i = 1 then (nar .byte v84) else a94 i := ⟨_, rfl⟩
      have Zz_2 : n0 ≤ hg99.size := Nat.le_trans Zz_1 (Keep.of_wr Wg99).1
      have F_4 : own_RayB Z hg99 b88 8 a99 := by rw [ha99]; exact own_RayB_set F_2 Wg99 (by decide) (fits_nar_byte _)
      refine own_st (B := Tg99.setTop (mkF m 104 #[.val (.int p0), .val (.int p1), .val (.int p2), .val (.int p3), .val (.int v3), .val (.int v9), .val (.int v42), .val (.int v80), .val (.int v84), .unset, .unset, .unset, .unset, .unset, .unset, .unset, .unset] [(.int v84), (.int (2 : Int32)), (.ref b88), (.ref b88)])) (fun target kt => ?_) ?_
      · show Steps p.tables e below (Tg99.setTop (mkF m 100 #[.val (.int p0), .val (.int p1), .val (.int p2), .val (.int p3), .val (.int v3), .val (.int v9), .val (.int v42), .val (.int v80), .val (.int v84), .unset, .unset, .unset, .unset, .unset, .unset, .unset, .unset] [(.ref b88)])) target
        refine XS.dup Xg99.here hx rfl (hb hby at_100) rfl rfl ?_
        show Steps p.tables e below (Tg99.setTop (mkF m 101 #[.val (.int p0), .val (.int p1), .val (.int p2), .val (.int p3), .val (.int v3), .val (.int v9), .val (.int v42), .val (.int v80), .val (.int v84), .unset, .unset, .unset, .unset, .unset, .unset, .unset, .unset] [(.ref b88), (.ref b88)])) target
        refine XS.iconst Xg99.here hx rfl (hb hby at_101) ?_
        show Steps p.tables e below (Tg99.setTop (mkF m 102 #[.val (.int p0), .val (.int p1), .val (.int p2), .val (.int p3), .val (.int v3), .val (.int v9), .val (.int v42), .val (.int v80), .val (.int v84), .unset, .unset, .unset, .unset, .unset, .unset, .unset, .unset] [(.int (2 : Int32)), (.ref b88), (.ref b88)])) target
        refine XS.iload Xg99.here hx rfl (hb hby at_102) rfl ?_
        exact kt
      obtain ⟨clg104, Arg104, Szg104, -⟩ := id F_4
      have hing104 : ¬ ((2 : Int32) < 0 ∨ clg104.slots.size ≤ ((2 : Int32)).toNatClampNeg) := own_inb Szg104 (by decide)
      obtain ⟨Tg104, hg104, Xg104, eg104, Wg104, stg104⟩ := stB Xg99 hx hZ eg99 Arg104 (j := (2 : Int32)) hing104 (g := (mkF m 104 #[.val (.int p0), .val (.int p1), .val (.int p2), .val (.int p3), .val (.int v3), .val (.int v9), .val (.int v42), .val (.int v80), .val (.int v84), .unset, .unset, .unset, .unset, .unset, .unset, .unset, .unset] [(.int v84), (.int (2 : Int32)), (.ref b88), (.ref b88)])) rfl rfl (hb hby at_104)
      refine own_st stg104 ?_
      have Ng104 := Fr.snoc Xg104 Ng99 g_b88
      obtain ⟨a104, ha104⟩ : ∃ gz : Nat → Int32, gz = fun i => if i = 2 then (nar .byte v84) else a99 i := ⟨_, rfl⟩
      have Zz_3 : n0 ≤ hg104.size := Nat.le_trans Zz_2 (Keep.of_wr Wg104).1
      have F_6 : own_RayB Z hg104 b88 8 a104 := by rw [ha104]; exact own_RayB_set F_4 Wg104 (by decide) (fits_nar_byte _)
      refine own_st (B := Tg104.setTop (mkF m 109 #[.val (.int p0), .val (.int p1), .val (.int p2), .val (.int p3), .val (.int v3), .val (.int v9), .val (.int v42), .val (.int v80), .val (.int v84), .unset, .unset, .unset, .unset, .unset, .unset, .unset, .unset] [(.int v84), (.int (3 : Int32)), (.ref b88), (.ref b88)])) (fun target kt => ?_) ?_
      · show Steps p.tables e below (Tg104.setTop (mkF m 105 #[.val (.int p0), .val (.int p1), .val (.int p2), .val (.int p3), .val (.int v3), .val (.int v9), .val (.int v42), .val (.int v80), .val (.int v84), .unset, .unset, .unset, .unset, .unset, .unset, .unset, .unset] [(.ref b88)])) target
        refine XS.dup Xg104.here hx rfl (hb hby at_105) rfl rfl ?_
        show Steps p.tables e below (Tg104.setTop (mkF m 106 #[.val (.int p0), .val (.int p1), .val (.int p2), .val (.int p3), .val (.int v3), .val (.int v9), .val (.int v42), .val (.int v80), .val (.int v84), .unset, .unset, .unset, .unset, .unset, .unset, .unset, .unset] [(.ref b88), (.ref b88)])) target
        refine XS.iconst Xg104.here hx rfl (hb hby at_106) ?_
        show Steps p.tables e below (Tg104.setTop (mkF m 107 #[.val (.int p0), .val (.int p1), .val (.int p2), .val (.int p3), .val (.int v3), .val (.int v9), .val (.int v42), .val (.int v80), .val (.int v84), .unset, .unset, .unset, .unset, .unset, .unset, .unset, .unset] [(.int (3 : Int32)), (.ref b88), (.ref b88)])) target
        refine XS.iload Xg104.here hx rfl (hb hby at_107) rfl ?_
        exact kt
      obtain ⟨clg109, Arg109, Szg109, -⟩ := id F_6
      have hing109 : ¬ ((3 : Int32) < 0 ∨ clg109.slots.size ≤ ((3 : Int32)).toNatClampNeg) := own_inb Szg109 (by decide)
      obtain ⟨Tg109, hg109, Xg109, eg109, Wg109, stg109⟩ := stB Xg104 hx hZ eg104 Arg109 (j := (3 : Int32)) hing109 (g := (mkF m 109 #[.val (.int p0), .val (.int p1), .val (.int p2), .val (.int p3), .val (.int v3), .val (.int v9), .val (.int v42), .val (.int v80), .val (.int v84), .unset, .unset, .unset, .unset, .unset, .unset, .unset, .unset] [(.int v84), (.int (3 : Int32)), (.ref b88), (.ref b88)])) rfl rfl (hb hby at_109)
      refine own_st stg109 ?_
      have Ng109 := Fr.snoc Xg109 Ng104 g_b88
      obtain ⟨a109, ha109⟩ : ∃ gz : Nat → Int32, gz = fun i => if i = 3 then (nar .byte v84) else a104 i := ⟨_, rfl⟩
      have Zz_4 : n0 ≤ hg109.size := Nat.le_trans Zz_3 (Keep.of_wr Wg109).1
      have F_8 : own_RayB Z hg109 b88 8 a109 := by rw [ha109]; exact own_RayB_set F_6 Wg109 (by decide) (fits_nar_byte _)
      refine own_st (B := Tg109.setTop (mkF m 114 #[.val (.int p0), .val (.int p1), .val (.int p2), .val (.int p3), .val (.int v3), .val (.int v9), .val (.int v42), .val (.int v80), .val (.int v84), .unset, .unset, .unset, .unset, .unset, .unset, .unset, .unset] [(.int v84), (.int (4 : Int32)), (.ref b88), (.ref b88)])) (fun target kt => ?_) ?_
      · show Steps p.tables e below (Tg109.setTop (mkF m 110 #[.val (.int p0), .val (.int p1), .val (.int p2), .val (.int p3), .val (.int v3), .val (.int v9), .val (.int v42), .val (.int v80), .val (.int v84), .unset, .unset, .unset, .unset, .unset, .unset, .unset, .unset] [(.ref b88)])) target
        refine XS.dup Xg109.here hx rfl (hb hby at_110) rfl rfl ?_
        show Steps p.tables e below (Tg109.setTop (mkF m 111 #[.val (.int p0), .val (.int p1), .val (.int p2), .val (.int p3), .val (.int v3), .val (.int v9), .val (.int v42), .val (.int v80), .val (.int v84), .unset, .unset, .unset, .unset, .unset, .unset, .unset, .unset] [(.ref b88), (.ref b88)])) target
        refine XS.iconst Xg109.here hx rfl (hb hby at_111) ?_
        show Steps p.tables e below (Tg109.setTop (mkF m 112 #[.val (.int p0), .val (.int p1), .val (.int p2), .val (.int p3), .val (.int v3), .val (.int v9), .val (.int v42), .val (.int v80), .val (.int v84), .unset, .unset, .unset, .unset, .unset, .unset, .unset, .unset] [(.int (4 : Int32)), (.ref b88), (.ref b88)])) target
        refine XS.iload Xg109.here hx rfl (hb hby at_112) rfl ?_
        exact kt
      obtain ⟨clg114, Arg114, Szg114, -⟩ := id F_8
      have hing114 : ¬ ((4 : Int32) < 0 ∨ clg114.slots.size ≤ ((4 : Int32)).toNatClampNeg) := own_inb Szg114 (by decide)
      obtain ⟨Tg114, hg114, Xg114, eg114, Wg114, stg114⟩ := stB Xg109 hx hZ eg109 Arg114 (j := (4 : Int32)) hing114 (g := (mkF m 114 #[.val (.int p0), .val (.int p1), .val (.int p2), .val (.int p3), .val (.int v3), .val (.int v9), .val (.int v42), .val (.int v80), .val (.int v84), .unset, .unset, .unset, .unset, .unset, .unset, .unset, .unset] [(.int v84), (.int (4 : Int32)), (.ref b88), (.ref b88)])) rfl rfl (hb hby at_114)
      refine own_st stg114 ?_
      have Ng114 := Fr.snoc Xg114 Ng109 g_b88
      obtain ⟨a114, ha114⟩ : ∃ gz : Nat → Int32, gz = fun i => if i = 4 then (nar .byte v84) else a109 i := ⟨_, rfl⟩
      have Zz_5 : n0 ≤ hg114.size := Nat.le_trans Zz_4 (Keep.of_wr Wg114).1
      have F_10 : own_RayB Z hg114 b88 8 a114 := by rw [ha114]; exact own_RayB_set F_8 Wg114 (by decide) (fits_nar_byte _)
      refine own_st (B := Tg114.setTop (mkF m 119 #[.val (.int p0), .val (.int p1), .val (.int p2), .val (.int p3), .val (.int v3), .val (.int v9), .val (.int v42), .val (.int v80), .val (.int v84), .unset, .unset, .unset, .unset, .unset, .unset, .unset, .unset] [(.int v84), (.int (5 : Int32)), (.ref b88), (.ref b88)])) (fun target kt => ?_) ?_
      · show Steps p.tables e below (Tg114.setTop (mkF m 115 #[.val (.int p0), .val (.int p1), .val (.int p2), .val (.int p3), .val (.int v3), .val (.int v9), .val (.int v42), .val (.int v80), .val (.int v84), .unset, .unset, .unset, .unset, .unset, .unset, .unset, .unset] [(.ref b88)])) target
        refine XS.dup Xg114.here hx rfl (hb hby at_115) rfl rfl ?_
        show Steps p.tables e below (Tg114.setTop (mkF m 116 #[.val (.int p0), .val (.int p1), .val (.int p2), .val (.int p3), .val (.int v3), .val (.int v9), .val (.int v42), .val (.int v80), .val (.int v84), .unset, .unset, .unset, .unset, .unset, .unset, .unset, .unset] [(.ref b88), (.ref b88)])) target
        refine XS.iconst Xg114.here hx rfl (hb hby at_116) ?_
        show Steps p.tables e below (Tg114.setTop (mkF m 117 #[.val (.int p0), .val (.int p1), .val (.int p2), .val (.int p3), .val (.int v3), .val (.int v9), .val (.int v42), .val (.int v80), .val (.int v84), .unset, .unset, .unset, .unset, .unset, .unset, .unset, .unset] [(.int (5 : Int32)), (.ref b88), (.ref b88)])) target
        refine XS.iload Xg114.here hx rfl (hb hby at_117) rfl ?_
        exact kt
      obtain ⟨clg119, Arg119, Szg119, -⟩ := id F_10
      have hing119 : ¬ ((5 : Int32) < 0 ∨ clg119.slots.size ≤ ((5 : Int32)).toNatClampNeg) := own_inb Szg119 (by decide)
      obtain ⟨Tg119, hg119, Xg119, eg119, Wg119, stg119⟩ := stB Xg114 hx hZ eg114 Arg119 (j := (5 : Int32)) hing119 (g := (mkF m 119 #[.val (.int p0), .val (.int p1), .val (.int p2), .val (.int p3), .val (.int v3), .val (.int v9), .val (.int v42), .val (.int v80), .val (.int v84), .unset, .unset, .unset, .unset, .unset, .unset, .unset, .unset] [(.int v84), (.int (5 : Int32)), (.ref b88), (.ref b88)])) rfl rfl (hb hby at_119)
      refine own_st stg119 ?_
      have Ng119 := Fr.snoc Xg119 Ng114 g_b88
      obtain ⟨a119, ha119⟩ : ∃ gz : Nat → Int32, gz = fun i => if i = 5 then (nar .byte v84) else a114 i := ⟨_, rfl⟩
      have Zz_6 : n0 ≤ hg119.size := Nat.le_trans Zz_5 (Keep.of_wr Wg119).1
      have F_12 : own_RayB Z hg119 b88 8 a119 := by rw [ha119]; exact own_RayB_set F_10 Wg119 (by decide) (fits_nar_byte _)
      refine own_st (B := Tg119.setTop (mkF m 125 #[.val (.int p0), .val (.int p1), .val (.int p2), .val (.int p3), .val (.int v3), .val (.int v9), .val (.int v42), .val (.int v80), .val (.int v84), .unset, .unset, .unset, .unset, .unset, .unset, .unset, .unset] [(.int v84), (.int (6 : Int32)), (.ref b88), (.ref b88)])) (fun target kt => ?_) ?_
      · show Steps p.tables e below (Tg119.setTop (mkF m 120 #[.val (.int p0), .val (.int p1), .val (.int p2), .val (.int p3), .val (.int v3), .val (.int v9), .val (.int v42), .val (.int v80), .val (.int v84), .unset, .unset, .unset, .unset, .unset, .unset, .unset, .unset] [(.ref b88)])) target
        refine XS.dup Xg119.here hx rfl (hb hby at_120) rfl rfl ?_
        show Steps p.tables e below (Tg119.setTop (mkF m 121 #[.val (.int p0), .val (.int p1), .val (.int p2), .val (.int p3), .val (.int v3), .val (.int v9), .val (.int v42), .val (.int v80), .val (.int v84), .unset, .unset, .unset, .unset, .unset, .unset, .unset, .unset] [(.ref b88), (.ref b88)])) target
        refine XS.bipush Xg119.here hx rfl (hb hby at_121) ?_
        show Steps p.tables e below (Tg119.setTop (mkF m 123 #[.val (.int p0), .val (.int p1), .val (.int p2), .val (.int p3), .val (.int v3), .val (.int v9), .val (.int v42), .val (.int v80), .val (.int v84), .unset, .unset, .unset, .unset, .unset, .unset, .unset, .unset] [(.int (6 : Int32)), (.ref b88), (.ref b88)])) target
        refine XS.iload Xg119.here hx rfl (hb hby at_123) rfl ?_
        exact kt
      obtain ⟨clg125, Arg125, Szg125, -⟩ := id F_12
      have hing125 : ¬ ((6 : Int32) < 0 ∨ clg125.slots.size ≤ ((6 : Int32)).toNatClampNeg) := own_inb Szg125 (by decide)
      obtain ⟨Tg125, hg125, Xg125, eg125, Wg125, stg125⟩ := stB Xg119 hx hZ eg119 Arg125 (j := (6 : Int32)) hing125 (g := (mkF m 125 #[.val (.int p0), .val (.int p1), .val (.int p2), .val (.int p3), .val (.int v3), .val (.int v9), .val (.int v42), .val (.int v80), .val (.int v84), .unset, .unset, .unset, .unset, .unset, .unset, .unset, .unset] [(.int v84), (.int (6 : Int32)), (.ref b88), (.ref b88)])) rfl rfl (hb hby at_125)
      refine own_st stg125 ?_
      have Ng125 := Fr.snoc Xg125 Ng119 g_b88
      obtain ⟨a125, ha125⟩ : ∃ gz : Nat → Int32, gz = fun i => if i = 6 then (nar .byte v84) else a119 i := ⟨_, rfl⟩
      have Zz_7 : n0 ≤ hg125.size := Nat.le_trans Zz_6 (Keep.of_wr Wg125).1
      have F_14 : own_RayB Z hg125 b88 8 a125 := by rw [ha125]; exact own_RayB_set F_12 Wg125 (by decide) (fits_nar_byte _)
      refine own_st (B := Tg125.setTop (mkF m 131 #[.val (.int p0), .val (.int p1), .val (.int p2), .val (.int p3), .val (.int v3), .val (.int v9), .val (.int v42), .val (.int v80), .val (.int v84), .unset, .unset, .unset, .unset, .unset, .unset, .unset, .unset] [(.int v84), (.int (7 : Int32)), (.ref b88), (.ref b88)])) (fun target kt => ?_) ?_
      · show Steps p.tables e below (Tg125.setTop (mkF m 126 #[.val (.int p0), .val (.int p1), .val (.int p2), .val (.int p3), .val (.int v3), .val (.int v9), .val (.int v42), .val (.int v80), .val (.int v84), .unset, .unset, .unset, .unset, .unset, .unset, .unset, .unset] [(.ref b88)])) target
        refine XS.dup Xg125.here hx rfl (hb hby at_126) rfl rfl ?_
        show Steps p.tables e below (Tg125.setTop (mkF m 127 #[.val (.int p0), .val (.int p1), .val (.int p2), .val (.int p3), .val (.int v3), .val (.int v9), .val (.int v42), .val (.int v80), .val (.int v84), .unset, .unset, .unset, .unset, .unset, .unset, .unset, .unset] [(.ref b88), (.ref b88)])) target
        refine XS.bipush Xg125.here hx rfl (hb hby at_127) ?_
        show Steps p.tables e below (Tg125.setTop (mkF m 129 #[.val (.int p0), .val (.int p1), .val (.int p2), .val (.int p3), .val (.int v3), .val (.int v9), .val (.int v42), .val (.int v80), .val (.int v84), .unset, .unset, .unset, .unset, .unset, .unset, .unset, .unset] [(.int (7 : Int32)), (.ref b88), (.ref b88)])) target
        refine XS.iload Xg125.here hx rfl (hb hby at_129) rfl ?_
        exact kt
      obtain ⟨clg131, Arg131, Szg131, -⟩ := id F_14
      have hing131 : ¬ ((7 : Int32) < 0 ∨ clg131.slots.size ≤ ((7 : Int32)).toNatClampNeg) := own_inb Szg131 (by decide)
      obtain ⟨Tg131, hg131, Xg131, eg131, Wg131, stg131⟩ := stB Xg125 hx hZ eg125 Arg131 (j := (7 : Int32)) hing131 (g := (mkF m 131 #[.val (.int p0), .val (.int p1), .val (.int p2), .val (.int p3), .val (.int v3), .val (.int v9), .val (.int v42), .val (.int v80), .val (.int v84), .unset, .unset, .unset, .unset, .unset, .unset, .unset, .unset] [(.int v84), (.int (7 : Int32)), (.ref b88), (.ref b88)])) rfl rfl (hb hby at_131)
      refine own_st stg131 ?_
      have Ng131 := Fr.snoc Xg131 Ng125 g_b88
      obtain ⟨a131, ha131⟩ : ∃ gz : Nat → Int32, gz = fun i => if i = 7 then (nar .byte v84) else a125 i := ⟨_, rfl⟩
      have Zz_8 : n0 ≤ hg131.size := Nat.le_trans Zz_7 (Keep.of_wr Wg131).1
      have F_16 : own_RayB Z hg131 b88 8 a131 := by rw [ha131]; exact own_RayB_set F_14 Wg131 (by decide) (fits_nar_byte _)
      refine own_st (B := Tg131.setTop (mkF m 140 #[.val (.int p0), .val (.int p1), .val (.int p2), .val (.int p3), .val (.int v3), .val (.int v9), .val (.int v42), .val (.int v80), .val (.int v84), .val (.ref b88), .unset, .unset, .unset, .unset, .unset, .unset, .unset] [(.int v80), (.ref b88), (.int v42)])) (fun target kt => ?_) ?_
      · show Steps p.tables e below (Tg131.setTop (mkF m 132 #[.val (.int p0), .val (.int p1), .val (.int p2), .val (.int p3), .val (.int v3), .val (.int v9), .val (.int v42), .val (.int v80), .val (.int v84), .unset, .unset, .unset, .unset, .unset, .unset, .unset, .unset] [(.ref b88)])) target
        refine XS.astore Xg131.here hx rfl (hb hby at_132) rfl rfl (l' := #[.val (.int p0), .val (.int p1), .val (.int p2), .val (.int p3), .val (.int v3), .val (.int v9), .val (.int v42), .val (.int v80), .val (.int v84), .val (.ref b88), .unset, .unset, .unset, .unset, .unset, .unset, .unset]) rfl ?_
        show Steps p.tables e below (Tg131.setTop (mkF m 134 #[.val (.int p0), .val (.int p1), .val (.int p2), .val (.int p3), .val (.int v3), .val (.int v9), .val (.int v42), .val (.int v80), .val (.int v84), .val (.ref b88), .unset, .unset, .unset, .unset, .unset, .unset, .unset] [])) target
        refine XS.iload Xg131.here hx rfl (hb hby at_134) rfl ?_
        show Steps p.tables e below (Tg131.setTop (mkF m 136 #[.val (.int p0), .val (.int p1), .val (.int p2), .val (.int p3), .val (.int v3), .val (.int v9), .val (.int v42), .val (.int v80), .val (.int v84), .val (.ref b88), .unset, .unset, .unset, .unset, .unset, .unset, .unset] [(.int v42)])) target
        refine XS.aload Xg131.here hx rfl (hb hby at_136) rfl rfl ?_
        show Steps p.tables e below (Tg131.setTop (mkF m 138 #[.val (.int p0), .val (.int p1), .val (.int p2), .val (.int p3), .val (.int v3), .val (.int v9), .val (.int v42), .val (.int v80), .val (.int v84), .val (.ref b88), .unset, .unset, .unset, .unset, .unset, .unset, .unset] [(.ref b88), (.int v42)])) target
        refine XS.iload Xg131.here hx rfl (hb hby at_138) rfl ?_
        exact kt
      obtain ⟨_, _, ⟨Tg140, Lg140, kg140, ng140⟩, -, Xg140, ⟨Lcg140, hQg140, lg140, yg140, zg140⟩, stg140⟩ := Jvm.LawKit.callS Xg131 hx (y := (⟨"com/example/psyche/psyche/XmlChars", "encode", "(I[BI)I"⟩ : MethodName)) hown (mvT hZ (hw _ (List.mem_of_getElem? (i := 4) rfl))) (mvT hZ (hw _ (List.mem_of_getElem? (i := 5) rfl))) (mvT hZ (hw _ (List.mem_of_getElem? (i := 6) rfl))) (mvT hZ (hw _ (List.mem_of_getElem? (i := 7) rfl))) (by decide) (backOf (W := 0) (own_rm1_e2 l Z a0 hw [] v42 b88 v80 a131 hg131 n0 Zz_8 F_16 g_b88 (show v80 = (0 : Int32) ∨ v80 = (1 : Int32) ∨ v80 = (2 : Int32) ∨ v80 = (3 : Int32) from (own_at p2 v80 hv80)) (show ¬ (v42 < (128 : Int32)) from hR1) (show v42 < (2048 : Int32) from hR2)) hZ (hw _ (List.mem_of_getElem? (i := 7) rfl)) (hw _ (List.mem_of_getElem? (i := 6) rfl)) (by decide) (by decide)) (g := (mkF m 140 #[.val (.int p0), .val (.int p1), .val (.int p2), .val (.int p3), .val (.int v3), .val (.int v9), .val (.int v42), .val (.int v80), .val (.int v84), .val (.ref b88), .unset, .unset, .unset, .unset, .unset, .unset, .unset] [(.int v80), (.ref b88), (.int v42)])) rfl (by rw [hml]; rfl) (argsL := [(.int v42), (.ref b88), (.int v80)]) (rest := []) (lenOf own_pd0 rfl) rfl (by show 2 * 0 + _ ≤ _; exact Nat.le_of_eq rfl) (hb hby at_140) (fun _ _ => ⟨rfl, eg131, (by decide : 1 + 0 ≤ _), (by decide : 8 + 0 ≤ _)⟩)
      dsimp only [Pt.U, Pt.locs, Pt.cells, Pt.slots] at Xg140 lg140 yg140 zg140 stg140 hQg140
      subst lg140 yg140 zg140
      obtain ⟨rfl, Ng140q, Kg140, F_17⟩ := hQg140
      have Zz_9 : n0 ≤ Tg140.heap.size := Nat.le_trans Zz_8 Kg140.1
      obtain ⟨a140, ha140⟩ : ∃ z : Nat → Int32, z = (fun i => if i = (v80 + (1 : Int32)).toNatClampNeg then (nar .byte (((128 : Int32) ||| (v42 &&& (63 : Int32))).toInt8.toInt32)) else (fun i => if i = (v80).toNatClampNeg then (nar .byte (((192 : Int32) ||| (v42 >>> ((6 : Int32) &&& 31))).toInt8.toInt32)) else a131 i) i) := ⟨_, rfl⟩
      have F_18 : own_RayB Z Tg140.heap b88 8 a140 := by subst ha140; exact F_17
      have Ng140 := Fr.app Ng131 Ng140q
      refine own_st (stg140) ?_
      refine own_st (B := Tg140.setTop (mkF m 150 #[.val (.int p0), .val (.int p1), .val (.int p2), .val (.int p3), .val (.int v3), .val (.int v9), .val (.int v42), .val (.int v80), .val (.int v84), .val (.ref b88), .val (.int (2 : Int32)), .unset, .unset, .unset, .unset, .unset, .unset] [(.int (128 : Int32)), (.int v42)])) (fun target kt => ?_) ?_
      · show Steps p.tables e below (Tg140.setTop (mkF m 143 #[.val (.int p0), .val (.int p1), .val (.int p2), .val (.int p3), .val (.int v3), .val (.int v9), .val (.int v42), .val (.int v80), .val (.int v84), .val (.ref b88), .unset, .unset, .unset, .unset, .unset, .unset, .unset] [(.int (2 : Int32))])) target
        refine XS.istore Xg140.here hx rfl (hb hby at_143) rfl (l' := #[.val (.int p0), .val (.int p1), .val (.int p2), .val (.int p3), .val (.int v3), .val (.int v9), .val (.int v42), .val (.int v80), .val (.int v84), .val (.ref b88), .val (.int (2 : Int32)), .unset, .unset, .unset, .unset, .unset, .unset]) rfl ?_
        show Steps p.tables e below (Tg140.setTop (mkF m 145 #[.val (.int p0), .val (.int p1), .val (.int p2), .val (.int p3), .val (.int v3), .val (.int v9), .val (.int v42), .val (.int v80), .val (.int v84), .val (.ref b88), .val (.int (2 : Int32)), .unset, .unset, .unset, .unset, .unset, .unset] [])) target
        refine XS.iload Xg140.here hx rfl (hb hby at_145) rfl ?_
        show Steps p.tables e below (Tg140.setTop (mkF m 147 #[.val (.int p0), .val (.int p1), .val (.int p2), .val (.int p3), .val (.int v3), .val (.int v9), .val (.int v42), .val (.int v80), .val (.int v84), .val (.ref b88), .val (.int (2 : Int32)), .unset, .unset, .unset, .unset, .unset, .unset] [(.int v42)])) target
        refine XS.sipush Xg140.here hx rfl (hb hby at_147) ?_
        exact kt
      have c150 : ¬ (v42 < (128 : Int32)) := by
        exact hR1
      refine own_st (B := Tg140.setTop (mkF m 162 #[.val (.int p0), .val (.int p1), .val (.int p2), .val (.int p3), .val (.int v3), .val (.int v9), .val (.int v42), .val (.int v80), .val (.int v84), .val (.ref b88), .val (.int (2 : Int32)), .unset, .unset, .unset, .unset, .unset, .unset] [(.int (2048 : Int32)), (.int v42)])) (fun target kt => ?_) ?_
      · show Steps p.tables e below (Tg140.setTop (mkF m 150 #[.val (.int p0), .val (.int p1), .val (.int p2), .val (.int p3), .val (.int v3), .val (.int v9), .val (.int v42), .val (.int v80), .val (.int v84), .val (.ref b88), .val (.int (2 : Int32)), .unset, .unset, .unset, .unset, .unset, .unset] [(.int (128 : Int32)), (.int v42)])) target
        refine XS.icmpYes Xg140.here hx rfl (pc0 := 150) (pc' := 157) rfl (hb hby at_150) rfl (flt c150).2.1 (by decide) (by decide) ?_
        show Steps p.tables e below (Tg140.setTop (mkF m 157 #[.val (.int p0), .val (.int p1), .val (.int p2), .val (.int p3), .val (.int v3), .val (.int v9), .val (.int v42), .val (.int v80), .val (.int v84), .val (.ref b88), .val (.int (2 : Int32)), .unset, .unset, .unset, .unset, .unset, .unset] [])) target
        refine XS.iload Xg140.here hx rfl (hb hby at_157) rfl ?_
        show Steps p.tables e below (Tg140.setTop (mkF m 159 #[.val (.int p0), .val (.int p1), .val (.int p2), .val (.int p3), .val (.int v3), .val (.int v9), .val (.int v42), .val (.int v80), .val (.int v84), .val (.ref b88), .val (.int (2 : Int32)), .unset, .unset, .unset, .unset, .unset, .unset] [(.int v42)])) target
        refine XS.sipush Xg140.here hx rfl (hb hby at_159) ?_
        exact kt
      have c162 : v42 < (2048 : Int32) := by
        exact hR2
      refine own_st (B := Tg140.setTop (mkF m 192 #[.val (.int p0), .val (.int p1), .val (.int p2), .val (.int p3), .val (.int v3), .val (.int v9), .val (.int v42), .val (.int v80), .val (.int v84), .val (.ref b88), .val (.int (2 : Int32)), .val (.int (2 : Int32)), .unset, .unset, .unset, .unset, .unset] [])) (fun target kt => ?_) ?_
      · show Steps p.tables e below (Tg140.setTop (mkF m 162 #[.val (.int p0), .val (.int p1), .val (.int p2), .val (.int p3), .val (.int v3), .val (.int v9), .val (.int v42), .val (.int v80), .val (.int v84), .val (.ref b88), .val (.int (2 : Int32)), .unset, .unset, .unset, .unset, .unset, .unset] [(.int (2048 : Int32)), (.int v42)])) target
        refine XS.icmpNo Xg140.here hx rfl (hb hby at_162) rfl (tlt c162).2.1 ?_
        show Steps p.tables e below (Tg140.setTop (mkF m 165 #[.val (.int p0), .val (.int p1), .val (.int p2), .val (.int p3), .val (.int v3), .val (.int v9), .val (.int v42), .val (.int v80), .val (.int v84), .val (.ref b88), .val (.int (2 : Int32)), .unset, .unset, .unset, .unset, .unset, .unset] [])) target
        refine XS.iconst Xg140.here hx rfl (hb hby at_165) ?_
        show Steps p.tables e below (Tg140.setTop (mkF m 166 #[.val (.int p0), .val (.int p1), .val (.int p2), .val (.int p3), .val (.int v3), .val (.int v9), .val (.int v42), .val (.int v80), .val (.int v84), .val (.ref b88), .val (.int (2 : Int32)), .unset, .unset, .unset, .unset, .unset, .unset] [(.int (2 : Int32))])) target
        refine XS.goto Xg140.here hx rfl (pc0 := 166) (pc' := 181) rfl (hb hby at_166) (by decide) (by decide) ?_
        show Steps p.tables e below (Tg140.setTop (mkF m 181 #[.val (.int p0), .val (.int p1), .val (.int p2), .val (.int p3), .val (.int v3), .val (.int v9), .val (.int v42), .val (.int v80), .val (.int v84), .val (.ref b88), .val (.int (2 : Int32)), .unset, .unset, .unset, .unset, .unset, .unset] [(.int (2 : Int32))])) target
        refine XS.istore Xg140.here hx rfl (hb hby at_181) rfl (l' := #[.val (.int p0), .val (.int p1), .val (.int p2), .val (.int p3), .val (.int v3), .val (.int v9), .val (.int v42), .val (.int v80), .val (.int v84), .val (.ref b88), .val (.int (2 : Int32)), .val (.int (2 : Int32)), .unset, .unset, .unset, .unset, .unset]) rfl ?_
        show Steps p.tables e below (Tg140.setTop (mkF m 183 #[.val (.int p0), .val (.int p1), .val (.int p2), .val (.int p3), .val (.int v3), .val (.int v9), .val (.int v42), .val (.int v80), .val (.int v84), .val (.ref b88), .val (.int (2 : Int32)), .val (.int (2 : Int32)), .unset, .unset, .unset, .unset, .unset] [])) target
        refine XS.iload Xg140.here hx rfl (hb hby at_183) rfl ?_
        show Steps p.tables e below (Tg140.setTop (mkF m 185 #[.val (.int p0), .val (.int p1), .val (.int p2), .val (.int p3), .val (.int v3), .val (.int v9), .val (.int v42), .val (.int v80), .val (.int v84), .val (.ref b88), .val (.int (2 : Int32)), .val (.int (2 : Int32)), .unset, .unset, .unset, .unset, .unset] [(.int (2 : Int32))])) target
        refine XS.iload Xg140.here hx rfl (hb hby at_185) rfl ?_
        show Steps p.tables e below (Tg140.setTop (mkF m 187 #[.val (.int p0), .val (.int p1), .val (.int p2), .val (.int p3), .val (.int v3), .val (.int v9), .val (.int v42), .val (.int v80), .val (.int v84), .val (.ref b88), .val (.int (2 : Int32)), .val (.int (2 : Int32)), .unset, .unset, .unset, .unset, .unset] [(.int (2 : Int32)), (.int (2 : Int32))])) target
        refine XS.icmpYes Xg140.here hx rfl (pc0 := 187) (pc' := 192) rfl (hb hby at_187) rfl (teq (by decide : (2 : Int32) = (2 : Int32))).1 (by decide) (by decide) ?_
        exact kt
      have hat := own_at p2 v80 hv80
      have hn84 : nar .byte v84 = v84 := by rw [hv84]; exact own_nb8 p3
      have hfill : ∀ i, i < 8 → a131 i = v84 := by
        intro i hi
        have : i = 0 ∨ i = 1 ∨ i = 2 ∨ i = 3 ∨ i = 4 ∨ i = 5 ∨ i = 6 ∨ i = 7 := by omega
        rcases this with rfl | rfl | rfl | rfl | rfl | rfl | rfl | rfl <;> simp [ha131, ha125, ha119, ha114, ha109, ha104, ha99, ha94, hn84]
      refine own_st (B := Tg140.setTop (mkF m 201 #[.val (.int p0), .val (.int p1), .val (.int p2), .val (.int p3), .val (.int v3), .val (.int v9), .val (.int v42), .val (.int v80), .val (.int v84), .val (.ref b88), .val (.int (2 : Int32)), .val (.int (2 : Int32)), .unset, .unset, .unset, .unset, .unset] [(.int v84), (.int (2 : Int32)), (.int v80), (.int (0 : Int32)), (.ref b88)])) (fun target kt => ?_) ?_
      · show Steps p.tables e below (Tg140.setTop (mkF m 192 #[.val (.int p0), .val (.int p1), .val (.int p2), .val (.int p3), .val (.int v3), .val (.int v9), .val (.int v42), .val (.int v80), .val (.int v84), .val (.ref b88), .val (.int (2 : Int32)), .val (.int (2 : Int32)), .unset, .unset, .unset, .unset, .unset] [])) target
        refine XS.aload Xg140.here hx rfl (hb hby at_192) rfl rfl ?_
        show Steps p.tables e below (Tg140.setTop (mkF m 194 #[.val (.int p0), .val (.int p1), .val (.int p2), .val (.int p3), .val (.int v3), .val (.int v9), .val (.int v42), .val (.int v80), .val (.int v84), .val (.ref b88), .val (.int (2 : Int32)), .val (.int (2 : Int32)), .unset, .unset, .unset, .unset, .unset] [(.ref b88)])) target
        refine XS.iconst Xg140.here hx rfl (hb hby at_194) ?_
        show Steps p.tables e below (Tg140.setTop (mkF m 195 #[.val (.int p0), .val (.int p1), .val (.int p2), .val (.int p3), .val (.int v3), .val (.int v9), .val (.int v42), .val (.int v80), .val (.int v84), .val (.ref b88), .val (.int (2 : Int32)), .val (.int (2 : Int32)), .unset, .unset, .unset, .unset, .unset] [(.int (0 : Int32)), (.ref b88)])) target
        refine XS.iload Xg140.here hx rfl (hb hby at_195) rfl ?_
        show Steps p.tables e below (Tg140.setTop (mkF m 197 #[.val (.int p0), .val (.int p1), .val (.int p2), .val (.int p3), .val (.int v3), .val (.int v9), .val (.int v42), .val (.int v80), .val (.int v84), .val (.ref b88), .val (.int (2 : Int32)), .val (.int (2 : Int32)), .unset, .unset, .unset, .unset, .unset] [(.int v80), (.int (0 : Int32)), (.ref b88)])) target
        refine XS.iload Xg140.here hx rfl (hb hby at_197) rfl ?_
        show Steps p.tables e below (Tg140.setTop (mkF m 199 #[.val (.int p0), .val (.int p1), .val (.int p2), .val (.int p3), .val (.int v3), .val (.int v9), .val (.int v42), .val (.int v80), .val (.int v84), .val (.ref b88), .val (.int (2 : Int32)), .val (.int (2 : Int32)), .unset, .unset, .unset, .unset, .unset] [(.int (2 : Int32)), (.int v80), (.int (0 : Int32)), (.ref b88)])) target
        refine XS.iload Xg140.here hx rfl (hb hby at_199) rfl ?_
        exact kt
      obtain ⟨_, _, ⟨Tg201, Lg201, kg201, ng201⟩, -, Xg201, ⟨Lcg201, hQg201, lg201, yg201, zg201⟩, stg201⟩ := Jvm.LawKit.callS Xg140 hx (y := (⟨"com/example/psyche/psyche/XmlCharsEncodePinLaw", "same", "([BIIIB)Z"⟩ : MethodName)) hown (mvT hZ (hw _ (List.mem_of_getElem? (i := 9) rfl))) (mvT hZ (hw _ (List.mem_of_getElem? (i := 10) rfl))) (mvT hZ (hw _ (List.mem_of_getElem? (i := 11) rfl))) (mvT hZ (hw _ (List.mem_of_getElem? (i := 12) rfl))) (by decide) (backOf (W := 0) (own_rm2 l Z a0 hw [] b88 (0 : Int32) v80 (2 : Int32) v84 a140 Tg140.heap n0 Zz_9 F_18 (show ¬ (0 : Int32) < 0 ∧ (0 : Int32).toNatClampNeg < 8 from (by decide))) hZ (hw _ (List.mem_of_getElem? (i := 12) rfl)) (hw _ (List.mem_of_getElem? (i := 11) rfl)) (by decide) (by decide)) (g := (mkF m 201 #[.val (.int p0), .val (.int p1), .val (.int p2), .val (.int p3), .val (.int v3), .val (.int v9), .val (.int v42), .val (.int v80), .val (.int v84), .val (.ref b88), .val (.int (2 : Int32)), .val (.int (2 : Int32)), .unset, .unset, .unset, .unset, .unset] [(.int v84), (.int (2 : Int32)), (.int v80), (.int (0 : Int32)), (.ref b88)])) rfl (by rw [hml]; rfl) (argsL := [(.ref b88), (.int (0 : Int32)), (.int v80), (.int (2 : Int32)), (.int v84)]) (rest := []) (lenOf own_pd1 rfl) rfl (by show 2 * 0 + _ ≤ _; exact Nat.le_of_eq rfl) (hb hby at_201) (fun _ _ => ⟨rfl, rfl, (by decide : 1 + 0 ≤ _), (by decide : 8 + 0 ≤ _)⟩)
      dsimp only [Pt.U, Pt.locs, Pt.cells, Pt.slots] at Xg201 lg201 yg201 zg201 stg201 hQg201
      subst lg201 yg201 zg201
      obtain ⟨rfl, Ng201q, eg201⟩ := hQg201
      have Ng201 := Fr.app Ng140 Ng201q
      refine own_st (stg201) ?_
      have c204 : (((0 : Int32) < v80) ∧ ((a140 (0 : Int32).toNatClampNeg) = v84)) ∨ (¬ ((0 : Int32) < v80) ∧ (((0 : Int32) < (v80 + (2 : Int32))) ∨ ((a140 (0 : Int32).toNatClampNeg) = v84))) := by
        rcases hat with h | h | h | h <;> (rw [ha140, h]; first | exact Or.inr ⟨by decide, Or.inl (by decide)⟩ | (refine Or.inl ⟨by decide, ?_⟩; simp +decide [hfill]) | (refine Or.inr ⟨by decide, Or.inr ?_⟩; simp +decide [hfill]))
      refine own_st (B := Tg201.setTop (mkF m 216 #[.val (.int p0), .val (.int p1), .val (.int p2), .val (.int p3), .val (.int v3), .val (.int v9), .val (.int v42), .val (.int v80), .val (.int v84), .val (.ref b88), .val (.int (2 : Int32)), .val (.int (2 : Int32)), .unset, .unset, .unset, .unset, .unset] [(.int v84), (.int (2 : Int32)), (.int v80), (.int (1 : Int32)), (.ref b88)])) (fun target kt => ?_) ?_
      · show Steps p.tables e below (Tg201.setTop (mkF m 204 #[.val (.int p0), .val (.int p1), .val (.int p2), .val (.int p3), .val (.int v3), .val (.int v9), .val (.int v42), .val (.int v80), .val (.int v84), .val (.ref b88), .val (.int (2 : Int32)), .val (.int (2 : Int32)), .unset, .unset, .unset, .unset, .unset] [(.int (own_b ((((0 : Int32) < v80) ∧ ((a140 (0 : Int32).toNatClampNeg) = v84)) ∨ (¬ ((0 : Int32) < v80) ∧ (((0 : Int32) < (v80 + (2 : Int32))) ∨ ((a140 (0 : Int32).toNatClampNeg) = v84))))))])) target
        refine XS.ifNo Xg201.here hx rfl (hb hby at_204) rfl ((if0 _ _).trans (feq (own_bn0 rfl c204)).1) ?_
        show Steps p.tables e below (Tg201.setTop (mkF m 207 #[.val (.int p0), .val (.int p1), .val (.int p2), .val (.int p3), .val (.int v3), .val (.int v9), .val (.int v42), .val (.int v80), .val (.int v84), .val (.ref b88), .val (.int (2 : Int32)), .val (.int (2 : Int32)), .unset, .unset, .unset, .unset, .unset] [])) target
        refine XS.aload Xg201.here hx rfl (hb hby at_207) rfl rfl ?_
        show Steps p.tables e below (Tg201.setTop (mkF m 209 #[.val (.int p0), .val (.int p1), .val (.int p2), .val (.int p3), .val (.int v3), .val (.int v9), .val (.int v42), .val (.int v80), .val (.int v84), .val (.ref b88), .val (.int (2 : Int32)), .val (.int (2 : Int32)), .unset, .unset, .unset, .unset, .unset] [(.ref b88)])) target
        refine XS.iconst Xg201.here hx rfl (hb hby at_209) ?_
        show Steps p.tables e below (Tg201.setTop (mkF m 210 #[.val (.int p0), .val (.int p1), .val (.int p2), .val (.int p3), .val (.int v3), .val (.int v9), .val (.int v42), .val (.int v80), .val (.int v84), .val (.ref b88), .val (.int (2 : Int32)), .val (.int (2 : Int32)), .unset, .unset, .unset, .unset, .unset] [(.int (1 : Int32)), (.ref b88)])) target
        refine XS.iload Xg201.here hx rfl (hb hby at_210) rfl ?_
        show Steps p.tables e below (Tg201.setTop (mkF m 212 #[.val (.int p0), .val (.int p1), .val (.int p2), .val (.int p3), .val (.int v3), .val (.int v9), .val (.int v42), .val (.int v80), .val (.int v84), .val (.ref b88), .val (.int (2 : Int32)), .val (.int (2 : Int32)), .unset, .unset, .unset, .unset, .unset] [(.int v80), (.int (1 : Int32)), (.ref b88)])) target
        refine XS.iload Xg201.here hx rfl (hb hby at_212) rfl ?_
        show Steps p.tables e below (Tg201.setTop (mkF m 214 #[.val (.int p0), .val (.int p1), .val (.int p2), .val (.int p3), .val (.int v3), .val (.int v9), .val (.int v42), .val (.int v80), .val (.int v84), .val (.ref b88), .val (.int (2 : Int32)), .val (.int (2 : Int32)), .unset, .unset, .unset, .unset, .unset] [(.int (2 : Int32)), (.int v80), (.int (1 : Int32)), (.ref b88)])) target
        refine XS.iload Xg201.here hx rfl (hb hby at_214) rfl ?_
        exact kt
      obtain ⟨_, _, ⟨Tg216, Lg216, kg216, ng216⟩, -, Xg216, ⟨Lcg216, hQg216, lg216, yg216, zg216⟩, stg216⟩ := Jvm.LawKit.callS Xg201 hx (y := (⟨"com/example/psyche/psyche/XmlCharsEncodePinLaw", "same", "([BIIIB)Z"⟩ : MethodName)) hown (mvT hZ (hw _ (List.mem_of_getElem? (i := 9) rfl))) (mvT hZ (hw _ (List.mem_of_getElem? (i := 10) rfl))) (mvT hZ (hw _ (List.mem_of_getElem? (i := 11) rfl))) (mvT hZ (hw _ (List.mem_of_getElem? (i := 12) rfl))) (by decide) (backOf (W := 0) (own_rm2 l Z a0 hw [] b88 (1 : Int32) v80 (2 : Int32) v84 a140 Tg140.heap n0 Zz_9 F_18 (show ¬ (1 : Int32) < 0 ∧ (1 : Int32).toNatClampNeg < 8 from (by decide))) hZ (hw _ (List.mem_of_getElem? (i := 12) rfl)) (hw _ (List.mem_of_getElem? (i := 11) rfl)) (by decide) (by decide)) (g := (mkF m 216 #[.val (.int p0), .val (.int p1), .val (.int p2), .val (.int p3), .val (.int v3), .val (.int v9), .val (.int v42), .val (.int v80), .val (.int v84), .val (.ref b88), .val (.int (2 : Int32)), .val (.int (2 : Int32)), .unset, .unset, .unset, .unset, .unset] [(.int v84), (.int (2 : Int32)), (.int v80), (.int (1 : Int32)), (.ref b88)])) rfl (by rw [hml]; rfl) (argsL := [(.ref b88), (.int (1 : Int32)), (.int v80), (.int (2 : Int32)), (.int v84)]) (rest := []) (lenOf own_pd1 rfl) rfl (by show 2 * 0 + _ ≤ _; exact Nat.le_of_eq rfl) (hb hby at_216) (fun _ _ => ⟨rfl, eg201, (by decide : 1 + 0 ≤ _), (by decide : 8 + 0 ≤ _)⟩)
      dsimp only [Pt.U, Pt.locs, Pt.cells, Pt.slots] at Xg216 lg216 yg216 zg216 stg216 hQg216
      subst lg216 yg216 zg216
      obtain ⟨rfl, Ng216q, eg216⟩ := hQg216
      have Ng216 := Fr.app Ng201 Ng216q
      refine own_st (stg216) ?_
      have c219 : (((1 : Int32) < v80) ∧ ((a140 (1 : Int32).toNatClampNeg) = v84)) ∨ (¬ ((1 : Int32) < v80) ∧ (((1 : Int32) < (v80 + (2 : Int32))) ∨ ((a140 (1 : Int32).toNatClampNeg) = v84))) := by
        rcases hat with h | h | h | h <;> (rw [ha140, h]; first | exact Or.inr ⟨by decide, Or.inl (by decide)⟩ | (refine Or.inl ⟨by decide, ?_⟩; simp +decide [hfill]) | (refine Or.inr ⟨by decide, Or.inr ?_⟩; simp +decide [hfill]))
      refine own_st (B := Tg216.setTop (mkF m 231 #[.val (.int p0), .val (.int p1), .val (.int p2), .val (.int p3), .val (.int v3), .val (.int v9), .val (.int v42), .val (.int v80), .val (.int v84), .val (.ref b88), .val (.int (2 : Int32)), .val (.int (2 : Int32)), .unset, .unset, .unset, .unset, .unset] [(.int v84), (.int (2 : Int32)), (.int v80), (.int (2 : Int32)), (.ref b88)])) (fun target kt => ?_) ?_
      · show Steps p.tables e below (Tg216.setTop (mkF m 219 #[.val (.int p0), .val (.int p1), .val (.int p2), .val (.int p3), .val (.int v3), .val (.int v9), .val (.int v42), .val (.int v80), .val (.int v84), .val (.ref b88), .val (.int (2 : Int32)), .val (.int (2 : Int32)), .unset, .unset, .unset, .unset, .unset] [(.int (own_b ((((1 : Int32) < v80) ∧ ((a140 (1 : Int32).toNatClampNeg) = v84)) ∨ (¬ ((1 : Int32) < v80) ∧ (((1 : Int32) < (v80 + (2 : Int32))) ∨ ((a140 (1 : Int32).toNatClampNeg) = v84))))))])) target
        refine XS.ifNo Xg216.here hx rfl (hb hby at_219) rfl ((if0 _ _).trans (feq (own_bn0 rfl c219)).1) ?_
        show Steps p.tables e below (Tg216.setTop (mkF m 222 #[.val (.int p0), .val (.int p1), .val (.int p2), .val (.int p3), .val (.int v3), .val (.int v9), .val (.int v42), .val (.int v80), .val (.int v84), .val (.ref b88), .val (.int (2 : Int32)), .val (.int (2 : Int32)), .unset, .unset, .unset, .unset, .unset] [])) target
        refine XS.aload Xg216.here hx rfl (hb hby at_222) rfl rfl ?_
        show Steps p.tables e below (Tg216.setTop (mkF m 224 #[.val (.int p0), .val (.int p1), .val (.int p2), .val (.int p3), .val (.int v3), .val (.int v9), .val (.int v42), .val (.int v80), .val (.int v84), .val (.ref b88), .val (.int (2 : Int32)), .val (.int (2 : Int32)), .unset, .unset, .unset, .unset, .unset] [(.ref b88)])) target
        refine XS.iconst Xg216.here hx rfl (hb hby at_224) ?_
        show Steps p.tables e below (Tg216.setTop (mkF m 225 #[.val (.int p0), .val (.int p1), .val (.int p2), .val (.int p3), .val (.int v3), .val (.int v9), .val (.int v42), .val (.int v80), .val (.int v84), .val (.ref b88), .val (.int (2 : Int32)), .val (.int (2 : Int32)), .unset, .unset, .unset, .unset, .unset] [(.int (2 : Int32)), (.ref b88)])) target
        refine XS.iload Xg216.here hx rfl (hb hby at_225) rfl ?_
        show Steps p.tables e below (Tg216.setTop (mkF m 227 #[.val (.int p0), .val (.int p1), .val (.int p2), .val (.int p3), .val (.int v3), .val (.int v9), .val (.int v42), .val (.int v80), .val (.int v84), .val (.ref b88), .val (.int (2 : Int32)), .val (.int (2 : Int32)), .unset, .unset, .unset, .unset, .unset] [(.int v80), (.int (2 : Int32)), (.ref b88)])) target
        refine XS.iload Xg216.here hx rfl (hb hby at_227) rfl ?_
        show Steps p.tables e below (Tg216.setTop (mkF m 229 #[.val (.int p0), .val (.int p1), .val (.int p2), .val (.int p3), .val (.int v3), .val (.int v9), .val (.int v42), .val (.int v80), .val (.int v84), .val (.ref b88), .val (.int (2 : Int32)), .val (.int (2 : Int32)), .unset, .unset, .unset, .unset, .unset] [(.int (2 : Int32)), (.int v80), (.int (2 : Int32)), (.ref b88)])) target
        refine XS.iload Xg216.here hx rfl (hb hby at_229) rfl ?_
        exact kt
      obtain ⟨_, _, ⟨Tg231, Lg231, kg231, ng231⟩, -, Xg231, ⟨Lcg231, hQg231, lg231, yg231, zg231⟩, stg231⟩ := Jvm.LawKit.callS Xg216 hx (y := (⟨"com/example/psyche/psyche/XmlCharsEncodePinLaw", "same", "([BIIIB)Z"⟩ : MethodName)) hown (mvT hZ (hw _ (List.mem_of_getElem? (i := 9) rfl))) (mvT hZ (hw _ (List.mem_of_getElem? (i := 10) rfl))) (mvT hZ (hw _ (List.mem_of_getElem? (i := 11) rfl))) (mvT hZ (hw _ (List.mem_of_getElem? (i := 12) rfl))) (by decide) (backOf (W := 0) (own_rm2 l Z a0 hw [] b88 (2 : Int32) v80 (2 : Int32) v84 a140 Tg140.heap n0 Zz_9 F_18 (show ¬ (2 : Int32) < 0 ∧ (2 : Int32).toNatClampNeg < 8 from (by decide))) hZ (hw _ (List.mem_of_getElem? (i := 12) rfl)) (hw _ (List.mem_of_getElem? (i := 11) rfl)) (by decide) (by decide)) (g := (mkF m 231 #[.val (.int p0), .val (.int p1), .val (.int p2), .val (.int p3), .val (.int v3), .val (.int v9), .val (.int v42), .val (.int v80), .val (.int v84), .val (.ref b88), .val (.int (2 : Int32)), .val (.int (2 : Int32)), .unset, .unset, .unset, .unset, .unset] [(.int v84), (.int (2 : Int32)), (.int v80), (.int (2 : Int32)), (.ref b88)])) rfl (by rw [hml]; rfl) (argsL := [(.ref b88), (.int (2 : Int32)), (.int v80), (.int (2 : Int32)), (.int v84)]) (rest := []) (lenOf own_pd1 rfl) rfl (by show 2 * 0 + _ ≤ _; exact Nat.le_of_eq rfl) (hb hby at_231) (fun _ _ => ⟨rfl, eg216, (by decide : 1 + 0 ≤ _), (by decide : 8 + 0 ≤ _)⟩)
      dsimp only [Pt.U, Pt.locs, Pt.cells, Pt.slots] at Xg231 lg231 yg231 zg231 stg231 hQg231
      subst lg231 yg231 zg231
      obtain ⟨rfl, Ng231q, eg231⟩ := hQg231
      have Ng231 := Fr.app Ng216 Ng231q
      refine own_st (stg231) ?_
      have c234 : (((2 : Int32) < v80) ∧ ((a140 (2 : Int32).toNatClampNeg) = v84)) ∨ (¬ ((2 : Int32) < v80) ∧ (((2 : Int32) < (v80 + (2 : Int32))) ∨ ((a140 (2 : Int32).toNatClampNeg) = v84))) := by
        rcases hat with h | h | h | h <;> (rw [ha140, h]; first | exact Or.inr ⟨by decide, Or.inl (by decide)⟩ | (refine Or.inl ⟨by decide, ?_⟩; simp +decide [hfill]) | (refine Or.inr ⟨by decide, Or.inr ?_⟩; simp +decide [hfill]))
      refine own_st (B := Tg231.setTop (mkF m 246 #[.val (.int p0), .val (.int p1), .val (.int p2), .val (.int p3), .val (.int v3), .val (.int v9), .val (.int v42), .val (.int v80), .val (.int v84), .val (.ref b88), .val (.int (2 : Int32)), .val (.int (2 : Int32)), .unset, .unset, .unset, .unset, .unset] [(.int v84), (.int (2 : Int32)), (.int v80), (.int (3 : Int32)), (.ref b88)])) (fun target kt => ?_) ?_
      · show Steps p.tables e below (Tg231.setTop (mkF m 234 #[.val (.int p0), .val (.int p1), .val (.int p2), .val (.int p3), .val (.int v3), .val (.int v9), .val (.int v42), .val (.int v80), .val (.int v84), .val (.ref b88), .val (.int (2 : Int32)), .val (.int (2 : Int32)), .unset, .unset, .unset, .unset, .unset] [(.int (own_b ((((2 : Int32) < v80) ∧ ((a140 (2 : Int32).toNatClampNeg) = v84)) ∨ (¬ ((2 : Int32) < v80) ∧ (((2 : Int32) < (v80 + (2 : Int32))) ∨ ((a140 (2 : Int32).toNatClampNeg) = v84))))))])) target
        refine XS.ifNo Xg231.here hx rfl (hb hby at_234) rfl ((if0 _ _).trans (feq (own_bn0 rfl c234)).1) ?_
        show Steps p.tables e below (Tg231.setTop (mkF m 237 #[.val (.int p0), .val (.int p1), .val (.int p2), .val (.int p3), .val (.int v3), .val (.int v9), .val (.int v42), .val (.int v80), .val (.int v84), .val (.ref b88), .val (.int (2 : Int32)), .val (.int (2 : Int32)), .unset, .unset, .unset, .unset, .unset] [])) target
        refine XS.aload Xg231.here hx rfl (hb hby at_237) rfl rfl ?_
        show Steps p.tables e below (Tg231.setTop (mkF m 239 #[.val (.int p0), .val (.int p1), .val (.int p2), .val (.int p3), .val (.int v3), .val (.int v9), .val (.int v42), .val (.int v80), .val (.int v84), .val (.ref b88), .val (.int (2 : Int32)), .val (.int (2 : Int32)), .unset, .unset, .unset, .unset, .unset] [(.ref b88)])) target
        refine XS.iconst Xg231.here hx rfl (hb hby at_239) ?_
        show Steps p.tables e below (Tg231.setTop (mkF m 240 #[.val (.int p0), .val (.int p1), .val (.int p2), .val (.int p3), .val (.int v3), .val (.int v9), .val (.int v42), .val (.int v80), .val (.int v84), .val (.ref b88), .val (.int (2 : Int32)), .val (.int (2 : Int32)), .unset, .unset, .unset, .unset, .unset] [(.int (3 : Int32)), (.ref b88)])) target
        refine XS.iload Xg231.here hx rfl (hb hby at_240) rfl ?_
        show Steps p.tables e below (Tg231.setTop (mkF m 242 #[.val (.int p0), .val (.int p1), .val (.int p2), .val (.int p3), .val (.int v3), .val (.int v9), .val (.int v42), .val (.int v80), .val (.int v84), .val (.ref b88), .val (.int (2 : Int32)), .val (.int (2 : Int32)), .unset, .unset, .unset, .unset, .unset] [(.int v80), (.int (3 : Int32)), (.ref b88)])) target
        refine XS.iload Xg231.here hx rfl (hb hby at_242) rfl ?_
        show Steps p.tables e below (Tg231.setTop (mkF m 244 #[.val (.int p0), .val (.int p1), .val (.int p2), .val (.int p3), .val (.int v3), .val (.int v9), .val (.int v42), .val (.int v80), .val (.int v84), .val (.ref b88), .val (.int (2 : Int32)), .val (.int (2 : Int32)), .unset, .unset, .unset, .unset, .unset] [(.int (2 : Int32)), (.int v80), (.int (3 : Int32)), (.ref b88)])) target
        refine XS.iload Xg231.here hx rfl (hb hby at_244) rfl ?_
        exact kt
      obtain ⟨_, _, ⟨Tg246, Lg246, kg246, ng246⟩, -, Xg246, ⟨Lcg246, hQg246, lg246, yg246, zg246⟩, stg246⟩ := Jvm.LawKit.callS Xg231 hx (y := (⟨"com/example/psyche/psyche/XmlCharsEncodePinLaw", "same", "([BIIIB)Z"⟩ : MethodName)) hown (mvT hZ (hw _ (List.mem_of_getElem? (i := 9) rfl))) (mvT hZ (hw _ (List.mem_of_getElem? (i := 10) rfl))) (mvT hZ (hw _ (List.mem_of_getElem? (i := 11) rfl))) (mvT hZ (hw _ (List.mem_of_getElem? (i := 12) rfl))) (by decide) (backOf (W := 0) (own_rm2 l Z a0 hw [] b88 (3 : Int32) v80 (2 : Int32) v84 a140 Tg140.heap n0 Zz_9 F_18 (show ¬ (3 : Int32) < 0 ∧ (3 : Int32).toNatClampNeg < 8 from (by decide))) hZ (hw _ (List.mem_of_getElem? (i := 12) rfl)) (hw _ (List.mem_of_getElem? (i := 11) rfl)) (by decide) (by decide)) (g := (mkF m 246 #[.val (.int p0), .val (.int p1), .val (.int p2), .val (.int p3), .val (.int v3), .val (.int v9), .val (.int v42), .val (.int v80), .val (.int v84), .val (.ref b88), .val (.int (2 : Int32)), .val (.int (2 : Int32)), .unset, .unset, .unset, .unset, .unset] [(.int v84), (.int (2 : Int32)), (.int v80), (.int (3 : Int32)), (.ref b88)])) rfl (by rw [hml]; rfl) (argsL := [(.ref b88), (.int (3 : Int32)), (.int v80), (.int (2 : Int32)), (.int v84)]) (rest := []) (lenOf own_pd1 rfl) rfl (by show 2 * 0 + _ ≤ _; exact Nat.le_of_eq rfl) (hb hby at_246) (fun _ _ => ⟨rfl, eg231, (by decide : 1 + 0 ≤ _), (by decide : 8 + 0 ≤ _)⟩)
      dsimp only [Pt.U, Pt.locs, Pt.cells, Pt.slots] at Xg246 lg246 yg246 zg246 stg246 hQg246
      subst lg246 yg246 zg246
      obtain ⟨rfl, Ng246q, eg246⟩ := hQg246
      have Ng246 := Fr.app Ng231 Ng246q
      refine own_st (stg246) ?_
      have c249 : (((3 : Int32) < v80) ∧ ((a140 (3 : Int32).toNatClampNeg) = v84)) ∨ (¬ ((3 : Int32) < v80) ∧ (((3 : Int32) < (v80 + (2 : Int32))) ∨ ((a140 (3 : Int32).toNatClampNeg) = v84))) := by
        rcases hat with h | h | h | h <;> (rw [ha140, h]; first | exact Or.inr ⟨by decide, Or.inl (by decide)⟩ | (refine Or.inl ⟨by decide, ?_⟩; simp +decide [hfill]) | (refine Or.inr ⟨by decide, Or.inr ?_⟩; simp +decide [hfill]))
      refine own_st (B := Tg246.setTop (mkF m 261 #[.val (.int p0), .val (.int p1), .val (.int p2), .val (.int p3), .val (.int v3), .val (.int v9), .val (.int v42), .val (.int v80), .val (.int v84), .val (.ref b88), .val (.int (2 : Int32)), .val (.int (2 : Int32)), .unset, .unset, .unset, .unset, .unset] [(.int v84), (.int (2 : Int32)), (.int v80), (.int (4 : Int32)), (.ref b88)])) (fun target kt => ?_) ?_
      · show Steps p.tables e below (Tg246.setTop (mkF m 249 #[.val (.int p0), .val (.int p1), .val (.int p2), .val (.int p3), .val (.int v3), .val (.int v9), .val (.int v42), .val (.int v80), .val (.int v84), .val (.ref b88), .val (.int (2 : Int32)), .val (.int (2 : Int32)), .unset, .unset, .unset, .unset, .unset] [(.int (own_b ((((3 : Int32) < v80) ∧ ((a140 (3 : Int32).toNatClampNeg) = v84)) ∨ (¬ ((3 : Int32) < v80) ∧ (((3 : Int32) < (v80 + (2 : Int32))) ∨ ((a140 (3 : Int32).toNatClampNeg) = v84))))))])) target
        refine XS.ifNo Xg246.here hx rfl (hb hby at_249) rfl ((if0 _ _).trans (feq (own_bn0 rfl c249)).1) ?_
        show Steps p.tables e below (Tg246.setTop (mkF m 252 #[.val (.int p0), .val (.int p1), .val (.int p2), .val (.int p3), .val (.int v3), .val (.int v9), .val (.int v42), .val (.int v80), .val (.int v84), .val (.ref b88), .val (.int (2 : Int32)), .val (.int (2 : Int32)), .unset, .unset, .unset, .unset, .unset] [])) target
        refine XS.aload Xg246.here hx rfl (hb hby at_252) rfl rfl ?_
        show Steps p.tables e below (Tg246.setTop (mkF m 254 #[.val (.int p0), .val (.int p1), .val (.int p2), .val (.int p3), .val (.int v3), .val (.int v9), .val (.int v42), .val (.int v80), .val (.int v84), .val (.ref b88), .val (.int (2 : Int32)), .val (.int (2 : Int32)), .unset, .unset, .unset, .unset, .unset] [(.ref b88)])) target
        refine XS.iconst Xg246.here hx rfl (hb hby at_254) ?_
        show Steps p.tables e below (Tg246.setTop (mkF m 255 #[.val (.int p0), .val (.int p1), .val (.int p2), .val (.int p3), .val (.int v3), .val (.int v9), .val (.int v42), .val (.int v80), .val (.int v84), .val (.ref b88), .val (.int (2 : Int32)), .val (.int (2 : Int32)), .unset, .unset, .unset, .unset, .unset] [(.int (4 : Int32)), (.ref b88)])) target
        refine XS.iload Xg246.here hx rfl (hb hby at_255) rfl ?_
        show Steps p.tables e below (Tg246.setTop (mkF m 257 #[.val (.int p0), .val (.int p1), .val (.int p2), .val (.int p3), .val (.int v3), .val (.int v9), .val (.int v42), .val (.int v80), .val (.int v84), .val (.ref b88), .val (.int (2 : Int32)), .val (.int (2 : Int32)), .unset, .unset, .unset, .unset, .unset] [(.int v80), (.int (4 : Int32)), (.ref b88)])) target
        refine XS.iload Xg246.here hx rfl (hb hby at_257) rfl ?_
        show Steps p.tables e below (Tg246.setTop (mkF m 259 #[.val (.int p0), .val (.int p1), .val (.int p2), .val (.int p3), .val (.int v3), .val (.int v9), .val (.int v42), .val (.int v80), .val (.int v84), .val (.ref b88), .val (.int (2 : Int32)), .val (.int (2 : Int32)), .unset, .unset, .unset, .unset, .unset] [(.int (2 : Int32)), (.int v80), (.int (4 : Int32)), (.ref b88)])) target
        refine XS.iload Xg246.here hx rfl (hb hby at_259) rfl ?_
        exact kt
      obtain ⟨_, _, ⟨Tg261, Lg261, kg261, ng261⟩, -, Xg261, ⟨Lcg261, hQg261, lg261, yg261, zg261⟩, stg261⟩ := Jvm.LawKit.callS Xg246 hx (y := (⟨"com/example/psyche/psyche/XmlCharsEncodePinLaw", "same", "([BIIIB)Z"⟩ : MethodName)) hown (mvT hZ (hw _ (List.mem_of_getElem? (i := 9) rfl))) (mvT hZ (hw _ (List.mem_of_getElem? (i := 10) rfl))) (mvT hZ (hw _ (List.mem_of_getElem? (i := 11) rfl))) (mvT hZ (hw _ (List.mem_of_getElem? (i := 12) rfl))) (by decide) (backOf (W := 0) (own_rm2 l Z a0 hw [] b88 (4 : Int32) v80 (2 : Int32) v84 a140 Tg140.heap n0 Zz_9 F_18 (show ¬ (4 : Int32) < 0 ∧ (4 : Int32).toNatClampNeg < 8 from (by decide))) hZ (hw _ (List.mem_of_getElem? (i := 12) rfl)) (hw _ (List.mem_of_getElem? (i := 11) rfl)) (by decide) (by decide)) (g := (mkF m 261 #[.val (.int p0), .val (.int p1), .val (.int p2), .val (.int p3), .val (.int v3), .val (.int v9), .val (.int v42), .val (.int v80), .val (.int v84), .val (.ref b88), .val (.int (2 : Int32)), .val (.int (2 : Int32)), .unset, .unset, .unset, .unset, .unset] [(.int v84), (.int (2 : Int32)), (.int v80), (.int (4 : Int32)), (.ref b88)])) rfl (by rw [hml]; rfl) (argsL := [(.ref b88), (.int (4 : Int32)), (.int v80), (.int (2 : Int32)), (.int v84)]) (rest := []) (lenOf own_pd1 rfl) rfl (by show 2 * 0 + _ ≤ _; exact Nat.le_of_eq rfl) (hb hby at_261) (fun _ _ => ⟨rfl, eg246, (by decide : 1 + 0 ≤ _), (by decide : 8 + 0 ≤ _)⟩)
      dsimp only [Pt.U, Pt.locs, Pt.cells, Pt.slots] at Xg261 lg261 yg261 zg261 stg261 hQg261
      subst lg261 yg261 zg261
      obtain ⟨rfl, Ng261q, eg261⟩ := hQg261
      have Ng261 := Fr.app Ng246 Ng261q
      refine own_st (stg261) ?_
      have c264 : (((4 : Int32) < v80) ∧ ((a140 (4 : Int32).toNatClampNeg) = v84)) ∨ (¬ ((4 : Int32) < v80) ∧ (((4 : Int32) < (v80 + (2 : Int32))) ∨ ((a140 (4 : Int32).toNatClampNeg) = v84))) := by
        rcases hat with h | h | h | h <;> (rw [ha140, h]; first | exact Or.inr ⟨by decide, Or.inl (by decide)⟩ | (refine Or.inl ⟨by decide, ?_⟩; simp +decide [hfill]) | (refine Or.inr ⟨by decide, Or.inr ?_⟩; simp +decide [hfill]))
      refine own_st (B := Tg261.setTop (mkF m 276 #[.val (.int p0), .val (.int p1), .val (.int p2), .val (.int p3), .val (.int v3), .val (.int v9), .val (.int v42), .val (.int v80), .val (.int v84), .val (.ref b88), .val (.int (2 : Int32)), .val (.int (2 : Int32)), .unset, .unset, .unset, .unset, .unset] [(.int v84), (.int (2 : Int32)), (.int v80), (.int (5 : Int32)), (.ref b88)])) (fun target kt => ?_) ?_
      · show Steps p.tables e below (Tg261.setTop (mkF m 264 #[.val (.int p0), .val (.int p1), .val (.int p2), .val (.int p3), .val (.int v3), .val (.int v9), .val (.int v42), .val (.int v80), .val (.int v84), .val (.ref b88), .val (.int (2 : Int32)), .val (.int (2 : Int32)), .unset, .unset, .unset, .unset, .unset] [(.int (own_b ((((4 : Int32) < v80) ∧ ((a140 (4 : Int32).toNatClampNeg) = v84)) ∨ (¬ ((4 : Int32) < v80) ∧ (((4 : Int32) < (v80 + (2 : Int32))) ∨ ((a140 (4 : Int32).toNatClampNeg) = v84))))))])) target
        refine XS.ifNo Xg261.here hx rfl (hb hby at_264) rfl ((if0 _ _).trans (feq (own_bn0 rfl c264)).1) ?_
        show Steps p.tables e below (Tg261.setTop (mkF m 267 #[.val (.int p0), .val (.int p1), .val (.int p2), .val (.int p3), .val (.int v3), .val (.int v9), .val (.int v42), .val (.int v80), .val (.int v84), .val (.ref b88), .val (.int (2 : Int32)), .val (.int (2 : Int32)), .unset, .unset, .unset, .unset, .unset] [])) target
        refine XS.aload Xg261.here hx rfl (hb hby at_267) rfl rfl ?_
        show Steps p.tables e below (Tg261.setTop (mkF m 269 #[.val (.int p0), .val (.int p1), .val (.int p2), .val (.int p3), .val (.int v3), .val (.int v9), .val (.int v42), .val (.int v80), .val (.int v84), .val (.ref b88), .val (.int (2 : Int32)), .val (.int (2 : Int32)), .unset, .unset, .unset, .unset, .unset] [(.ref b88)])) target
        refine XS.iconst Xg261.here hx rfl (hb hby at_269) ?_
        show Steps p.tables e below (Tg261.setTop (mkF m 270 #[.val (.int p0), .val (.int p1), .val (.int p2), .val (.int p3), .val (.int v3), .val (.int v9), .val (.int v42), .val (.int v80), .val (.int v84), .val (.ref b88), .val (.int (2 : Int32)), .val (.int (2 : Int32)), .unset, .unset, .unset, .unset, .unset] [(.int (5 : Int32)), (.ref b88)])) target
        refine XS.iload Xg261.here hx rfl (hb hby at_270) rfl ?_
        show Steps p.tables e below (Tg261.setTop (mkF m 272 #[.val (.int p0), .val (.int p1), .val (.int p2), .val (.int p3), .val (.int v3), .val (.int v9), .val (.int v42), .val (.int v80), .val (.int v84), .val (.ref b88), .val (.int (2 : Int32)), .val (.int (2 : Int32)), .unset, .unset, .unset, .unset, .unset] [(.int v80), (.int (5 : Int32)), (.ref b88)])) target
        refine XS.iload Xg261.here hx rfl (hb hby at_272) rfl ?_
        show Steps p.tables e below (Tg261.setTop (mkF m 274 #[.val (.int p0), .val (.int p1), .val (.int p2), .val (.int p3), .val (.int v3), .val (.int v9), .val (.int v42), .val (.int v80), .val (.int v84), .val (.ref b88), .val (.int (2 : Int32)), .val (.int (2 : Int32)), .unset, .unset, .unset, .unset, .unset] [(.int (2 : Int32)), (.int v80), (.int (5 : Int32)), (.ref b88)])) target
        refine XS.iload Xg261.here hx rfl (hb hby at_274) rfl ?_
        exact kt
      obtain ⟨_, _, ⟨Tg276, Lg276, kg276, ng276⟩, -, Xg276, ⟨Lcg276, hQg276, lg276, yg276, zg276⟩, stg276⟩ := Jvm.LawKit.callS Xg261 hx (y := (⟨"com/example/psyche/psyche/XmlCharsEncodePinLaw", "same", "([BIIIB)Z"⟩ : MethodName)) hown (mvT hZ (hw _ (List.mem_of_getElem? (i := 9) rfl))) (mvT hZ (hw _ (List.mem_of_getElem? (i := 10) rfl))) (mvT hZ (hw _ (List.mem_of_getElem? (i := 11) rfl))) (mvT hZ (hw _ (List.mem_of_getElem? (i := 12) rfl))) (by decide) (backOf (W := 0) (own_rm2 l Z a0 hw [] b88 (5 : Int32) v80 (2 : Int32) v84 a140 Tg140.heap n0 Zz_9 F_18 (show ¬ (5 : Int32) < 0 ∧ (5 : Int32).toNatClampNeg < 8 from (by decide))) hZ (hw _ (List.mem_of_getElem? (i := 12) rfl)) (hw _ (List.mem_of_getElem? (i := 11) rfl)) (by decide) (by decide)) (g := (mkF m 276 #[.val (.int p0), .val (.int p1), .val (.int p2), .val (.int p3), .val (.int v3), .val (.int v9), .val (.int v42), .val (.int v80), .val (.int v84), .val (.ref b88), .val (.int (2 : Int32)), .val (.int (2 : Int32)), .unset, .unset, .unset, .unset, .unset] [(.int v84), (.int (2 : Int32)), (.int v80), (.int (5 : Int32)), (.ref b88)])) rfl (by rw [hml]; rfl) (argsL := [(.ref b88), (.int (5 : Int32)), (.int v80), (.int (2 : Int32)), (.int v84)]) (rest := []) (lenOf own_pd1 rfl) rfl (by show 2 * 0 + _ ≤ _; exact Nat.le_of_eq rfl) (hb hby at_276) (fun _ _ => ⟨rfl, eg261, (by decide : 1 + 0 ≤ _), (by decide : 8 + 0 ≤ _)⟩)
      dsimp only [Pt.U, Pt.locs, Pt.cells, Pt.slots] at Xg276 lg276 yg276 zg276 stg276 hQg276
      subst lg276 yg276 zg276
      obtain ⟨rfl, Ng276q, eg276⟩ := hQg276
      have Ng276 := Fr.app Ng261 Ng276q
      refine own_st (stg276) ?_
      have c279 : (((5 : Int32) < v80) ∧ ((a140 (5 : Int32).toNatClampNeg) = v84)) ∨ (¬ ((5 : Int32) < v80) ∧ (((5 : Int32) < (v80 + (2 : Int32))) ∨ ((a140 (5 : Int32).toNatClampNeg) = v84))) := by
        rcases hat with h | h | h | h <;> (rw [ha140, h]; first | exact Or.inr ⟨by decide, Or.inl (by decide)⟩ | (refine Or.inl ⟨by decide, ?_⟩; simp +decide [hfill]) | (refine Or.inr ⟨by decide, Or.inr ?_⟩; simp +decide [hfill]))
      refine own_st (B := Tg276.setTop (mkF m 292 #[.val (.int p0), .val (.int p1), .val (.int p2), .val (.int p3), .val (.int v3), .val (.int v9), .val (.int v42), .val (.int v80), .val (.int v84), .val (.ref b88), .val (.int (2 : Int32)), .val (.int (2 : Int32)), .unset, .unset, .unset, .unset, .unset] [(.int v84), (.int (2 : Int32)), (.int v80), (.int (6 : Int32)), (.ref b88)])) (fun target kt => ?_) ?_
      · show Steps p.tables e below (Tg276.setTop (mkF m 279 #[.val (.int p0), .val (.int p1), .val (.int p2), .val (.int p3), .val (.int v3), .val (.int v9), .val (.int v42), .val (.int v80), .val (.int v84), .val (.ref b88), .val (.int (2 : Int32)), .val (.int (2 : Int32)), .unset, .unset, .unset, .unset, .unset] [(.int (own_b ((((5 : Int32) < v80) ∧ ((a140 (5 : Int32).toNatClampNeg) = v84)) ∨ (¬ ((5 : Int32) < v80) ∧ (((5 : Int32) < (v80 + (2 : Int32))) ∨ ((a140 (5 : Int32).toNatClampNeg) = v84))))))])) target
        refine XS.ifNo Xg276.here hx rfl (hb hby at_279) rfl ((if0 _ _).trans (feq (own_bn0 rfl c279)).1) ?_
        show Steps p.tables e below (Tg276.setTop (mkF m 282 #[.val (.int p0), .val (.int p1), .val (.int p2), .val (.int p3), .val (.int v3), .val (.int v9), .val (.int v42), .val (.int v80), .val (.int v84), .val (.ref b88), .val (.int (2 : Int32)), .val (.int (2 : Int32)), .unset, .unset, .unset, .unset, .unset] [])) target
        refine XS.aload Xg276.here hx rfl (hb hby at_282) rfl rfl ?_
        show Steps p.tables e below (Tg276.setTop (mkF m 284 #[.val (.int p0), .val (.int p1), .val (.int p2), .val (.int p3), .val (.int v3), .val (.int v9), .val (.int v42), .val (.int v80), .val (.int v84), .val (.ref b88), .val (.int (2 : Int32)), .val (.int (2 : Int32)), .unset, .unset, .unset, .unset, .unset] [(.ref b88)])) target
        refine XS.bipush Xg276.here hx rfl (hb hby at_284) ?_
        show Steps p.tables e below (Tg276.setTop (mkF m 286 #[.val (.int p0), .val (.int p1), .val (.int p2), .val (.int p3), .val (.int v3), .val (.int v9), .val (.int v42), .val (.int v80), .val (.int v84), .val (.ref b88), .val (.int (2 : Int32)), .val (.int (2 : Int32)), .unset, .unset, .unset, .unset, .unset] [(.int (6 : Int32)), (.ref b88)])) target
        refine XS.iload Xg276.here hx rfl (hb hby at_286) rfl ?_
        show Steps p.tables e below (Tg276.setTop (mkF m 288 #[.val (.int p0), .val (.int p1), .val (.int p2), .val (.int p3), .val (.int v3), .val (.int v9), .val (.int v42), .val (.int v80), .val (.int v84), .val (.ref b88), .val (.int (2 : Int32)), .val (.int (2 : Int32)), .unset, .unset, .unset, .unset, .unset] [(.int v80), (.int (6 : Int32)), (.ref b88)])) target
        refine XS.iload Xg276.here hx rfl (hb hby at_288) rfl ?_
        show Steps p.tables e below (Tg276.setTop (mkF m 290 #[.val (.int p0), .val (.int p1), .val (.int p2), .val (.int p3), .val (.int v3), .val (.int v9), .val (.int v42), .val (.int v80), .val (.int v84), .val (.ref b88), .val (.int (2 : Int32)), .val (.int (2 : Int32)), .unset, .unset, .unset, .unset, .unset] [(.int (2 : Int32)), (.int v80), (.int (6 : Int32)), (.ref b88)])) target
        refine XS.iload Xg276.here hx rfl (hb hby at_290) rfl ?_
        exact kt
      obtain ⟨_, _, ⟨Tg292, Lg292, kg292, ng292⟩, -, Xg292, ⟨Lcg292, hQg292, lg292, yg292, zg292⟩, stg292⟩ := Jvm.LawKit.callS Xg276 hx (y := (⟨"com/example/psyche/psyche/XmlCharsEncodePinLaw", "same", "([BIIIB)Z"⟩ : MethodName)) hown (mvT hZ (hw _ (List.mem_of_getElem? (i := 9) rfl))) (mvT hZ (hw _ (List.mem_of_getElem? (i := 10) rfl))) (mvT hZ (hw _ (List.mem_of_getElem? (i := 11) rfl))) (mvT hZ (hw _ (List.mem_of_getElem? (i := 12) rfl))) (by decide) (backOf (W := 0) (own_rm2 l Z a0 hw [] b88 (6 : Int32) v80 (2 : Int32) v84 a140 Tg140.heap n0 Zz_9 F_18 (show ¬ (6 : Int32) < 0 ∧ (6 : Int32).toNatClampNeg < 8 from (by decide))) hZ (hw _ (List.mem_of_getElem? (i := 12) rfl)) (hw _ (List.mem_of_getElem? (i := 11) rfl)) (by decide) (by decide)) (g := (mkF m 292 #[.val (.int p0), .val (.int p1), .val (.int p2), .val (.int p3), .val (.int v3), .val (.int v9), .val (.int v42), .val (.int v80), .val (.int v84), .val (.ref b88), .val (.int (2 : Int32)), .val (.int (2 : Int32)), .unset, .unset, .unset, .unset, .unset] [(.int v84), (.int (2 : Int32)), (.int v80), (.int (6 : Int32)), (.ref b88)])) rfl (by rw [hml]; rfl) (argsL := [(.ref b88), (.int (6 : Int32)), (.int v80), (.int (2 : Int32)), (.int v84)]) (rest := []) (lenOf own_pd1 rfl) rfl (by show 2 * 0 + _ ≤ _; exact Nat.le_of_eq rfl) (hb hby at_292) (fun _ _ => ⟨rfl, eg276, (by decide : 1 + 0 ≤ _), (by decide : 8 + 0 ≤ _)⟩)
      dsimp only [Pt.U, Pt.locs, Pt.cells, Pt.slots] at Xg292 lg292 yg292 zg292 stg292 hQg292
      subst lg292 yg292 zg292
      obtain ⟨rfl, Ng292q, eg292⟩ := hQg292
      have Ng292 := Fr.app Ng276 Ng292q
      refine own_st (stg292) ?_
      have c295 : (((6 : Int32) < v80) ∧ ((a140 (6 : Int32).toNatClampNeg) = v84)) ∨ (¬ ((6 : Int32) < v80) ∧ (((6 : Int32) < (v80 + (2 : Int32))) ∨ ((a140 (6 : Int32).toNatClampNeg) = v84))) := by
        rcases hat with h | h | h | h <;> (rw [ha140, h]; first | exact Or.inr ⟨by decide, Or.inl (by decide)⟩ | (refine Or.inl ⟨by decide, ?_⟩; simp +decide [hfill]) | (refine Or.inr ⟨by decide, Or.inr ?_⟩; simp +decide [hfill]))
      refine own_st (B := Tg292.setTop (mkF m 308 #[.val (.int p0), .val (.int p1), .val (.int p2), .val (.int p3), .val (.int v3), .val (.int v9), .val (.int v42), .val (.int v80), .val (.int v84), .val (.ref b88), .val (.int (2 : Int32)), .val (.int (2 : Int32)), .unset, .unset, .unset, .unset, .unset] [(.int v84), (.int (2 : Int32)), (.int v80), (.int (7 : Int32)), (.ref b88)])) (fun target kt => ?_) ?_
      · show Steps p.tables e below (Tg292.setTop (mkF m 295 #[.val (.int p0), .val (.int p1), .val (.int p2), .val (.int p3), .val (.int v3), .val (.int v9), .val (.int v42), .val (.int v80), .val (.int v84), .val (.ref b88), .val (.int (2 : Int32)), .val (.int (2 : Int32)), .unset, .unset, .unset, .unset, .unset] [(.int (own_b ((((6 : Int32) < v80) ∧ ((a140 (6 : Int32).toNatClampNeg) = v84)) ∨ (¬ ((6 : Int32) < v80) ∧ (((6 : Int32) < (v80 + (2 : Int32))) ∨ ((a140 (6 : Int32).toNatClampNeg) = v84))))))])) target
        refine XS.ifNo Xg292.here hx rfl (hb hby at_295) rfl ((if0 _ _).trans (feq (own_bn0 rfl c295)).1) ?_
        show Steps p.tables e below (Tg292.setTop (mkF m 298 #[.val (.int p0), .val (.int p1), .val (.int p2), .val (.int p3), .val (.int v3), .val (.int v9), .val (.int v42), .val (.int v80), .val (.int v84), .val (.ref b88), .val (.int (2 : Int32)), .val (.int (2 : Int32)), .unset, .unset, .unset, .unset, .unset] [])) target
        refine XS.aload Xg292.here hx rfl (hb hby at_298) rfl rfl ?_
        show Steps p.tables e below (Tg292.setTop (mkF m 300 #[.val (.int p0), .val (.int p1), .val (.int p2), .val (.int p3), .val (.int v3), .val (.int v9), .val (.int v42), .val (.int v80), .val (.int v84), .val (.ref b88), .val (.int (2 : Int32)), .val (.int (2 : Int32)), .unset, .unset, .unset, .unset, .unset] [(.ref b88)])) target
        refine XS.bipush Xg292.here hx rfl (hb hby at_300) ?_
        show Steps p.tables e below (Tg292.setTop (mkF m 302 #[.val (.int p0), .val (.int p1), .val (.int p2), .val (.int p3), .val (.int v3), .val (.int v9), .val (.int v42), .val (.int v80), .val (.int v84), .val (.ref b88), .val (.int (2 : Int32)), .val (.int (2 : Int32)), .unset, .unset, .unset, .unset, .unset] [(.int (7 : Int32)), (.ref b88)])) target
        refine XS.iload Xg292.here hx rfl (hb hby at_302) rfl ?_
        show Steps p.tables e below (Tg292.setTop (mkF m 304 #[.val (.int p0), .val (.int p1), .val (.int p2), .val (.int p3), .val (.int v3), .val (.int v9), .val (.int v42), .val (.int v80), .val (.int v84), .val (.ref b88), .val (.int (2 : Int32)), .val (.int (2 : Int32)), .unset, .unset, .unset, .unset, .unset] [(.int v80), (.int (7 : Int32)), (.ref b88)])) target
        refine XS.iload Xg292.here hx rfl (hb hby at_304) rfl ?_
        show Steps p.tables e below (Tg292.setTop (mkF m 306 #[.val (.int p0), .val (.int p1), .val (.int p2), .val (.int p3), .val (.int v3), .val (.int v9), .val (.int v42), .val (.int v80), .val (.int v84), .val (.ref b88), .val (.int (2 : Int32)), .val (.int (2 : Int32)), .unset, .unset, .unset, .unset, .unset] [(.int (2 : Int32)), (.int v80), (.int (7 : Int32)), (.ref b88)])) target
        refine XS.iload Xg292.here hx rfl (hb hby at_306) rfl ?_
        exact kt
      obtain ⟨_, _, ⟨Tg308, Lg308, kg308, ng308⟩, -, Xg308, ⟨Lcg308, hQg308, lg308, yg308, zg308⟩, stg308⟩ := Jvm.LawKit.callS Xg292 hx (y := (⟨"com/example/psyche/psyche/XmlCharsEncodePinLaw", "same", "([BIIIB)Z"⟩ : MethodName)) hown (mvT hZ (hw _ (List.mem_of_getElem? (i := 9) rfl))) (mvT hZ (hw _ (List.mem_of_getElem? (i := 10) rfl))) (mvT hZ (hw _ (List.mem_of_getElem? (i := 11) rfl))) (mvT hZ (hw _ (List.mem_of_getElem? (i := 12) rfl))) (by decide) (backOf (W := 0) (own_rm2 l Z a0 hw [] b88 (7 : Int32) v80 (2 : Int32) v84 a140 Tg140.heap n0 Zz_9 F_18 (show ¬ (7 : Int32) < 0 ∧ (7 : Int32).toNatClampNeg < 8 from (by decide))) hZ (hw _ (List.mem_of_getElem? (i := 12) rfl)) (hw _ (List.mem_of_getElem? (i := 11) rfl)) (by decide) (by decide)) (g := (mkF m 308 #[.val (.int p0), .val (.int p1), .val (.int p2), .val (.int p3), .val (.int v3), .val (.int v9), .val (.int v42), .val (.int v80), .val (.int v84), .val (.ref b88), .val (.int (2 : Int32)), .val (.int (2 : Int32)), .unset, .unset, .unset, .unset, .unset] [(.int v84), (.int (2 : Int32)), (.int v80), (.int (7 : Int32)), (.ref b88)])) rfl (by rw [hml]; rfl) (argsL := [(.ref b88), (.int (7 : Int32)), (.int v80), (.int (2 : Int32)), (.int v84)]) (rest := []) (lenOf own_pd1 rfl) rfl (by show 2 * 0 + _ ≤ _; exact Nat.le_of_eq rfl) (hb hby at_308) (fun _ _ => ⟨rfl, eg292, (by decide : 1 + 0 ≤ _), (by decide : 8 + 0 ≤ _)⟩)
      dsimp only [Pt.U, Pt.locs, Pt.cells, Pt.slots] at Xg308 lg308 yg308 zg308 stg308 hQg308
      subst lg308 yg308 zg308
      obtain ⟨rfl, Ng308q, eg308⟩ := hQg308
      have Ng308 := Fr.app Ng292 Ng308q
      refine own_st (stg308) ?_
      have c311 : (((7 : Int32) < v80) ∧ ((a140 (7 : Int32).toNatClampNeg) = v84)) ∨ (¬ ((7 : Int32) < v80) ∧ (((7 : Int32) < (v80 + (2 : Int32))) ∨ ((a140 (7 : Int32).toNatClampNeg) = v84))) := by
        rcases hat with h | h | h | h <;> (rw [ha140, h]; first | exact Or.inr ⟨by decide, Or.inl (by decide)⟩ | (refine Or.inl ⟨by decide, ?_⟩; simp +decide [hfill]) | (refine Or.inr ⟨by decide, Or.inr ?_⟩; simp +decide [hfill]))
      refine own_st (B := Tg308.setTop (mkF m 328 #[.val (.int p0), .val (.int p1), .val (.int p2), .val (.int p3), .val (.int v3), .val (.int v9), .val (.int v42), .val (.int v80), .val (.int v84), .val (.ref b88), .val (.int (2 : Int32)), .val (.int (2 : Int32)), .val (.int (1 : Int32)), .unset, .unset, .unset, .unset] [])) (fun target kt => ?_) ?_
      · show Steps p.tables e below (Tg308.setTop (mkF m 311 #[.val (.int p0), .val (.int p1), .val (.int p2), .val (.int p3), .val (.int v3), .val (.int v9), .val (.int v42), .val (.int v80), .val (.int v84), .val (.ref b88), .val (.int (2 : Int32)), .val (.int (2 : Int32)), .unset, .unset, .unset, .unset, .unset] [(.int (own_b ((((7 : Int32) < v80) ∧ ((a140 (7 : Int32).toNatClampNeg) = v84)) ∨ (¬ ((7 : Int32) < v80) ∧ (((7 : Int32) < (v80 + (2 : Int32))) ∨ ((a140 (7 : Int32).toNatClampNeg) = v84))))))])) target
        refine XS.ifNo Xg308.here hx rfl (hb hby at_311) rfl ((if0 _ _).trans (feq (own_bn0 rfl c311)).1) ?_
        show Steps p.tables e below (Tg308.setTop (mkF m 314 #[.val (.int p0), .val (.int p1), .val (.int p2), .val (.int p3), .val (.int v3), .val (.int v9), .val (.int v42), .val (.int v80), .val (.int v84), .val (.ref b88), .val (.int (2 : Int32)), .val (.int (2 : Int32)), .unset, .unset, .unset, .unset, .unset] [])) target
        refine XS.iconst Xg308.here hx rfl (hb hby at_314) ?_
        show Steps p.tables e below (Tg308.setTop (mkF m 315 #[.val (.int p0), .val (.int p1), .val (.int p2), .val (.int p3), .val (.int v3), .val (.int v9), .val (.int v42), .val (.int v80), .val (.int v84), .val (.ref b88), .val (.int (2 : Int32)), .val (.int (2 : Int32)), .unset, .unset, .unset, .unset, .unset] [(.int (1 : Int32))])) target
        refine XS.goto Xg308.here hx rfl (pc0 := 315) (pc' := 319) rfl (hb hby at_315) (by decide) (by decide) ?_
        show Steps p.tables e below (Tg308.setTop (mkF m 319 #[.val (.int p0), .val (.int p1), .val (.int p2), .val (.int p3), .val (.int v3), .val (.int v9), .val (.int v42), .val (.int v80), .val (.int v84), .val (.ref b88), .val (.int (2 : Int32)), .val (.int (2 : Int32)), .unset, .unset, .unset, .unset, .unset] [(.int (1 : Int32))])) target
        refine XS.istore Xg308.here hx rfl (hb hby at_319) rfl (l' := #[.val (.int p0), .val (.int p1), .val (.int p2), .val (.int p3), .val (.int v3), .val (.int v9), .val (.int v42), .val (.int v80), .val (.int v84), .val (.ref b88), .val (.int (2 : Int32)), .val (.int (2 : Int32)), .val (.int (1 : Int32)), .unset, .unset, .unset, .unset]) rfl ?_
        show Steps p.tables e below (Tg308.setTop (mkF m 321 #[.val (.int p0), .val (.int p1), .val (.int p2), .val (.int p3), .val (.int v3), .val (.int v9), .val (.int v42), .val (.int v80), .val (.int v84), .val (.ref b88), .val (.int (2 : Int32)), .val (.int (2 : Int32)), .val (.int (1 : Int32)), .unset, .unset, .unset, .unset] [])) target
        refine XS.iload Xg308.here hx rfl (hb hby at_321) rfl ?_
        show Steps p.tables e below (Tg308.setTop (mkF m 323 #[.val (.int p0), .val (.int p1), .val (.int p2), .val (.int p3), .val (.int v3), .val (.int v9), .val (.int v42), .val (.int v80), .val (.int v84), .val (.ref b88), .val (.int (2 : Int32)), .val (.int (2 : Int32)), .val (.int (1 : Int32)), .unset, .unset, .unset, .unset] [(.int (1 : Int32))])) target
        refine XS.ifYes Xg308.here hx rfl (pc0 := 323) (pc' := 328) rfl (hb hby at_323) rfl ((if0 _ _).trans (feq (by decide : ¬ ((1 : Int32) = (0 : Int32)))).2) (by decide) (by decide) ?_
        exact kt
      have hin := own_in v80 hat
      have hb0 : a140 (v80).toNatClampNeg = nar .byte (((192 : Int32) ||| (v42 >>> ((6 : Int32) &&& 31))).toInt8.toInt32) := by
        rw [ha140]
        rcases hat with h | h | h | h <;> (rw [h]; simp +decide)
      have hb1 : a140 (v80 + (1 : Int32)).toNatClampNeg = nar .byte (((128 : Int32) ||| (v42 &&& (63 : Int32))).toInt8.toInt32) := by
        rw [ha140]
        rcases hat with h | h | h | h <;> (rw [h]; simp +decide)
      refine own_st (B := Tg308.setTop (mkF m 332 #[.val (.int p0), .val (.int p1), .val (.int p2), .val (.int p3), .val (.int v3), .val (.int v9), .val (.int v42), .val (.int v80), .val (.int v84), .val (.ref b88), .val (.int (2 : Int32)), .val (.int (2 : Int32)), .val (.int (1 : Int32)), .unset, .unset, .unset, .unset] [(.int v80), (.ref b88)])) (fun target kt => ?_) ?_
      · show Steps p.tables e below (Tg308.setTop (mkF m 328 #[.val (.int p0), .val (.int p1), .val (.int p2), .val (.int p3), .val (.int v3), .val (.int v9), .val (.int v42), .val (.int v80), .val (.int v84), .val (.ref b88), .val (.int (2 : Int32)), .val (.int (2 : Int32)), .val (.int (1 : Int32)), .unset, .unset, .unset, .unset] [])) target
        refine XS.aload Xg308.here hx rfl (hb hby at_328) rfl rfl ?_
        show Steps p.tables e below (Tg308.setTop (mkF m 330 #[.val (.int p0), .val (.int p1), .val (.int p2), .val (.int p3), .val (.int v3), .val (.int v9), .val (.int v42), .val (.int v80), .val (.int v84), .val (.ref b88), .val (.int (2 : Int32)), .val (.int (2 : Int32)), .val (.int (1 : Int32)), .unset, .unset, .unset, .unset] [(.ref b88)])) target
        refine XS.iload Xg308.here hx rfl (hb hby at_330) rfl ?_
        exact kt
      obtain ⟨clg332, Arg332, Szg332, Atg332⟩ := id F_18
      have hing332 : ¬ (v80 < 0 ∨ clg332.slots.size ≤ (v80).toNatClampNeg) := own_inb Szg332 hin.1
      have hatg332 : clg332.slots[(v80).toNatClampNeg]? = some (.int (a140 (v80).toNatClampNeg)) := own_RayB_nth Atg332 Szg332 hing332
      refine own_st (B := Tg308.setTop (mkF m 333 #[.val (.int p0), .val (.int p1), .val (.int p2), .val (.int p3), .val (.int v3), .val (.int v9), .val (.int v42), .val (.int v80), .val (.int v84), .val (.ref b88), .val (.int (2 : Int32)), .val (.int (2 : Int32)), .val (.int (1 : Int32)), .unset, .unset, .unset, .unset] [(.int (a140 (v80).toNatClampNeg))])) (fun target kt => ?_) ?_
      · refine Xg308.baloadBytes hx (j := v80) (v := (.int (a140 (v80).toNatClampNeg))) (by first | exact Arg332.1 | (rw [eg308]; exact Arg332.1)) (State.isArrayOf_alike hZ.alike Arg332.2.1) Arg332.2.2 hing332 hatg332 (g := (mkF m 332 #[.val (.int p0), .val (.int p1), .val (.int p2), .val (.int p3), .val (.int v3), .val (.int v9), .val (.int v42), .val (.int v80), .val (.int v84), .val (.ref b88), .val (.int (2 : Int32)), .val (.int (2 : Int32)), .val (.int (1 : Int32)), .unset, .unset, .unset, .unset] [(.int v80), (.ref b88)])) rfl rfl (hb hby at_332) _ ?_
        exact kt
      obtain ⟨v337, hv337⟩ : ∃ z : Int32, z = ((a140 (v80).toNatClampNeg) &&& (255 : Int32)) := ⟨_, rfl⟩
      refine own_st (B := Tg308.setTop (mkF m 339 #[.val (.int p0), .val (.int p1), .val (.int p2), .val (.int p3), .val (.int v3), .val (.int v9), .val (.int v42), .val (.int v80), .val (.int v84), .val (.ref b88), .val (.int (2 : Int32)), .val (.int (2 : Int32)), .val (.int (1 : Int32)), .val (.int v337), .unset, .unset, .unset] [])) (fun target kt => ?_) ?_
      · show Steps p.tables e below (Tg308.setTop (mkF m 333 #[.val (.int p0), .val (.int p1), .val (.int p2), .val (.int p3), .val (.int v3), .val (.int v9), .val (.int v42), .val (.int v80), .val (.int v84), .val (.ref b88), .val (.int (2 : Int32)), .val (.int (2 : Int32)), .val (.int (1 : Int32)), .unset, .unset, .unset, .unset] [(.int (a140 (v80).toNatClampNeg))])) target
        refine XS.sipush Xg308.here hx rfl (hb hby at_333) ?_
        show Steps p.tables e below (Tg308.setTop (mkF m 336 #[.val (.int p0), .val (.int p1), .val (.int p2), .val (.int p3), .val (.int v3), .val (.int v9), .val (.int v42), .val (.int v80), .val (.int v84), .val (.ref b88), .val (.int (2 : Int32)), .val (.int (2 : Int32)), .val (.int (1 : Int32)), .unset, .unset, .unset, .unset] [(.int (255 : Int32)), (.int (a140 (v80).toNatClampNeg))])) target
        refine XS.iand Xg308.here hx rfl (hb hby at_336) rfl ?_
        show Steps p.tables e below (Tg308.setTop (mkF m 337 #[.val (.int p0), .val (.int p1), .val (.int p2), .val (.int p3), .val (.int v3), .val (.int v9), .val (.int v42), .val (.int v80), .val (.int v84), .val (.ref b88), .val (.int (2 : Int32)), .val (.int (2 : Int32)), .val (.int (1 : Int32)), .unset, .unset, .unset, .unset] [(.int ((a140 (v80).toNatClampNeg) &&& (255 : Int32)))])) target
        refine XS.istore Xg308.here hx rfl (hb hby at_337) rfl (l' := #[.val (.int p0), .val (.int p1), .val (.int p2), .val (.int p3), .val (.int v3), .val (.int v9), .val (.int v42), .val (.int v80), .val (.int v84), .val (.ref b88), .val (.int (2 : Int32)), .val (.int (2 : Int32)), .val (.int (1 : Int32)), .val (.int v337), .unset, .unset, .unset]) (by subst hv337; rfl) ?_
        exact kt
      have hx0 : v337.toInt = 192 + v42.toInt / 64 := by
        have h1 := own_r6 v42
        have h2 := own_ld32 (v42 >>> ((6 : Int32) &&& 31)) (by omega) (by omega)
        rw [hv337, hb0, own_byte _ (by omega) (by omega)]
        omega
      refine own_st (B := Tg308.setTop (mkF m 364 #[.val (.int p0), .val (.int p1), .val (.int p2), .val (.int p3), .val (.int v3), .val (.int v9), .val (.int v42), .val (.int v80), .val (.int v84), .val (.ref b88), .val (.int (2 : Int32)), .val (.int (2 : Int32)), .val (.int (1 : Int32)), .val (.int v337), .unset, .unset, .unset] [(.int (v80 + (1 : Int32))), (.ref b88)])) (fun target kt => ?_) ?_
      · show Steps p.tables e below (Tg308.setTop (mkF m 339 #[.val (.int p0), .val (.int p1), .val (.int p2), .val (.int p3), .val (.int v3), .val (.int v9), .val (.int v42), .val (.int v80), .val (.int v84), .val (.ref b88), .val (.int (2 : Int32)), .val (.int (2 : Int32)), .val (.int (1 : Int32)), .val (.int v337), .unset, .unset, .unset] [])) target
        refine XS.iload Xg308.here hx rfl (hb hby at_339) rfl ?_
        show Steps p.tables e below (Tg308.setTop (mkF m 341 #[.val (.int p0), .val (.int p1), .val (.int p2), .val (.int p3), .val (.int v3), .val (.int v9), .val (.int v42), .val (.int v80), .val (.int v84), .val (.ref b88), .val (.int (2 : Int32)), .val (.int (2 : Int32)), .val (.int (1 : Int32)), .val (.int v337), .unset, .unset, .unset] [(.int (2 : Int32))])) target
        refine XS.iconst Xg308.here hx rfl (hb hby at_341) ?_
        show Steps p.tables e below (Tg308.setTop (mkF m 342 #[.val (.int p0), .val (.int p1), .val (.int p2), .val (.int p3), .val (.int v3), .val (.int v9), .val (.int v42), .val (.int v80), .val (.int v84), .val (.ref b88), .val (.int (2 : Int32)), .val (.int (2 : Int32)), .val (.int (1 : Int32)), .val (.int v337), .unset, .unset, .unset] [(.int (1 : Int32)), (.int (2 : Int32))])) target
        refine XS.icmpYes Xg308.here hx rfl (pc0 := 342) (pc' := 358) rfl (hb hby at_342) rfl (feq (by decide : ¬ ((2 : Int32) = (1 : Int32)))).2 (by decide) (by decide) ?_
        show Steps p.tables e below (Tg308.setTop (mkF m 358 #[.val (.int p0), .val (.int p1), .val (.int p2), .val (.int p3), .val (.int v3), .val (.int v9), .val (.int v42), .val (.int v80), .val (.int v84), .val (.ref b88), .val (.int (2 : Int32)), .val (.int (2 : Int32)), .val (.int (1 : Int32)), .val (.int v337), .unset, .unset, .unset] [])) target
        refine XS.aload Xg308.here hx rfl (hb hby at_358) rfl rfl ?_
        show Steps p.tables e below (Tg308.setTop (mkF m 360 #[.val (.int p0), .val (.int p1), .val (.int p2), .val (.int p3), .val (.int v3), .val (.int v9), .val (.int v42), .val (.int v80), .val (.int v84), .val (.ref b88), .val (.int (2 : Int32)), .val (.int (2 : Int32)), .val (.int (1 : Int32)), .val (.int v337), .unset, .unset, .unset] [(.ref b88)])) target
        refine XS.iload Xg308.here hx rfl (hb hby at_360) rfl ?_
        show Steps p.tables e below (Tg308.setTop (mkF m 362 #[.val (.int p0), .val (.int p1), .val (.int p2), .val (.int p3), .val (.int v3), .val (.int v9), .val (.int v42), .val (.int v80), .val (.int v84), .val (.ref b88), .val (.int (2 : Int32)), .val (.int (2 : Int32)), .val (.int (1 : Int32)), .val (.int v337), .unset, .unset, .unset] [(.int v80), (.ref b88)])) target
        refine XS.iconst Xg308.here hx rfl (hb hby at_362) ?_
        show Steps p.tables e below (Tg308.setTop (mkF m 363 #[.val (.int p0), .val (.int p1), .val (.int p2), .val (.int p3), .val (.int v3), .val (.int v9), .val (.int v42), .val (.int v80), .val (.int v84), .val (.ref b88), .val (.int (2 : Int32)), .val (.int (2 : Int32)), .val (.int (1 : Int32)), .val (.int v337), .unset, .unset, .unset] [(.int (1 : Int32)), (.int v80), (.ref b88)])) target
        refine XS.iadd Xg308.here hx rfl (hb hby at_363) rfl ?_
        exact kt
      obtain ⟨clg364, Arg364, Szg364, Atg364⟩ := id F_18
      have hing364 : ¬ ((v80 + (1 : Int32)) < 0 ∨ clg364.slots.size ≤ ((v80 + (1 : Int32))).toNatClampNeg) := own_inb Szg364 hin.2.1
      have hatg364 : clg364.slots[((v80 + (1 : Int32))).toNatClampNeg]? = some (.int (a140 ((v80 + (1 : Int32))).toNatClampNeg)) := own_RayB_nth Atg364 Szg364 hing364
      refine own_st (B := Tg308.setTop (mkF m 365 #[.val (.int p0), .val (.int p1), .val (.int p2), .val (.int p3), .val (.int v3), .val (.int v9), .val (.int v42), .val (.int v80), .val (.int v84), .val (.ref b88), .val (.int (2 : Int32)), .val (.int (2 : Int32)), .val (.int (1 : Int32)), .val (.int v337), .unset, .unset, .unset] [(.int (a140 ((v80 + (1 : Int32))).toNatClampNeg))])) (fun target kt => ?_) ?_
      · refine Xg308.baloadBytes hx (j := (v80 + (1 : Int32))) (v := (.int (a140 ((v80 + (1 : Int32))).toNatClampNeg))) (by first | exact Arg364.1 | (rw [eg308]; exact Arg364.1)) (State.isArrayOf_alike hZ.alike Arg364.2.1) Arg364.2.2 hing364 hatg364 (g := (mkF m 364 #[.val (.int p0), .val (.int p1), .val (.int p2), .val (.int p3), .val (.int v3), .val (.int v9), .val (.int v42), .val (.int v80), .val (.int v84), .val (.ref b88), .val (.int (2 : Int32)), .val (.int (2 : Int32)), .val (.int (1 : Int32)), .val (.int v337), .unset, .unset, .unset] [(.int (v80 + (1 : Int32))), (.ref b88)])) rfl rfl (hb hby at_364) _ ?_
        exact kt
      obtain ⟨v369, hv369⟩ : ∃ z : Int32, z = ((a140 ((v80 + (1 : Int32))).toNatClampNeg) &&& (255 : Int32)) := ⟨_, rfl⟩
      refine own_st (B := Tg308.setTop (mkF m 371 #[.val (.int p0), .val (.int p1), .val (.int p2), .val (.int p3), .val (.int v3), .val (.int v9), .val (.int v42), .val (.int v80), .val (.int v84), .val (.ref b88), .val (.int (2 : Int32)), .val (.int (2 : Int32)), .val (.int (1 : Int32)), .val (.int v337), .val (.int v369), .unset, .unset] [])) (fun target kt => ?_) ?_
      · show Steps p.tables e below (Tg308.setTop (mkF m 365 #[.val (.int p0), .val (.int p1), .val (.int p2), .val (.int p3), .val (.int v3), .val (.int v9), .val (.int v42), .val (.int v80), .val (.int v84), .val (.ref b88), .val (.int (2 : Int32)), .val (.int (2 : Int32)), .val (.int (1 : Int32)), .val (.int v337), .unset, .unset, .unset] [(.int (a140 ((v80 + (1 : Int32))).toNatClampNeg))])) target
        refine XS.sipush Xg308.here hx rfl (hb hby at_365) ?_
        show Steps p.tables e below (Tg308.setTop (mkF m 368 #[.val (.int p0), .val (.int p1), .val (.int p2), .val (.int p3), .val (.int v3), .val (.int v9), .val (.int v42), .val (.int v80), .val (.int v84), .val (.ref b88), .val (.int (2 : Int32)), .val (.int (2 : Int32)), .val (.int (1 : Int32)), .val (.int v337), .unset, .unset, .unset] [(.int (255 : Int32)), (.int (a140 ((v80 + (1 : Int32))).toNatClampNeg))])) target
        refine XS.iand Xg308.here hx rfl (hb hby at_368) rfl ?_
        show Steps p.tables e below (Tg308.setTop (mkF m 369 #[.val (.int p0), .val (.int p1), .val (.int p2), .val (.int p3), .val (.int v3), .val (.int v9), .val (.int v42), .val (.int v80), .val (.int v84), .val (.ref b88), .val (.int (2 : Int32)), .val (.int (2 : Int32)), .val (.int (1 : Int32)), .val (.int v337), .unset, .unset, .unset] [(.int ((a140 ((v80 + (1 : Int32))).toNatClampNeg) &&& (255 : Int32)))])) target
        refine XS.istore Xg308.here hx rfl (hb hby at_369) rfl (l' := #[.val (.int p0), .val (.int p1), .val (.int p2), .val (.int p3), .val (.int v3), .val (.int v9), .val (.int v42), .val (.int v80), .val (.int v84), .val (.ref b88), .val (.int (2 : Int32)), .val (.int (2 : Int32)), .val (.int (1 : Int32)), .val (.int v337), .val (.int v369), .unset, .unset]) (by subst hv369; rfl) ?_
        exact kt
      have hx1 : v369.toInt = 128 + v42.toInt % 64 := by
        have h3 := own_m63 v42
        have h2 := own_tr (v42 &&& (63 : Int32)) (by omega) (by omega)
        rw [hv369, hb1, own_byte _ (by omega) (by omega)]
        omega
      refine own_st (B := Tg308.setTop (mkF m 386 #[.val (.int p0), .val (.int p1), .val (.int p2), .val (.int p3), .val (.int v3), .val (.int v9), .val (.int v42), .val (.int v80), .val (.int v84), .val (.ref b88), .val (.int (2 : Int32)), .val (.int (2 : Int32)), .val (.int (1 : Int32)), .val (.int v337), .val (.int v369), .unset, .unset] [(.int (192 : Int32)), (.int (v337 &&& (224 : Int32)))])) (fun target kt => ?_) ?_
      · show Steps p.tables e below (Tg308.setTop (mkF m 371 #[.val (.int p0), .val (.int p1), .val (.int p2), .val (.int p3), .val (.int v3), .val (.int v9), .val (.int v42), .val (.int v80), .val (.int v84), .val (.ref b88), .val (.int (2 : Int32)), .val (.int (2 : Int32)), .val (.int (1 : Int32)), .val (.int v337), .val (.int v369), .unset, .unset] [])) target
        refine XS.iload Xg308.here hx rfl (hb hby at_371) rfl ?_
        show Steps p.tables e below (Tg308.setTop (mkF m 373 #[.val (.int p0), .val (.int p1), .val (.int p2), .val (.int p3), .val (.int v3), .val (.int v9), .val (.int v42), .val (.int v80), .val (.int v84), .val (.ref b88), .val (.int (2 : Int32)), .val (.int (2 : Int32)), .val (.int (1 : Int32)), .val (.int v337), .val (.int v369), .unset, .unset] [(.int (2 : Int32))])) target
        refine XS.iconst Xg308.here hx rfl (hb hby at_373) ?_
        show Steps p.tables e below (Tg308.setTop (mkF m 374 #[.val (.int p0), .val (.int p1), .val (.int p2), .val (.int p3), .val (.int v3), .val (.int v9), .val (.int v42), .val (.int v80), .val (.int v84), .val (.ref b88), .val (.int (2 : Int32)), .val (.int (2 : Int32)), .val (.int (1 : Int32)), .val (.int v337), .val (.int v369), .unset, .unset] [(.int (2 : Int32)), (.int (2 : Int32))])) target
        refine XS.icmpNo Xg308.here hx rfl (hb hby at_374) rfl (teq (by decide : (2 : Int32) = (2 : Int32))).2 ?_
        show Steps p.tables e below (Tg308.setTop (mkF m 377 #[.val (.int p0), .val (.int p1), .val (.int p2), .val (.int p3), .val (.int v3), .val (.int v9), .val (.int v42), .val (.int v80), .val (.int v84), .val (.ref b88), .val (.int (2 : Int32)), .val (.int (2 : Int32)), .val (.int (1 : Int32)), .val (.int v337), .val (.int v369), .unset, .unset] [])) target
        refine XS.iload Xg308.here hx rfl (hb hby at_377) rfl ?_
        show Steps p.tables e below (Tg308.setTop (mkF m 379 #[.val (.int p0), .val (.int p1), .val (.int p2), .val (.int p3), .val (.int v3), .val (.int v9), .val (.int v42), .val (.int v80), .val (.int v84), .val (.ref b88), .val (.int (2 : Int32)), .val (.int (2 : Int32)), .val (.int (1 : Int32)), .val (.int v337), .val (.int v369), .unset, .unset] [(.int v337)])) target
        refine XS.sipush Xg308.here hx rfl (hb hby at_379) ?_
        show Steps p.tables e below (Tg308.setTop (mkF m 382 #[.val (.int p0), .val (.int p1), .val (.int p2), .val (.int p3), .val (.int v3), .val (.int v9), .val (.int v42), .val (.int v80), .val (.int v84), .val (.ref b88), .val (.int (2 : Int32)), .val (.int (2 : Int32)), .val (.int (1 : Int32)), .val (.int v337), .val (.int v369), .unset, .unset] [(.int (224 : Int32)), (.int v337)])) target
        refine XS.iand Xg308.here hx rfl (hb hby at_382) rfl ?_
        show Steps p.tables e below (Tg308.setTop (mkF m 383 #[.val (.int p0), .val (.int p1), .val (.int p2), .val (.int p3), .val (.int v3), .val (.int v9), .val (.int v42), .val (.int v80), .val (.int v84), .val (.ref b88), .val (.int (2 : Int32)), .val (.int (2 : Int32)), .val (.int (1 : Int32)), .val (.int v337), .val (.int v369), .unset, .unset] [(.int (v337 &&& (224 : Int32)))])) target
        refine XS.sipush Xg308.here hx rfl (hb hby at_383) ?_
        exact kt
      have c386 : (v337 &&& (224 : Int32)) = (192 : Int32) := by
        exact own_a224 _ (by omega) (by omega)
      refine own_st (B := Tg308.setTop (mkF m 391 #[.val (.int p0), .val (.int p1), .val (.int p2), .val (.int p3), .val (.int v3), .val (.int v9), .val (.int v42), .val (.int v80), .val (.int v84), .val (.ref b88), .val (.int (2 : Int32)), .val (.int (2 : Int32)), .val (.int (1 : Int32)), .val (.int v337), .val (.int v369), .unset, .unset] [(.int v369)])) (fun target kt => ?_) ?_
      · show Steps p.tables e below (Tg308.setTop (mkF m 386 #[.val (.int p0), .val (.int p1), .val (.int p2), .val (.int p3), .val (.int v3), .val (.int v9), .val (.int v42), .val (.int v80), .val (.int v84), .val (.ref b88), .val (.int (2 : Int32)), .val (.int (2 : Int32)), .val (.int (1 : Int32)), .val (.int v337), .val (.int v369), .unset, .unset] [(.int (192 : Int32)), (.int (v337 &&& (224 : Int32)))])) target
        refine XS.icmpNo Xg308.here hx rfl (hb hby at_386) rfl (teq c386).2 ?_
        show Steps p.tables e below (Tg308.setTop (mkF m 389 #[.val (.int p0), .val (.int p1), .val (.int p2), .val (.int p3), .val (.int v3), .val (.int v9), .val (.int v42), .val (.int v80), .val (.int v84), .val (.ref b88), .val (.int (2 : Int32)), .val (.int (2 : Int32)), .val (.int (1 : Int32)), .val (.int v337), .val (.int v369), .unset, .unset] [])) target
        refine XS.iload Xg308.here hx rfl (hb hby at_389) rfl ?_
        exact kt
      obtain ⟨_, _, ⟨Tg391, Lg391, kg391, ng391⟩, -, Xg391, ⟨Lcg391, hQg391, lg391, yg391, zg391⟩, stg391⟩ := Jvm.LawKit.callS Xg308 hx (y := (⟨"com/example/psyche/psyche/XmlCharsEncodePinLaw", "cont", "(I)Z"⟩ : MethodName)) hown (mvT hZ (hw _ (List.mem_of_getElem? (i := 13) rfl))) (mvT hZ (hw _ (List.mem_of_getElem? (i := 14) rfl))) (mvT hZ (hw _ (List.mem_of_getElem? (i := 11) rfl))) (mvT hZ (hw _ (List.mem_of_getElem? (i := 15) rfl))) (by decide) (backOf (W := 0) (own_rm3 l Z a0 hw [] v369 Tg140.heap n0 Zz_9) hZ (hw _ (List.mem_of_getElem? (i := 15) rfl)) (hw _ (List.mem_of_getElem? (i := 11) rfl)) (by decide) (by decide)) (g := (mkF m 391 #[.val (.int p0), .val (.int p1), .val (.int p2), .val (.int p3), .val (.int v3), .val (.int v9), .val (.int v42), .val (.int v80), .val (.int v84), .val (.ref b88), .val (.int (2 : Int32)), .val (.int (2 : Int32)), .val (.int (1 : Int32)), .val (.int v337), .val (.int v369), .unset, .unset] [(.int v369)])) rfl (by rw [hml]; rfl) (argsL := [(.int v369)]) (rest := []) (lenOf own_pd2 rfl) rfl (by show 2 * 0 + _ ≤ _; exact Nat.le_of_eq rfl) (hb hby at_391) (fun _ _ => ⟨rfl, eg308, (by decide : 1 + 0 ≤ _), (by decide : 8 + 0 ≤ _)⟩)
      dsimp only [Pt.U, Pt.locs, Pt.cells, Pt.slots] at Xg391 lg391 yg391 zg391 stg391 hQg391
      subst lg391 yg391 zg391
      obtain ⟨rfl, Ng391q, eg391⟩ := hQg391
      have Ng391 := Fr.app Ng308 Ng391q
      refine own_st (stg391) ?_
      have c394 : (v369 &&& (192 : Int32)) = (128 : Int32) := by
        exact own_a192 _ (by omega) (by omega)
      refine own_st (B := Tg391.setTop (mkF m 413 #[.val (.int p0), .val (.int p1), .val (.int p2), .val (.int p3), .val (.int v3), .val (.int v9), .val (.int v42), .val (.int v80), .val (.int v84), .val (.ref b88), .val (.int (2 : Int32)), .val (.int (2 : Int32)), .val (.int (1 : Int32)), .val (.int v337), .val (.int v369), .unset, .unset] [(.int v42), (.int (((v337 &&& (31 : Int32)) <<< ((6 : Int32) &&& 31)) ||| (v369 &&& (63 : Int32))))])) (fun target kt => ?_) ?_
      · show Steps p.tables e below (Tg391.setTop (mkF m 394 #[.val (.int p0), .val (.int p1), .val (.int p2), .val (.int p3), .val (.int v3), .val (.int v9), .val (.int v42), .val (.int v80), .val (.int v84), .val (.ref b88), .val (.int (2 : Int32)), .val (.int (2 : Int32)), .val (.int (1 : Int32)), .val (.int v337), .val (.int v369), .unset, .unset] [(.int (own_b ((v369 &&& (192 : Int32)) = (128 : Int32))))])) target
        refine XS.ifNo Xg391.here hx rfl (hb hby at_394) rfl ((if0 _ _).trans (feq (own_bn0 rfl c394)).1) ?_
        show Steps p.tables e below (Tg391.setTop (mkF m 397 #[.val (.int p0), .val (.int p1), .val (.int p2), .val (.int p3), .val (.int v3), .val (.int v9), .val (.int v42), .val (.int v80), .val (.int v84), .val (.ref b88), .val (.int (2 : Int32)), .val (.int (2 : Int32)), .val (.int (1 : Int32)), .val (.int v337), .val (.int v369), .unset, .unset] [])) target
        refine XS.iload Xg391.here hx rfl (hb hby at_397) rfl ?_
        show Steps p.tables e below (Tg391.setTop (mkF m 399 #[.val (.int p0), .val (.int p1), .val (.int p2), .val (.int p3), .val (.int v3), .val (.int v9), .val (.int v42), .val (.int v80), .val (.int v84), .val (.ref b88), .val (.int (2 : Int32)), .val (.int (2 : Int32)), .val (.int (1 : Int32)), .val (.int v337), .val (.int v369), .unset, .unset] [(.int v337)])) target
        refine XS.bipush Xg391.here hx rfl (hb hby at_399) ?_
        show Steps p.tables e below (Tg391.setTop (mkF m 401 #[.val (.int p0), .val (.int p1), .val (.int p2), .val (.int p3), .val (.int v3), .val (.int v9), .val (.int v42), .val (.int v80), .val (.int v84), .val (.ref b88), .val (.int (2 : Int32)), .val (.int (2 : Int32)), .val (.int (1 : Int32)), .val (.int v337), .val (.int v369), .unset, .unset] [(.int (31 : Int32)), (.int v337)])) target
        refine XS.iand Xg391.here hx rfl (hb hby at_401) rfl ?_
        show Steps p.tables e below (Tg391.setTop (mkF m 402 #[.val (.int p0), .val (.int p1), .val (.int p2), .val (.int p3), .val (.int v3), .val (.int v9), .val (.int v42), .val (.int v80), .val (.int v84), .val (.ref b88), .val (.int (2 : Int32)), .val (.int (2 : Int32)), .val (.int (1 : Int32)), .val (.int v337), .val (.int v369), .unset, .unset] [(.int (v337 &&& (31 : Int32)))])) target
        refine XS.bipush Xg391.here hx rfl (hb hby at_402) ?_
        show Steps p.tables e below (Tg391.setTop (mkF m 404 #[.val (.int p0), .val (.int p1), .val (.int p2), .val (.int p3), .val (.int v3), .val (.int v9), .val (.int v42), .val (.int v80), .val (.int v84), .val (.ref b88), .val (.int (2 : Int32)), .val (.int (2 : Int32)), .val (.int (1 : Int32)), .val (.int v337), .val (.int v369), .unset, .unset] [(.int (6 : Int32)), (.int (v337 &&& (31 : Int32)))])) target
        refine XS.ishl Xg391.here hx rfl (hb hby at_404) rfl ?_
        show Steps p.tables e below (Tg391.setTop (mkF m 405 #[.val (.int p0), .val (.int p1), .val (.int p2), .val (.int p3), .val (.int v3), .val (.int v9), .val (.int v42), .val (.int v80), .val (.int v84), .val (.ref b88), .val (.int (2 : Int32)), .val (.int (2 : Int32)), .val (.int (1 : Int32)), .val (.int v337), .val (.int v369), .unset, .unset] [(.int ((v337 &&& (31 : Int32)) <<< ((6 : Int32) &&& 31)))])) target
        refine XS.iload Xg391.here hx rfl (hb hby at_405) rfl ?_
        show Steps p.tables e below (Tg391.setTop (mkF m 407 #[.val (.int p0), .val (.int p1), .val (.int p2), .val (.int p3), .val (.int v3), .val (.int v9), .val (.int v42), .val (.int v80), .val (.int v84), .val (.ref b88), .val (.int (2 : Int32)), .val (.int (2 : Int32)), .val (.int (1 : Int32)), .val (.int v337), .val (.int v369), .unset, .unset] [(.int v369), (.int ((v337 &&& (31 : Int32)) <<< ((6 : Int32) &&& 31)))])) target
        refine XS.bipush Xg391.here hx rfl (hb hby at_407) ?_
        show Steps p.tables e below (Tg391.setTop (mkF m 409 #[.val (.int p0), .val (.int p1), .val (.int p2), .val (.int p3), .val (.int v3), .val (.int v9), .val (.int v42), .val (.int v80), .val (.int v84), .val (.ref b88), .val (.int (2 : Int32)), .val (.int (2 : Int32)), .val (.int (1 : Int32)), .val (.int v337), .val (.int v369), .unset, .unset] [(.int (63 : Int32)), (.int v369), (.int ((v337 &&& (31 : Int32)) <<< ((6 : Int32) &&& 31)))])) target
        refine XS.iand Xg391.here hx rfl (hb hby at_409) rfl ?_
        show Steps p.tables e below (Tg391.setTop (mkF m 410 #[.val (.int p0), .val (.int p1), .val (.int p2), .val (.int p3), .val (.int v3), .val (.int v9), .val (.int v42), .val (.int v80), .val (.int v84), .val (.ref b88), .val (.int (2 : Int32)), .val (.int (2 : Int32)), .val (.int (1 : Int32)), .val (.int v337), .val (.int v369), .unset, .unset] [(.int (v369 &&& (63 : Int32))), (.int ((v337 &&& (31 : Int32)) <<< ((6 : Int32) &&& 31)))])) target
        refine XS.ior Xg391.here hx rfl (hb hby at_410) rfl ?_
        show Steps p.tables e below (Tg391.setTop (mkF m 411 #[.val (.int p0), .val (.int p1), .val (.int p2), .val (.int p3), .val (.int v3), .val (.int v9), .val (.int v42), .val (.int v80), .val (.int v84), .val (.ref b88), .val (.int (2 : Int32)), .val (.int (2 : Int32)), .val (.int (1 : Int32)), .val (.int v337), .val (.int v369), .unset, .unset] [(.int (((v337 &&& (31 : Int32)) <<< ((6 : Int32) &&& 31)) ||| (v369 &&& (63 : Int32))))])) target
        refine XS.iload Xg391.here hx rfl (hb hby at_411) rfl ?_
        exact kt
      have c413 : (((v337 &&& (31 : Int32)) <<< ((6 : Int32) &&& 31)) ||| (v369 &&& (63 : Int32))) = v42 := by
        exact own_j2 v42 _ _ (by omega) (by omega) hx0 hx1
      refine own_st (B := Tg391.setTop (mkF m 421 #[.val (.int p0), .val (.int p1), .val (.int p2), .val (.int p3), .val (.int v3), .val (.int v9), .val (.int v42), .val (.int v80), .val (.int v84), .val (.ref b88), .val (.int (2 : Int32)), .val (.int (2 : Int32)), .val (.int (1 : Int32)), .val (.int v337), .val (.int v369), .unset, .unset] [(.int (1 : Int32))])) (fun target kt => ?_) ?_
      · show Steps p.tables e below (Tg391.setTop (mkF m 413 #[.val (.int p0), .val (.int p1), .val (.int p2), .val (.int p3), .val (.int v3), .val (.int v9), .val (.int v42), .val (.int v80), .val (.int v84), .val (.ref b88), .val (.int (2 : Int32)), .val (.int (2 : Int32)), .val (.int (1 : Int32)), .val (.int v337), .val (.int v369), .unset, .unset] [(.int v42), (.int (((v337 &&& (31 : Int32)) <<< ((6 : Int32) &&& 31)) ||| (v369 &&& (63 : Int32))))])) target
        refine XS.icmpNo Xg391.here hx rfl (hb hby at_413) rfl (teq c413).2 ?_
        show Steps p.tables e below (Tg391.setTop (mkF m 416 #[.val (.int p0), .val (.int p1), .val (.int p2), .val (.int p3), .val (.int v3), .val (.int v9), .val (.int v42), .val (.int v80), .val (.int v84), .val (.ref b88), .val (.int (2 : Int32)), .val (.int (2 : Int32)), .val (.int (1 : Int32)), .val (.int v337), .val (.int v369), .unset, .unset] [])) target
        refine XS.iconst Xg391.here hx rfl (hb hby at_416) ?_
        show Steps p.tables e below (Tg391.setTop (mkF m 417 #[.val (.int p0), .val (.int p1), .val (.int p2), .val (.int p3), .val (.int v3), .val (.int v9), .val (.int v42), .val (.int v80), .val (.int v84), .val (.ref b88), .val (.int (2 : Int32)), .val (.int (2 : Int32)), .val (.int (1 : Int32)), .val (.int v337), .val (.int v369), .unset, .unset] [(.int (1 : Int32))])) target
        refine XS.goto Xg391.here hx rfl (pc0 := 417) (pc' := 421) rfl (hb hby at_417) (by decide) (by decide) ?_
        exact kt
      obtain ⟨fs, hr, hrun, hended, hW, hsame⟩ := Xg391.leave (v := some (.int (1 : Int32))) (fun h => by rw [Bd.returns] at h; cases h)
      have hend : Steps p.tables e below (Tg391.setTop (mkF m 421 #[.val (.int p0), .val (.int p1), .val (.int p2), .val (.int p3), .val (.int v3), .val (.int v9), .val (.int v42), .val (.int v80), .val (.int v84), .val (.ref b88), .val (.int (2 : Int32)), .val (.int (2 : Int32)), .val (.int (1 : Int32)), .val (.int v337), .val (.int v369), .unset, .unset] [(.int (1 : Int32))])) (Tg391.setFrames fs) := by
        exact retN Xg391 hx (t := .boolean) Bd.returns (by simp) (hb hby at_421) hr
      refine own_fin hend ⟨_, hrun, hended, _, _, rfl, ?_, ⟨_, rfl⟩, hW, hsame.mono (by decide) (by decide)⟩
      show own_Q0 Z p0 p1 p2 p3 h0 n0 _ Tg391.heap _
      rw [eg391]
      exact ⟨rfl, Ng391⟩
    · refine own_st (B := s₁.setTop (mkF m 50 #[.val (.int p0), .val (.int p1), .val (.int p2), .val (.int p3), .val (.int v3), .val (.int v9), .unset, .unset, .unset, .unset, .unset, .unset, .unset, .unset, .unset, .unset, .unset] [(.int (2 : Int32)), (.int v3)])) (fun target kt => ?_) ?_
      · show Steps p.tables e below (s₁.setTop (mkF m 29 #[.val (.int p0), .val (.int p1), .val (.int p2), .val (.int p3), .val (.int v3), .val (.int v9), .unset, .unset, .unset, .unset, .unset, .unset, .unset, .unset, .unset, .unset, .unset] [(.int (1 : Int32)), (.int v3)])) target
        refine XS.icmpYes X0.here hx rfl (pc0 := 29) (pc' := 47) rfl (hb hby at_29) rfl (feq c29).2 (by decide) (by decide) ?_
        show Steps p.tables e below (s₁.setTop (mkF m 47 #[.val (.int p0), .val (.int p1), .val (.int p2), .val (.int p3), .val (.int v3), .val (.int v9), .unset, .unset, .unset, .unset, .unset, .unset, .unset, .unset, .unset, .unset, .unset] [])) target
        refine XS.iload X0.here hx rfl (hb hby at_47) rfl ?_
        show Steps p.tables e below (s₁.setTop (mkF m 49 #[.val (.int p0), .val (.int p1), .val (.int p2), .val (.int p3), .val (.int v3), .val (.int v9), .unset, .unset, .unset, .unset, .unset, .unset, .unset, .unset, .unset, .unset, .unset] [(.int v3)])) target
        refine XS.iconst X0.here hx rfl (hb hby at_49) ?_
        exact kt
      by_cases c50 : v3 = (2 : Int32)
      · obtain ⟨v62, hv62⟩ : ∃ z : Int32, z = ((2048 : Int32) + (v9 % (63488 : Int32))) := ⟨_, rfl⟩
        refine own_st (B := s₁.setTop (mkF m 77 #[.val (.int p0), .val (.int p1), .val (.int p2), .val (.int p3), .val (.int v3), .val (.int v9), .val (.int v62), .unset, .unset, .unset, .unset, .unset, .unset, .unset, .unset, .unset, .unset] [])) (fun target kt => ?_) ?_
        · show Steps p.tables e below (s₁.setTop (mkF m 50 #[.val (.int p0), .val (.int p1), .val (.int p2), .val (.int p3), .val (.int v3), .val (.int v9), .unset, .unset, .unset, .unset, .unset, .unset, .unset, .unset, .unset, .unset, .unset] [(.int (2 : Int32)), (.int v3)])) target
          refine XS.icmpNo X0.here hx rfl (hb hby at_50) rfl (teq c50).2 ?_
          show Steps p.tables e below (s₁.setTop (mkF m 53 #[.val (.int p0), .val (.int p1), .val (.int p2), .val (.int p3), .val (.int v3), .val (.int v9), .unset, .unset, .unset, .unset, .unset, .unset, .unset, .unset, .unset, .unset, .unset] [])) target
          refine XS.sipush X0.here hx rfl (hb hby at_53) ?_
          show Steps p.tables e below (s₁.setTop (mkF m 56 #[.val (.int p0), .val (.int p1), .val (.int p2), .val (.int p3), .val (.int v3), .val (.int v9), .unset, .unset, .unset, .unset, .unset, .unset, .unset, .unset, .unset, .unset, .unset] [(.int (2048 : Int32))])) target
          refine XS.iload X0.here hx rfl (hb hby at_56) rfl ?_
          show Steps p.tables e below (s₁.setTop (mkF m 58 #[.val (.int p0), .val (.int p1), .val (.int p2), .val (.int p3), .val (.int v3), .val (.int v9), .unset, .unset, .unset, .unset, .unset, .unset, .unset, .unset, .unset, .unset, .unset] [(.int v9), (.int (2048 : Int32))])) target
          refine X0.ldcInt hx hown (mvT hZ (hw _ (List.mem_of_getElem? (i := 16) rfl))) (g := (mkF m 58 #[.val (.int p0), .val (.int p1), .val (.int p2), .val (.int p3), .val (.int v3), .val (.int v9), .unset, .unset, .unset, .unset, .unset, .unset, .unset, .unset, .unset, .unset, .unset] [(.int v9), (.int (2048 : Int32))])) rfl (hb hby at_58) _ ?_
          show Steps p.tables e below (s₁.setTop (mkF m 60 #[.val (.int p0), .val (.int p1), .val (.int p2), .val (.int p3), .val (.int v3), .val (.int v9), .unset, .unset, .unset, .unset, .unset, .unset, .unset, .unset, .unset, .unset, .unset] [(.int (63488 : Int32)), (.int v9), (.int (2048 : Int32))])) target
          refine iremM X0 hx rfl (hb hby at_60) rfl (by decide) ?_
          show Steps p.tables e below (s₁.setTop (mkF m 61 #[.val (.int p0), .val (.int p1), .val (.int p2), .val (.int p3), .val (.int v3), .val (.int v9), .unset, .unset, .unset, .unset, .unset, .unset, .unset, .unset, .unset, .unset, .unset] [(.int (v9 % (63488 : Int32))), (.int (2048 : Int32))])) target
          refine XS.iadd X0.here hx rfl (hb hby at_61) rfl ?_
          show Steps p.tables e below (s₁.setTop (mkF m 62 #[.val (.int p0), .val (.int p1), .val (.int p2), .val (.int p3), .val (.int v3), .val (.int v9), .unset, .unset, .unset, .unset, .unset, .unset, .unset, .unset, .unset, .unset, .unset] [(.int ((2048 : Int32) + (v9 % (63488 : Int32))))])) target
          refine XS.istore X0.here hx rfl (hb hby at_62) rfl (l' := #[.val (.int p0), .val (.int p1), .val (.int p2), .val (.int p3), .val (.int v3), .val (.int v9), .val (.int v62), .unset, .unset, .unset, .unset, .unset, .unset, .unset, .unset, .unset, .unset]) (by subst hv62; rfl) ?_
          show Steps p.tables e below (s₁.setTop (mkF m 64 #[.val (.int p0), .val (.int p1), .val (.int p2), .val (.int p3), .val (.int v3), .val (.int v9), .val (.int v62), .unset, .unset, .unset, .unset, .unset, .unset, .unset, .unset, .unset, .unset] [])) target
          refine XS.goto X0.here hx rfl (pc0 := 64) (pc' := 77) rfl (hb hby at_64) (by decide) (by decide) ?_
          exact kt
        have hC : 2048 ≤ v62.toInt ∧ v62.toInt < 65536 := by
          exact own_cN v9 _ _ _ 2048 63488 (by rw [hv9]; exact own_pos p0) (by decide) (by decide) (by decide) (by decide) (by decide) hv62
        have hR1 : ¬ (v62 < (128 : Int32)) := by rw [Int32.lt_iff_toInt_lt, show (128 : Int32).toInt = 128 by decide]; omega
        have hR2 : ¬ (v62 < (2048 : Int32)) := by rw [Int32.lt_iff_toInt_lt, show (2048 : Int32).toInt = 2048 by decide]; omega
        have hR3 : (v62 < (65536 : Int32)) := by rw [Int32.lt_iff_toInt_lt, show (65536 : Int32).toInt = 65536 by decide]; omega
        obtain ⟨v80, hv80⟩ : ∃ z : Int32, z = (p2 &&& (3 : Int32)) := ⟨_, rfl⟩
        obtain ⟨v84, hv84⟩ : ∃ z : Int32, z = (p3.toInt8.toInt32) := ⟨_, rfl⟩
        refine own_st (B := s₁.setTop (mkF m 88 #[.val (.int p0), .val (.int p1), .val (.int p2), .val (.int p3), .val (.int v3), .val (.int v9), .val (.int v62), .val (.int v80), .val (.int v84), .unset, .unset, .unset, .unset, .unset, .unset, .unset, .unset] [(.int (8 : Int32))])) (fun target kt => ?_) ?_
        · show Steps p.tables e below (s₁.setTop (mkF m 77 #[.val (.int p0), .val (.int p1), .val (.int p2), .val (.int p3), .val (.int v3), .val (.int v9), .val (.int v62), .unset, .unset, .unset, .unset, .unset, .unset, .unset, .unset, .unset, .unset] [])) target
          refine XS.iloadN X0.here hx rfl (hb hby at_77) rfl ?_
          show Steps p.tables e below (s₁.setTop (mkF m 78 #[.val (.int p0), .val (.int p1), .val (.int p2), .val (.int p3), .val (.int v3), .val (.int v9), .val (.int v62), .unset, .unset, .unset, .unset, .unset, .unset, .unset, .unset, .unset, .unset] [(.int p2)])) target
          refine XS.iconst X0.here hx rfl (hb hby at_78) ?_
          show Steps p.tables e below (s₁.setTop (mkF m 79 #[.val (.int p0), .val (.int p1), .val (.int p2), .val (.int p3), .val (.int v3), .val (.int v9), .val (.int v62), .unset, .unset, .unset, .unset, .unset, .unset, .unset, .unset, .unset, .unset] [(.int (3 : Int32)), (.int p2)])) target
          refine XS.iand X0.here hx rfl (hb hby at_79) rfl ?_
          show Steps p.tables e below (s₁.setTop (mkF m 80 #[.val (.int p0), .val (.int p1), .val (.int p2), .val (.int p3), .val (.int v3), .val (.int v9), .val (.int v62), .unset, .unset, .unset, .unset, .unset, .unset, .unset, .unset, .unset, .unset] [(.int (p2 &&& (3 : Int32)))])) target
          refine XS.istore X0.here hx rfl (hb hby at_80) rfl (l' := #[.val (.int p0), .val (.int p1), .val (.int p2), .val (.int p3), .val (.int v3), .val (.int v9), .val (.int v62), .val (.int v80), .unset, .unset, .unset, .unset, .unset, .unset, .unset, .unset, .unset]) (by subst hv80; rfl) ?_
          show Steps p.tables e below (s₁.setTop (mkF m 82 #[.val (.int p0), .val (.int p1), .val (.int p2), .val (.int p3), .val (.int v3), .val (.int v9), .val (.int v62), .val (.int v80), .unset, .unset, .unset, .unset, .unset, .unset, .unset, .unset, .unset] [])) target
          refine XS.iloadN X0.here hx rfl (hb hby at_82) rfl ?_
          show Steps p.tables e below (s₁.setTop (mkF m 83 #[.val (.int p0), .val (.int p1), .val (.int p2), .val (.int p3), .val (.int v3), .val (.int v9), .val (.int v62), .val (.int v80), .unset, .unset, .unset, .unset, .unset, .unset, .unset, .unset, .unset] [(.int p3)])) target
          refine XS.i2b X0.here hx rfl (hb hby at_83) rfl ?_
          show Steps p.tables e below (s₁.setTop (mkF m 84 #[.val (.int p0), .val (.int p1), .val (.int p2), .val (.int p3), .val (.int v3), .val (.int v9), .val (.int v62), .val (.int v80), .unset, .unset, .unset, .unset, .unset, .unset, .unset, .unset, .unset] [(.int (p3.toInt8.toInt32))])) target
          refine XS.istore X0.here hx rfl (hb hby at_84) rfl (l' := #[.val (.int p0), .val (.int p1), .val (.int p2), .val (.int p3), .val (.int v3), .val (.int v9), .val (.int v62), .val (.int v80), .val (.int v84), .unset, .unset, .unset, .unset, .unset, .unset, .unset, .unset]) (by subst hv84; rfl) ?_
          show Steps p.tables e below (s₁.setTop (mkF m 86 #[.val (.int p0), .val (.int p1), .val (.int p2), .val (.int p3), .val (.int v3), .val (.int v9), .val (.int v62), .val (.int v80), .val (.int v84), .unset, .unset, .unset, .unset, .unset, .unset, .unset, .unset] [])) target
          refine XS.bipush X0.here hx rfl (hb hby at_86) ?_
          exact kt
        obtain ⟨Tg88, hg88, kg88, Xg88, eg88, Eg88, Ag88, stg88⟩ := newP X0 hx hZ (hw _ (List.mem_of_getElem? (i := 3) rfl)) e0 (g := (mkF m 88 #[.val (.int p0), .val (.int p1), .val (.int p2), .val (.int p3), .val (.int v3), .val (.int v9), .val (.int v62), .val (.int v80), .val (.int v84), .unset, .unset, .unset, .unset, .unset, .unset, .unset, .unset] [(.int (8 : Int32))])) rfl (hb hby at_88) rfl (by decide) (cap := 8) (by decide) (by decide) (by decide) (by decide)
        obtain ⟨b88, gg88⟩ : ∃ z, z = h0.size := ⟨_, rfl⟩
        rw [← gg88] at Ag88 stg88
        refine own_st stg88 ?_
        have g_b88 : n0 ≤ b88 := Nat.le_trans Z0 (Nat.le_of_eq gg88.symm)
        have Zz : n0 ≤ hg88.size := Nat.le_trans Z0 Eg88.1
        have F : own_RayB Z hg88 b88 8 (fun _ => (0 : Int32)) := own_RayB_new Ag88 (by decide) (by decide)
        refine own_st (B := Tg88.setTop (mkF m 94 #[.val (.int p0), .val (.int p1), .val (.int p2), .val (.int p3), .val (.int v3), .val (.int v9), .val (.int v62), .val (.int v80), .val (.int v84), .unset, .unset, .unset, .unset, .unset, .unset, .unset, .unset] [(.int v84), (.int (0 : Int32)), (.ref b88), (.ref b88)])) (fun target kt => ?_) ?_
        · show Steps p.tables e below (Tg88.setTop (mkF m 90 #[.val (.int p0), .val (.int p1), .val (.int p2), .val (.int p3), .val (.int v3), .val (.int v9), .val (.int v62), .val (.int v80), .val (.int v84), .unset, .unset, .unset, .unset, .unset, .unset, .unset, .unset] [(.ref b88)])) target
          refine XS.dup Xg88.here hx rfl (hb hby at_90) rfl rfl ?_
          show Steps p.tables e below (Tg88.setTop (mkF m 91 #[.val (.int p0), .val (.int p1), .val (.int p2), .val (.int p3), .val (.int v3), .val (.int v9), .val (.int v62), .val (.int v80), .val (.int v84), .unset, .unset, .unset, .unset, .unset, .unset, .unset, .unset] [(.ref b88), (.ref b88)])) target
          refine XS.iconst Xg88.here hx rfl (hb hby at_91) ?_
          show Steps p.tables e below (Tg88.setTop (mkF m 92 #[.val (.int p0), .val (.int p1), .val (.int p2), .val (.int p3), .val (.int v3), .val (.int v9), .val (.int v62), .val (.int v80), .val (.int v84), .unset, .unset, .unset, .unset, .unset, .unset, .unset, .unset] [(.int (0 : Int32)), (.ref b88), (.ref b88)])) target
          refine XS.iload Xg88.here hx rfl (hb hby at_92) rfl ?_
          exact kt
        obtain ⟨clg94, Arg94, Szg94, -⟩ := id F
        have hing94 : ¬ ((0 : Int32) < 0 ∨ clg94.slots.size ≤ ((0 : Int32)).toNatClampNeg) := own_inb Szg94 (by decide)
        obtain ⟨Tg94, hg94, Xg94, eg94, Wg94, stg94⟩ := stB Xg88 hx hZ eg88 Arg94 (j := (0 : Int32)) hing94 (g := (mkF m 94 #[.val (.int p0), .val (.int p1), .val (.int p2), .val (.int p3), .val (.int v3), .val (.int v9), .val (.int v62), .val (.int v80), .val (.int v84), .unset, .unset, .unset, .unset, .unset, .unset, .unset, .unset] [(.int v84), (.int (0 : Int32)), (.ref b88), (.ref b88)])) rfl rfl (hb hby at_94)
        refine own_st stg94 ?_
        have Ng94 := Fr.snoc Xg94 N0 g_b88
        obtain ⟨a94, ha94⟩ : ∃ gz : Nat → Int32, gz = fun i => if i = 0 then (nar .byte v84) else (fun _ => (0 : Int32)) i := ⟨_, rfl⟩
        have Zz_1 : n0 ≤ hg94.size := Nat.le_trans Zz (Keep.of_wr Wg94).1
        have F_2 : own_RayB Z hg94 b88 8 a94 := by rw [ha94]; exact own_RayB_set F Wg94 (by decide) (fits_nar_byte _)
        refine own_st (B := Tg94.setTop (mkF m 99 #[.val (.int p0), .val (.int p1), .val (.int p2), .val (.int p3), .val (.int v3), .val (.int v9), .val (.int v62), .val (.int v80), .val (.int v84), .unset, .unset, .unset, .unset, .unset, .unset, .unset, .unset] [(.int v84), (.int (1 : Int32)), (.ref b88), (.ref b88)])) (fun target kt => ?_) ?_
        · show Steps p.tables e below (Tg94.setTop (mkF m 95 #[.val (.int p0), .val (.int p1), .val (.int p2), .val (.int p3), .val (.int v3), .val (.int v9), .val (.int v62), .val (.int v80), .val (.int v84), .unset, .unset, .unset, .unset, .unset, .unset, .unset, .unset] [(.ref b88)])) target
          refine XS.dup Xg94.here hx rfl (hb hby at_95) rfl rfl ?_
          show Steps p.tables e below (Tg94.setTop (mkF m 96 #[.val (.int p0), .val (.int p1), .val (.int p2), .val (.int p3), .val (.int v3), .val (.int v9), .val (.int v62), .val (.int v80), .val (.int v84), .unset, .unset, .unset, .unset, .unset, .unset, .unset, .unset] [(.ref b88), (.ref b88)])) target
          refine XS.iconst Xg94.here hx rfl (hb hby at_96) ?_
          show Steps p.tables e below (Tg94.setTop (mkF m 97 #[.val (.int p0), .val (.int p1), .val (.int p2), .val (.int p3), .val (.int v3), .val (.int v9), .val (.int v62), .val (.int v80), .val (.int v84), .unset, .unset, .unset, .unset, .unset, .unset, .unset, .unset] [(.int (1 : Int32)), (.ref b88), (.ref b88)])) target
          refine XS.iload Xg94.here hx rfl (hb hby at_97) rfl ?_
          exact kt
        obtain ⟨clg99, Arg99, Szg99, -⟩ := id F_2
        have hing99 : ¬ ((1 : Int32) < 0 ∨ clg99.slots.size ≤ ((1 : Int32)).toNatClampNeg) := own_inb Szg99 (by decide)
        obtain ⟨Tg99, hg99, Xg99, eg99, Wg99, stg99⟩ := stB Xg94 hx hZ eg94 Arg99 (j := (1 : Int32)) hing99 (g := (mkF m 99 #[.val (.int p0), .val (.int p1), .val (.int p2), .val (.int p3), .val (.int v3), .val (.int v9), .val (.int v62), .val (.int v80), .val (.int v84), .unset, .unset, .unset, .unset, .unset, .unset, .unset, .unset] [(.int v84), (.int (1 : Int32)), (.ref b88), (.ref b88)])) rfl rfl (hb hby at_99)
        refine own_st stg99 ?_
        have Ng99 := Fr.snoc Xg99 Ng94 g_b88
        obtain ⟨a99, ha99⟩ : ∃ gz : Nat → Int32, gz = fun i => if i = 1 then (nar .byte v84) else a94 i := ⟨_, rfl⟩
        have Zz_2 : n0 ≤ hg99.size := Nat.le_trans Zz_1 (Keep.of_wr Wg99).1
        have F_4 : own_RayB Z hg99 b88 8 a99 := by rw [ha99]; exact own_RayB_set F_2 Wg99 (by decide) (fits_nar_byte _)
        refine own_st (B := Tg99.setTop (mkF m 104 #[.val (.int p0), .val (.int p1), .val (.int p2), .val (.int p3), .val (.int v3), .val (.int v9), .val (.int v62), .val (.int v80), .val (.int v84), .unset, .unset, .unset, .unset, .unset, .unset, .unset, .unset] [(.int v84), (.int (2 : Int32)), (.ref b88), (.ref b88)])) (fun target kt => ?_) ?_
        · show Steps p.tables e below (Tg99.setTop (mkF m 100 #[.val (.int p0), .val (.int p1), .val (.int p2), .val (.int p3), .val (.int v3), .val (.int v9), .val (.int v62), .val (.int v80), .val (.int v84), .unset, .unset, .unset, .unset, .unset, .unset, .unset, .unset] [(.ref b88)])) target
          refine XS.dup Xg99.here hx rfl (hb hby at_100) rfl rfl ?_
          show Steps p.tables e below (Tg99.setTop (mkF m 101 #[.val (.int p0), .val (.int p1), .val (.int p2), .val (.int p3), .val (.int v3), .val (.int v9), .val (.int v62), .val (.int v80), .val (.int v84), .unset, .unset, .unset, .unset, .unset, .unset, .unset, .unset] [(.ref b88), (.ref b88)])) target
          refine XS.iconst Xg99.here hx rfl (hb hby at_101) ?_
          show Steps p.tables e below (Tg99.setTop (mkF m 102 #[.val (.int p0), .val (.int p1), .val (.int p2), .val (.int p3), .val (.int v3), .val (.int v9), .val (.int v62), .val (.int v80), .val (.int v84), .unset, .unset, .unset, .unset, .unset, .unset, .unset, .unset] [(.int (2 : Int32)), (.ref b88), (.ref b88)])) target
          refine XS.iload Xg99.here hx rfl (hb hby at_102) rfl ?_
          exact kt
        obtain ⟨clg104, Arg104, Szg104, -⟩ := id F_4
        have hing104 : ¬ ((2 : Int32) < 0 ∨ clg104.slots.size ≤ ((2 : Int32)).toNatClampNeg) := own_inb Szg104 (by decide)
        obtain ⟨Tg104, hg104, Xg104, eg104, Wg104, stg104⟩ := stB Xg99 hx hZ eg99 Arg104 (j := (2 : Int32)) hing104 (g := (mkF m 104 #[.val (.int p0), .val (.int p1), .val (.int p2), .val (.int p3), .val (.int v3), .val (.int v9), .val (.int v62), .val (.int v80), .val (.int v84), .unset, .unset, .unset, .unset, .unset, .unset, .unset, .unset] [(.int v84), (.int (2 : Int32)), (.ref b88), (.ref b88)])) rfl rfl (hb hby at_104)
        refine own_st stg104 ?_
        have Ng104 := Fr.snoc Xg104 Ng99 g_b88
        obtain ⟨a104, ha104⟩ : ∃ gz : Nat → Int32, gz = fun i => if i = 2 then (nar .byte v84) else a99 i := ⟨_, rfl⟩
        have Zz_3 : n0 ≤ hg104.size := Nat.le_trans Zz_2 (Keep.of_wr Wg104).1
        have F_6 : own_RayB Z hg104 b88 8 a104 := by rw [ha104]; exact own_RayB_set F_4 Wg104 (by decide) (fits_nar_byte _)
        refine own_st (B := Tg104.setTop (mkF m 109 #[.val (.int p0), .val (.int p1), .val (.int p2), .val (.int p3), .val (.int v3), .val (.int v9), .val (.int v62), .val (.int v80), .val (.int v84), .unset, .unset, .unset, .unset, .unset, .unset, .unset, .unset] [(.int v84), (.int (3 : Int32)), (.ref b88), (.ref b88)])) (fun target kt => ?_) ?_
        · show Steps p.tables e below (Tg104.setTop (mkF m 105 #[.val (.int p0), .val (.int p1), .val (.int p2), .val (.int p3), .val (.int v3), .val (.int v9), .val (.int v62), .val (.int v80), .val (.int v84), .unset, .unset, .unset, .unset, .unset, .unset, .unset, .unset] [(.ref b88)])) target
          refine XS.dup Xg104.here hx rfl (hb hby at_105) rfl rfl ?_
          show Steps p.tables e below (Tg104.setTop (mkF m 106 #[.val (.int p0), .val (.int p1), .val (.int p2), .val (.int p3), .val (.int v3), .val (.int v9), .val (.int v62), .val (.int v80), .val (.int v84), .unset, .unset, .unset, .unset, .unset, .unset, .unset, .unset] [(.ref b88), (.ref b88)])) target
          refine XS.iconst Xg104.here hx rfl (hb hby at_106) ?_
          show Steps p.tables e below (Tg104.setTop (mkF m 107 #[.val (.int p0), .val (.int p1), .val (.int p2), .val (.int p3), .val (.int v3), .val (.int v9), .val (.int v62), .val (.int v80), .val (.int v84), .unset, .unset, .unset, .unset, .unset, .unset, .unset, .unset] [(.int (3 : Int32)), (.ref b88), (.ref b88)])) target
          refine XS.iload Xg104.here hx rfl (hb hby at_107) rfl ?_
          exact kt
        obtain ⟨clg109, Arg109, Szg109, -⟩ := id F_6
        have hing109 : ¬ ((3 : Int32) < 0 ∨ clg109.slots.size ≤ ((3 : Int32)).toNatClampNeg) := own_inb Szg109 (by decide)
        obtain ⟨Tg109, hg109, Xg109, eg109, Wg109, stg109⟩ := stB Xg104 hx hZ eg104 Arg109 (j := (3 : Int32)) hing109 (g := (mkF m 109 #[.val (.int p0), .val (.int p1), .val (.int p2), .val (.int p3), .val (.int v3), .val (.int v9), .val (.int v62), .val (.int v80), .val (.int v84), .unset, .unset, .unset, .unset, .unset, .unset, .unset, .unset] [(.int v84), (.int (3 : Int32)), (.ref b88), (.ref b88)])) rfl rfl (hb hby at_109)
        refine own_st stg109 ?_
        have Ng109 := Fr.snoc Xg109 Ng104 g_b88
        obtain ⟨a109, ha109⟩ : ∃ gz : Nat → Int32, gz = fun i => if i = 3 then (nar .byte v84) else a104 i := ⟨_, rfl⟩
        have Zz_4 : n0 ≤ hg109.size := Nat.le_trans Zz_3 (Keep.of_wr Wg109).1
        have F_8 : own_RayB Z hg109 b88 8 a109 := by rw [ha109]; exact own_RayB_set F_6 Wg109 (by decide) (fits_nar_byte _)
        refine own_st (B := Tg109.setTop (mkF m 114 #[.val (.int p0), .val (.int p1), .val (.int p2), .val (.int p3), .val (.int v3), .val (.int v9), .val (.int v62), .val (.int v80), .val (.int v84), .unset, .unset, .unset, .unset, .unset, .unset, .unset, .unset] [(.int v84), (.int (4 : Int32)), (.ref b88), (.ref b88)])) (fun target kt => ?_) ?_
        · show Steps p.tables e below (Tg109.setTop (mkF m 110 #[.val (.int p0), .val (.int p1), .val (.int p2), .val (.int p3), .val (.int v3), .val (.int v9), .val (.int v62), .val (.int v80), .val (.int v84), .unset, .unset, .unset, .unset, .unset, .unset, .unset, .unset] [(.ref b88)])) target
          refine XS.dup Xg109.here hx rfl (hb hby at_110) rfl rfl ?_
          show Steps p.tables e below (Tg109.setTop (mkF m 111 #[.val (.int p0), .val (.int p1), .val (.int p2), .val (.int p3), .val (.int v3), .val (.int v9), .val (.int v62), .val (.int v80), .val (.int v84), .unset, .unset, .unset, .unset, .unset, .unset, .unset, .unset] [(.ref b88), (.ref b88)])) target
          refine XS.iconst Xg109.here hx rfl (hb hby at_111) ?_
          show Steps p.tables e below (Tg109.setTop (mkF m 112 #[.val (.int p0), .val (.int p1), .val (.int p2), .val (.int p3), .val (.int v3), .val (.int v9), .val (.int v62), .val (.int v80), .val (.int v84), .unset, .unset, .unset, .unset, .unset, .unset, .unset, .unset] [(.int (4 : Int32)), (.ref b88), (.ref b88)])) target
          refine XS.iload Xg109.here hx rfl (hb hby at_112) rfl ?_
          exact kt
        obtain ⟨clg114, Arg114, Szg114, -⟩ := id F_8
        have hing114 : ¬ ((4 : Int32) < 0 ∨ clg114.slots.size ≤ ((4 : Int32)).toNatClampNeg) := own_inb Szg114 (by decide)
        obtain ⟨Tg114, hg114, Xg114, eg114, Wg114, stg114⟩ := stB Xg109 hx hZ eg109 Arg114 (j := (4 : Int32)) hing114 (g := (mkF m 114 #[.val (.int p0), .val (.int p1), .val (.int p2), .val (.int p3), .val (.int v3), .val (.int v9), .val (.int v62), .val (.int v80), .val (.int v84), .unset, .unset, .unset, .unset, .unset, .unset, .unset, .unset] [(.int v84), (.int (4 : Int32)), (.ref b88), (.ref b88)])) rfl rfl (hb hby at_114)
        refine own_st stg114 ?_
        have Ng114 := Fr.snoc Xg114 Ng109 g_b88
        obtain ⟨a114, ha114⟩ : ∃ gz : Nat → Int32, gz = fun i => if i = 4 then (nar .byte v84) else a109 i := ⟨_, rfl⟩
        have Zz_5 : n0 ≤ hg114.size := Nat.le_trans Zz_4 (Keep.of_wr Wg114).1
        have F_10 : own_RayB Z hg114 b88 8 a114 := by rw [ha114]; exact own_RayB_set F_8 Wg114 (by decide) (fits_nar_byte _)
        refine own_st (B := Tg114.setTop (mkF m 119 #[.val (.int p0), .val (.int p1), .val (.int p2), .val (.int p3), .val (.int v3), .val (.int v9), .val (.int v62), .val (.int v80), .val (.int v84), .unset, .unset, .unset, .unset, .unset, .unset, .unset, .unset] [(.int v84), (.int (5 : Int32)), (.ref b88), (.ref b88)])) (fun target kt => ?_) ?_
        · show Steps p.tables e below (Tg114.setTop (mkF m 115 #[.val (.int p0), .val (.int p1), .val (.int p2), .val (.int p3), .val (.int v3), .val (.int v9), .val (.int v62), .val (.int v80), .val (.int v84), .unset, .unset, .unset, .unset, .unset, .unset, .unset, .unset] [(.ref b88)])) target
          refine XS.dup Xg114.here hx rfl (hb hby at_115) rfl rfl ?_
          show Steps p.tables e below (Tg114.setTop (mkF m 116 #[.val (.int p0), .val (.int p1), .val (.int p2), .val (.int p3), .val (.int v3), .val (.int v9), .val (.int v62), .val (.int v80), .val (.int v84), .unset, .unset, .unset, .unset, .unset, .unset, .unset, .unset] [(.ref b88), (.ref b88)])) target
          refine XS.iconst Xg114.here hx rfl (hb hby at_116) ?_
          show Steps p.tables e below (Tg114.setTop (mkF m 117 #[.val (.int p0), .val (.int p1), .val (.int p2), .val (.int p3), .val (.int v3), .val (.int v9), .val (.int v62), .val (.int v80), .val (.int v84), .unset, .unset, .unset, .unset, .unset, .unset, .unset, .unset] [(.int (5 : Int32)), (.ref b88), (.ref b88)])) target
          refine XS.iload Xg114.here hx rfl (hb hby at_117) rfl ?_
          exact kt
        obtain ⟨clg119, Arg119, Szg119, -⟩ := id F_10
        have hing119 : ¬ ((5 : Int32) < 0 ∨ clg119.slots.size ≤ ((5 : Int32)).toNatClampNeg) := own_inb Szg119 (by decide)
        obtain ⟨Tg119, hg119, Xg119, eg119, Wg119, stg119⟩ := stB Xg114 hx hZ eg114 Arg119 (j := (5 : Int32)) hing119 (g := (mkF m 119 #[.val (.int p0), .val (.int p1), .val (.int p2), .val (.int p3), .val (.int v3), .val (.int v9), .val (.int v62), .val (.int v80), .val (.int v84), .unset, .unset, .unset, .unset, .unset, .unset, .unset, .unset] [(.int v84), (.int (5 : Int32)), (.ref b88), (.ref b88)])) rfl rfl (hb hby at_119)
        refine own_st stg119 ?_
        have Ng119 := Fr.snoc Xg119 Ng114 g_b88
        obtain ⟨a119, ha119⟩ : ∃ gz : Nat → Int32, gz = fun i => if i = 5 then (nar .byte v84) else a114 i := ⟨_, rfl⟩
        have Zz_6 : n0 ≤ hg119.size := Nat.le_trans Zz_5 (Keep.of_wr Wg119).1
        have F_12 : own_RayB Z hg119 b88 8 a119 := by rw [ha119]; exact own_RayB_set F_10 Wg119 (by decide) (fits_nar_byte _)
        refine own_st (B := Tg119.setTop (mkF m 125 #[.val (.int p0), .val (.int p1), .val (.int p2), .val (.int p3), .val (.int v3), .val (.int v9), .val (.int v62), .val (.int v80), .val (.int v84), .unset, .unset, .unset, .unset, .unset, .unset, .unset, .unset] [(.int v84), (.int (6 : Int32)), (.ref b88), (.ref b88)])) (fun target kt => ?_) ?_
        · show Steps p.tables e below (Tg119.setTop (mkF m 120 #[.val (.int p0), .val (.int p1), .val (.int p2), .val (.int p3), .val (.int v3), .val (.int v9), .val (.int v62), .val (.int v80), .val (.int v84), .unset, .unset, .unset, .unset, .unset, .unset, .unset, .unset] [(.ref b88)])) target
          refine XS.dup Xg119.here hx rfl (hb hby at_120) rfl rfl ?_
          show Steps p.tables e below (Tg119.setTop (mkF m 121 #[.val (.int p0), .val (.int p1), .val (.int p2), .val (.int p3), .val (.int v3), .val (.int v9), .val (.int v62), .val (.int v80), .val (.int v84), .unset, .unset, .unset, .unset, .unset, .unset, .unset, .unset] [(.ref b88), (.ref b88)])) target
          refine XS.bipush Xg119.here hx rfl (hb hby at_121) ?_
          show Steps p.tables e below (Tg119.setTop (mkF m 123 #[.val (.int p0), .val (.int p1), .val (.int p2), .val (.int p3), .val (.int v3), .val (.int v9), .val (.int v62), .val (.int v80), .val (.int v84), .unset, .unset, .unset, .unset, .unset, .unset, .unset, .unset] [(.int (6 : Int32)), (.ref b88), (.ref b88)])) target
          refine XS.iload Xg119.here hx rfl (hb hby at_123) rfl ?_
          exact kt
        obtain ⟨clg125, Arg125, Szg125, -⟩ := id F_12
        have hing125 : ¬ ((6 : Int32) < 0 ∨ clg125.slots.size ≤ ((6 : Int32)).toNatClampNeg) := own_inb Szg125 (by decide)
        obtain ⟨Tg125, hg125, Xg125, eg125, Wg125, stg125⟩ := stB Xg119 hx hZ eg119 Arg125 (j := (6 : Int32)) hing125 (g := (mkF m 125 #[.val (.int p0), .val (.int p1), .val (.int p2), .val (.int p3), .val (.int v3), .val (.int v9), .val (.int v62), .val (.int v80), .val (.int v84), .unset, .unset, .unset, .unset, .unset, .unset, .unset, .unset] [(.int v84), (.int (6 : Int32)), (.ref b88), (.ref b88)])) rfl rfl (hb hby at_125)
        refine own_st stg125 ?_
        have Ng125 := Fr.snoc Xg125 Ng119 g_b88
        obtain ⟨a125, ha125⟩ : ∃ gz : Nat → Int32, gz = fun i => if i = 6 then (nar .byte v84) else a119 i := ⟨_, rfl⟩
        have Zz_7 : n0 ≤ hg125.size := Nat.le_trans Zz_6 (Keep.of_wr Wg125).1
        have F_14 : own_RayB Z hg125 b88 8 a125 := by rw [ha125]; exact own_RayB_set F_12 Wg125 (by decide) (fits_nar_byte _)
        refine own_st (B := Tg125.setTop (mkF m 131 #[.val (.int p0), .val (.int p1), .val (.int p2), .val (.int p3), .val (.int v3), .val (.int v9), .val (.int v62), .val (.int v80), .val (.int v84), .unset, .unset, .unset, .unset, .unset, .unset, .unset, .unset] [(.int v84), (.int (7 : Int32)), (.ref b88), (.ref b88)])) (fun target kt => ?_) ?_
        · show Steps p.tables e below (Tg125.setTop (mkF m 126 #[.val (.int p0), .val (.int p1), .val (.int p2), .val (.int p3), .val (.int v3), .val (.int v9), .val (.int v62), .val (.int v80), .val (.int v84), .unset, .unset, .unset, .unset, .unset, .unset, .unset, .unset] [(.ref b88)])) target
          refine XS.dup Xg125.here hx rfl (hb hby at_126) rfl rfl ?_
          show Steps p.tables e below (Tg125.setTop (mkF m 127 #[.val (.int p0), .val (.int p1), .val (.int p2), .val (.int p3), .val (.int v3), .val (.int v9), .val (.int v62), .val (.int v80), .val (.int v84), .unset, .unset, .unset, .unset, .unset, .unset, .unset, .unset] [(.ref b88), (.ref b88)])) target
          refine XS.bipush Xg125.here hx rfl (hb hby at_127) ?_
          show Steps p.tables e below (Tg125.setTop (mkF m 129 #[.val (.int p0), .val (.int p1), .val (.int p2), .val (.int p3), .val (.int v3), .val (.int v9), .val (.int v62), .val (.int v80), .val (.int v84), .unset, .unset, .unset, .unset, .unset, .unset, .unset, .unset] [(.int (7 : Int32)), (.ref b88), (.ref b88)])) target
          refine XS.iload Xg125.here hx rfl (hb hby at_129) rfl ?_
          exact kt
        obtain ⟨clg131, Arg131, Szg131, -⟩ := id F_14
        have hing131 : ¬ ((7 : Int32) < 0 ∨ clg131.slots.size ≤ ((7 : Int32)).toNatClampNeg) := own_inb Szg131 (by decide)
        obtain ⟨Tg131, hg131, Xg131, eg131, Wg131, stg131⟩ := stB Xg125 hx hZ eg125 Arg131 (j := (7 : Int32)) hing131 (g := (mkF m 131 #[.val (.int p0), .val (.int p1), .val (.int p2), .val (.int p3), .val (.int v3), .val (.int v9), .val (.int v62), .val (.int v80), .val (.int v84), .unset, .unset, .unset, .unset, .unset, .unset, .unset, .unset] [(.int v84), (.int (7 : Int32)), (.ref b88), (.ref b88)])) rfl rfl (hb hby at_131)
        refine own_st stg131 ?_
        have Ng131 := Fr.snoc Xg131 Ng125 g_b88
        obtain ⟨a131, ha131⟩ : ∃ gz : Nat → Int32, gz = fun i => if i = 7 then (nar .byte v84) else a125 i := ⟨_, rfl⟩
        have Zz_8 : n0 ≤ hg131.size := Nat.le_trans Zz_7 (Keep.of_wr Wg131).1
        have F_16 : own_RayB Z hg131 b88 8 a131 := by rw [ha131]; exact own_RayB_set F_14 Wg131 (by decide) (fits_nar_byte _)
        refine own_st (B := Tg131.setTop (mkF m 140 #[.val (.int p0), .val (.int p1), .val (.int p2), .val (.int p3), .val (.int v3), .val (.int v9), .val (.int v62), .val (.int v80), .val (.int v84), .val (.ref b88), .unset, .unset, .unset, .unset, .unset, .unset, .unset] [(.int v80), (.ref b88), (.int v62)])) (fun target kt => ?_) ?_
        · show Steps p.tables e below (Tg131.setTop (mkF m 132 #[.val (.int p0), .val (.int p1), .val (.int p2), .val (.int p3), .val (.int v3), .val (.int v9), .val (.int v62), .val (.int v80), .val (.int v84), .unset, .unset, .unset, .unset, .unset, .unset, .unset, .unset] [(.ref b88)])) target
          refine XS.astore Xg131.here hx rfl (hb hby at_132) rfl rfl (l' := #[.val (.int p0), .val (.int p1), .val (.int p2), .val (.int p3), .val (.int v3), .val (.int v9), .val (.int v62), .val (.int v80), .val (.int v84), .val (.ref b88), .unset, .unset, .unset, .unset, .unset, .unset, .unset]) rfl ?_
          show Steps p.tables e below (Tg131.setTop (mkF m 134 #[.val (.int p0), .val (.int p1), .val (.int p2), .val (.int p3), .val (.int v3), .val (.int v9), .val (.int v62), .val (.int v80), .val (.int v84), .val (.ref b88), .unset, .unset, .unset, .unset, .unset, .unset, .unset] [])) target
          refine XS.iload Xg131.here hx rfl (hb hby at_134) rfl ?_
          show Steps p.tables e below (Tg131.setTop (mkF m 136 #[.val (.int p0), .val (.int p1), .val (.int p2), .val (.int p3), .val (.int v3), .val (.int v9), .val (.int v62), .val (.int v80), .val (.int v84), .val (.ref b88), .unset, .unset, .unset, .unset, .unset, .unset, .unset] [(.int v62)])) target
          refine XS.aload Xg131.here hx rfl (hb hby at_136) rfl rfl ?_
          show Steps p.tables e below (Tg131.setTop (mkF m 138 #[.val (.int p0), .val (.int p1), .val (.int p2), .val (.int p3), .val (.int v3), .val (.int v9), .val (.int v62), .val (.int v80), .val (.int v84), .val (.ref b88), .unset, .unset, .unset, .unset, .unset, .unset, .unset] [(.ref b88), (.int v62)])) target
          refine XS.iload Xg131.here hx rfl (hb hby at_138) rfl ?_
          exact kt
        obtain ⟨_, _, ⟨Tg140, Lg140, kg140, ng140⟩, -, Xg140, ⟨Lcg140, hQg140, lg140, yg140, zg140⟩, stg140⟩ := Jvm.LawKit.callS Xg131 hx (y := (⟨"com/example/psyche/psyche/XmlChars", "encode", "(I[BI)I"⟩ : MethodName)) hown (mvT hZ (hw _ (List.mem_of_getElem? (i := 4) rfl))) (mvT hZ (hw _ (List.mem_of_getElem? (i := 5) rfl))) (mvT hZ (hw _ (List.mem_of_getElem? (i := 6) rfl))) (mvT hZ (hw _ (List.mem_of_getElem? (i := 7) rfl))) (by decide) (backOf (W := 0) (own_rm1_e3 l Z a0 hw [] v62 b88 v80 a131 hg131 n0 Zz_8 F_16 g_b88 (show v80 = (0 : Int32) ∨ v80 = (1 : Int32) ∨ v80 = (2 : Int32) ∨ v80 = (3 : Int32) from (own_at p2 v80 hv80)) (show ¬ (v62 < (128 : Int32)) from hR1) (show ¬ (v62 < (2048 : Int32)) from hR2) (show v62 < (65536 : Int32) from hR3)) hZ (hw _ (List.mem_of_getElem? (i := 7) rfl)) (hw _ (List.mem_of_getElem? (i := 6) rfl)) (by decide) (by decide)) (g := (mkF m 140 #[.val (.int p0), .val (.int p1), .val (.int p2), .val (.int p3), .val (.int v3), .val (.int v9), .val (.int v62), .val (.int v80), .val (.int v84), .val (.ref b88), .unset, .unset, .unset, .unset, .unset, .unset, .unset] [(.int v80), (.ref b88), (.int v62)])) rfl (by rw [hml]; rfl) (argsL := [(.int v62), (.ref b88), (.int v80)]) (rest := []) (lenOf own_pd0 rfl) rfl (by show 2 * 0 + _ ≤ _; exact Nat.le_of_eq rfl) (hb hby at_140) (fun _ _ => ⟨rfl, eg131, (by decide : 1 + 0 ≤ _), (by decide : 8 + 0 ≤ _)⟩)
        dsimp only [Pt.U, Pt.locs, Pt.cells, Pt.slots] at Xg140 lg140 yg140 zg140 stg140 hQg140
        subst lg140 yg140 zg140
        obtain ⟨rfl, Ng140q, Kg140, F_17⟩ := hQg140
        have Zz_9 : n0 ≤ Tg140.heap.size := Nat.le_trans Zz_8 Kg140.1
        obtain ⟨a140, ha140⟩ : ∃ z : Nat → Int32, z = (fun i => if i = (v80 + (2 : Int32)).toNatClampNeg then (nar .byte (((128 : Int32) ||| (v62 &&& (63 : Int32))).toInt8.toInt32)) else (fun i => if i = (v80 + (1 : Int32)).toNatClampNeg then (nar .byte (((128 : Int32) ||| ((v62 >>> ((6 : Int32) &&& 31)) &&& (63 : Int32))).toInt8.toInt32)) else (fun i => if i = (v80).toNatClampNeg then (nar .byte (((224 : Int32) ||| (v62 >>> ((12 : Int32) &&& 31))).toInt8.toInt32)) else a131 i) i) i) := ⟨_, rfl⟩
        have F_18 : own_RayB Z Tg140.heap b88 8 a140 := by subst ha140; exact F_17
        have Ng140 := Fr.app Ng131 Ng140q
        refine own_st (stg140) ?_
        refine own_st (B := Tg140.setTop (mkF m 150 #[.val (.int p0), .val (.int p1), .val (.int p2), .val (.int p3), .val (.int v3), .val (.int v9), .val (.int v62), .val (.int v80), .val (.int v84), .val (.ref b88), .val (.int (3 : Int32)), .unset, .unset, .unset, .unset, .unset, .unset] [(.int (128 : Int32)), (.int v62)])) (fun target kt => ?_) ?_
        · show Steps p.tables e below (Tg140.setTop (mkF m 143 #[.val (.int p0), .val (.int p1), .val (.int p2), .val (.int p3), .val (.int v3), .val (.int v9), .val (.int v62), .val (.int v80), .val (.int v84), .val (.ref b88), .unset, .unset, .unset, .unset, .unset, .unset, .unset] [(.int (3 : Int32))])) target
          refine XS.istore Xg140.here hx rfl (hb hby at_143) rfl (l' := #[.val (.int p0), .val (.int p1), .val (.int p2), .val (.int p3), .val (.int v3), .val (.int v9), .val (.int v62), .val (.int v80), .val (.int v84), .val (.ref b88), .val (.int (3 : Int32)), .unset, .unset, .unset, .unset, .unset, .unset]) rfl ?_
          show Steps p.tables e below (Tg140.setTop (mkF m 145 #[.val (.int p0), .val (.int p1), .val (.int p2), .val (.int p3), .val (.int v3), .val (.int v9), .val (.int v62), .val (.int v80), .val (.int v84), .val (.ref b88), .val (.int (3 : Int32)), .unset, .unset, .unset, .unset, .unset, .unset] [])) target
          refine XS.iload Xg140.here hx rfl (hb hby at_145) rfl ?_
          show Steps p.tables e below (Tg140.setTop (mkF m 147 #[.val (.int p0), .val (.int p1), .val (.int p2), .val (.int p3), .val (.int v3), .val (.int v9), .val (.int v62), .val (.int v80), .val (.int v84), .val (.ref b88), .val (.int (3 : Int32)), .unset, .unset, .unset, .unset, .unset, .unset] [(.int v62)])) target
          refine XS.sipush Xg140.here hx rfl (hb hby at_147) ?_
          exact kt
        have c150 : ¬ (v62 < (128 : Int32)) := by
          exact hR1
        refine own_st (B := Tg140.setTop (mkF m 162 #[.val (.int p0), .val (.int p1), .val (.int p2), .val (.int p3), .val (.int v3), .val (.int v9), .val (.int v62), .val (.int v80), .val (.int v84), .val (.ref b88), .val (.int (3 : Int32)), .unset, .unset, .unset, .unset, .unset, .unset] [(.int (2048 : Int32)), (.int v62)])) (fun target kt => ?_) ?_
        · show Steps p.tables e below (Tg140.setTop (mkF m 150 #[.val (.int p0), .val (.int p1), .val (.int p2), .val (.int p3), .val (.int v3), .val (.int v9), .val (.int v62), .val (.int v80), .val (.int v84), .val (.ref b88), .val (.int (3 : Int32)), .unset, .unset, .unset, .unset, .unset, .unset] [(.int (128 : Int32)), (.int v62)])) target
          refine XS.icmpYes Xg140.here hx rfl (pc0 := 150) (pc' := 157) rfl (hb hby at_150) rfl (flt c150).2.1 (by decide) (by decide) ?_
          show Steps p.tables e below (Tg140.setTop (mkF m 157 #[.val (.int p0), .val (.int p1), .val (.int p2), .val (.int p3), .val (.int v3), .val (.int v9), .val (.int v62), .val (.int v80), .val (.int v84), .val (.ref b88), .val (.int (3 : Int32)), .unset, .unset, .unset, .unset, .unset, .unset] [])) target
          refine XS.iload Xg140.here hx rfl (hb hby at_157) rfl ?_
          show Steps p.tables e below (Tg140.setTop (mkF m 159 #[.val (.int p0), .val (.int p1), .val (.int p2), .val (.int p3), .val (.int v3), .val (.int v9), .val (.int v62), .val (.int v80), .val (.int v84), .val (.ref b88), .val (.int (3 : Int32)), .unset, .unset, .unset, .unset, .unset, .unset] [(.int v62)])) target
          refine XS.sipush Xg140.here hx rfl (hb hby at_159) ?_
          exact kt
        have c162 : ¬ (v62 < (2048 : Int32)) := by
          exact hR2
        refine own_st (B := Tg140.setTop (mkF m 173 #[.val (.int p0), .val (.int p1), .val (.int p2), .val (.int p3), .val (.int v3), .val (.int v9), .val (.int v62), .val (.int v80), .val (.int v84), .val (.ref b88), .val (.int (3 : Int32)), .unset, .unset, .unset, .unset, .unset, .unset] [(.int (65536 : Int32)), (.int v62)])) (fun target kt => ?_) ?_
        · show Steps p.tables e below (Tg140.setTop (mkF m 162 #[.val (.int p0), .val (.int p1), .val (.int p2), .val (.int p3), .val (.int v3), .val (.int v9), .val (.int v62), .val (.int v80), .val (.int v84), .val (.ref b88), .val (.int (3 : Int32)), .unset, .unset, .unset, .unset, .unset, .unset] [(.int (2048 : Int32)), (.int v62)])) target
          refine XS.icmpYes Xg140.here hx rfl (pc0 := 162) (pc' := 169) rfl (hb hby at_162) rfl (flt c162).2.1 (by decide) (by decide) ?_
          show Steps p.tables e below (Tg140.setTop (mkF m 169 #[.val (.int p0), .val (.int p1), .val (.int p2), .val (.int p3), .val (.int v3), .val (.int v9), .val (.int v62), .val (.int v80), .val (.int v84), .val (.ref b88), .val (.int (3 : Int32)), .unset, .unset, .unset, .unset, .unset, .unset] [])) target
          refine XS.iload Xg140.here hx rfl (hb hby at_169) rfl ?_
          show Steps p.tables e below (Tg140.setTop (mkF m 171 #[.val (.int p0), .val (.int p1), .val (.int p2), .val (.int p3), .val (.int v3), .val (.int v9), .val (.int v62), .val (.int v80), .val (.int v84), .val (.ref b88), .val (.int (3 : Int32)), .unset, .unset, .unset, .unset, .unset, .unset] [(.int v62)])) target
          refine Xg140.ldcInt hx hown (mvT hZ (hw _ (List.mem_of_getElem? (i := 1) rfl))) (g := (mkF m 171 #[.val (.int p0), .val (.int p1), .val (.int p2), .val (.int p3), .val (.int v3), .val (.int v9), .val (.int v62), .val (.int v80), .val (.int v84), .val (.ref b88), .val (.int (3 : Int32)), .unset, .unset, .unset, .unset, .unset, .unset] [(.int v62)])) rfl (hb hby at_171) _ ?_
          exact kt
        have c173 : v62 < (65536 : Int32) := by
          exact hR3
        refine own_st (B := Tg140.setTop (mkF m 192 #[.val (.int p0), .val (.int p1), .val (.int p2), .val (.int p3), .val (.int v3), .val (.int v9), .val (.int v62), .val (.int v80), .val (.int v84), .val (.ref b88), .val (.int (3 : Int32)), .val (.int (3 : Int32)), .unset, .unset, .unset, .unset, .unset] [])) (fun target kt => ?_) ?_
        · show Steps p.tables e below (Tg140.setTop (mkF m 173 #[.val (.int p0), .val (.int p1), .val (.int p2), .val (.int p3), .val (.int v3), .val (.int v9), .val (.int v62), .val (.int v80), .val (.int v84), .val (.ref b88), .val (.int (3 : Int32)), .unset, .unset, .unset, .unset, .unset, .unset] [(.int (65536 : Int32)), (.int v62)])) target
          refine XS.icmpNo Xg140.here hx rfl (hb hby at_173) rfl (tlt c173).2.1 ?_
          show Steps p.tables e below (Tg140.setTop (mkF m 176 #[.val (.int p0), .val (.int p1), .val (.int p2), .val (.int p3), .val (.int v3), .val (.int v9), .val (.int v62), .val (.int v80), .val (.int v84), .val (.ref b88), .val (.int (3 : Int32)), .unset, .unset, .unset, .unset, .unset, .unset] [])) target
          refine XS.iconst Xg140.here hx rfl (hb hby at_176) ?_
          show Steps p.tables e below (Tg140.setTop (mkF m 177 #[.val (.int p0), .val (.int p1), .val (.int p2), .val (.int p3), .val (.int v3), .val (.int v9), .val (.int v62), .val (.int v80), .val (.int v84), .val (.ref b88), .val (.int (3 : Int32)), .unset, .unset, .unset, .unset, .unset, .unset] [(.int (3 : Int32))])) target
          refine XS.goto Xg140.here hx rfl (pc0 := 177) (pc' := 181) rfl (hb hby at_177) (by decide) (by decide) ?_
          show Steps p.tables e below (Tg140.setTop (mkF m 181 #[.val (.int p0), .val (.int p1), .val (.int p2), .val (.int p3), .val (.int v3), .val (.int v9), .val (.int v62), .val (.int v80), .val (.int v84), .val (.ref b88), .val (.int (3 : Int32)), .unset, .unset, .unset, .unset, .unset, .unset] [(.int (3 : Int32))])) target
          refine XS.istore Xg140.here hx rfl (hb hby at_181) rfl (l' := #[.val (.int p0), .val (.int p1), .val (.int p2), .val (.int p3), .val (.int v3), .val (.int v9), .val (.int v62), .val (.int v80), .val (.int v84), .val (.ref b88), .val (.int (3 : Int32)), .val (.int (3 : Int32)), .unset, .unset, .unset, .unset, .unset]) rfl ?_
          show Steps p.tables e below (Tg140.setTop (mkF m 183 #[.val (.int p0), .val (.int p1), .val (.int p2), .val (.int p3), .val (.int v3), .val (.int v9), .val (.int v62), .val (.int v80), .val (.int v84), .val (.ref b88), .val (.int (3 : Int32)), .val (.int (3 : Int32)), .unset, .unset, .unset, .unset, .unset] [])) target
          refine XS.iload Xg140.here hx rfl (hb hby at_183) rfl ?_
          show Steps p.tables e below (Tg140.setTop (mkF m 185 #[.val (.int p0), .val (.int p1), .val (.int p2), .val (.int p3), .val (.int v3), .val (.int v9), .val (.int v62), .val (.int v80), .val (.int v84), .val (.ref b88), .val (.int (3 : Int32)), .val (.int (3 : Int32)), .unset, .unset, .unset, .unset, .unset] [(.int (3 : Int32))])) target
          refine XS.iload Xg140.here hx rfl (hb hby at_185) rfl ?_
          show Steps p.tables e below (Tg140.setTop (mkF m 187 #[.val (.int p0), .val (.int p1), .val (.int p2), .val (.int p3), .val (.int v3), .val (.int v9), .val (.int v62), .val (.int v80), .val (.int v84), .val (.ref b88), .val (.int (3 : Int32)), .val (.int (3 : Int32)), .unset, .unset, .unset, .unset, .unset] [(.int (3 : Int32)), (.int (3 : Int32))])) target
          refine XS.icmpYes Xg140.here hx rfl (pc0 := 187) (pc' := 192) rfl (hb hby at_187) rfl (teq (by decide : (3 : Int32) = (3 : Int32))).1 (by decide) (by decide) ?_
          exact kt
        have hat := own_at p2 v80 hv80
        have hn84 : nar .byte v84 = v84 := by rw [hv84]; exact own_nb8 p3
        have hfill : ∀ i, i < 8 → a131 i = v84 := by
          intro i hi
          have : i = 0 ∨ i = 1 ∨ i = 2 ∨ i = 3 ∨ i = 4 ∨ i = 5 ∨ i = 6 ∨ i = 7 := by omega
          rcases this with rfl | rfl | rfl | rfl | rfl | rfl | rfl | rfl <;> simp [ha131, ha125, ha119, ha114, ha109, ha104, ha99, ha94, hn84]
        refine own_st (B := Tg140.setTop (mkF m 201 #[.val (.int p0), .val (.int p1), .val (.int p2), .val (.int p3), .val (.int v3), .val (.int v9), .val (.int v62), .val (.int v80), .val (.int v84), .val (.ref b88), .val (.int (3 : Int32)), .val (.int (3 : Int32)), .unset, .unset, .unset, .unset, .unset] [(.int v84), (.int (3 : Int32)), (.int v80), (.int (0 : Int32)), (.ref b88)])) (fun target kt => ?_) ?_
        · show Steps p.tables e below (Tg140.setTop (mkF m 192 #[.val (.int p0), .val (.int p1), .val (.int p2), .val (.int p3), .val (.int v3), .val (.int v9), .val (.int v62), .val (.int v80), .val (.int v84), .val (.ref b88), .val (.int (3 : Int32)), .val (.int (3 : Int32)), .unset, .unset, .unset, .unset, .unset] [])) target
          refine XS.aload Xg140.here hx rfl (hb hby at_192) rfl rfl ?_
          show Steps p.tables e below (Tg140.setTop (mkF m 194 #[.val (.int p0), .val (.int p1), .val (.int p2), .val (.int p3), .val (.int v3), .val (.int v9), .val (.int v62), .val (.int v80), .val (.int v84), .val (.ref b88), .val (.int (3 : Int32)), .val (.int (3 : Int32)), .unset, .unset, .unset, .unset, .unset] [(.ref b88)])) target
          refine XS.iconst Xg140.here hx rfl (hb hby at_194) ?_
          show Steps p.tables e below (Tg140.setTop (mkF m 195 #[.val (.int p0), .val (.int p1), .val (.int p2), .val (.int p3), .val (.int v3), .val (.int v9), .val (.int v62), .val (.int v80), .val (.int v84), .val (.ref b88), .val (.int (3 : Int32)), .val (.int (3 : Int32)), .unset, .unset, .unset, .unset, .unset] [(.int (0 : Int32)), (.ref b88)])) target
          refine XS.iload Xg140.here hx rfl (hb hby at_195) rfl ?_
          show Steps p.tables e below (Tg140.setTop (mkF m 197 #[.val (.int p0), .val (.int p1), .val (.int p2), .val (.int p3), .val (.int v3), .val (.int v9), .val (.int v62), .val (.int v80), .val (.int v84), .val (.ref b88), .val (.int (3 : Int32)), .val (.int (3 : Int32)), .unset, .unset, .unset, .unset, .unset] [(.int v80), (.int (0 : Int32)), (.ref b88)])) target
          refine XS.iload Xg140.here hx rfl (hb hby at_197) rfl ?_
          show Steps p.tables e below (Tg140.setTop (mkF m 199 #[.val (.int p0), .val (.int p1), .val (.int p2), .val (.int p3), .val (.int v3), .val (.int v9), .val (.int v62), .val (.int v80), .val (.int v84), .val (.ref b88), .val (.int (3 : Int32)), .val (.int (3 : Int32)), .unset, .unset, .unset, .unset, .unset] [(.int (3 : Int32)), (.int v80), (.int (0 : Int32)), (.ref b88)])) target
          refine XS.iload Xg140.here hx rfl (hb hby at_199) rfl ?_
          exact kt
        obtain ⟨_, _, ⟨Tg201, Lg201, kg201, ng201⟩, -, Xg201, ⟨Lcg201, hQg201, lg201, yg201, zg201⟩, stg201⟩ := Jvm.LawKit.callS Xg140 hx (y := (⟨"com/example/psyche/psyche/XmlCharsEncodePinLaw", "same", "([BIIIB)Z"⟩ : MethodName)) hown (mvT hZ (hw _ (List.mem_of_getElem? (i := 9) rfl))) (mvT hZ (hw _ (List.mem_of_getElem? (i := 10) rfl))) (mvT hZ (hw _ (List.mem_of_getElem? (i := 11) rfl))) (mvT hZ (hw _ (List.mem_of_getElem? (i := 12) rfl))) (by decide) (backOf (W := 0) (own_rm2 l Z a0 hw [] b88 (0 : Int32) v80 (3 : Int32) v84 a140 Tg140.heap n0 Zz_9 F_18 (show ¬ (0 : Int32) < 0 ∧ (0 : Int32).toNatClampNeg < 8 from (by decide))) hZ (hw _ (List.mem_of_getElem? (i := 12) rfl)) (hw _ (List.mem_of_getElem? (i := 11) rfl)) (by decide) (by decide)) (g := (mkF m 201 #[.val (.int p0), .val (.int p1), .val (.int p2), .val (.int p3), .val (.int v3), .val (.int v9), .val (.int v62), .val (.int v80), .val (.int v84), .val (.ref b88), .val (.int (3 : Int32)), .val (.int (3 : Int32)), .unset, .unset, .unset, .unset, .unset] [(.int v84), (.int (3 : Int32)), (.int v80), (.int (0 : Int32)), (.ref b88)])) rfl (by rw [hml]; rfl) (argsL := [(.ref b88), (.int (0 : Int32)), (.int v80), (.int (3 : Int32)), (.int v84)]) (rest := []) (lenOf own_pd1 rfl) rfl (by show 2 * 0 + _ ≤ _; exact Nat.le_of_eq rfl) (hb hby at_201) (fun _ _ => ⟨rfl, rfl, (by decide : 1 + 0 ≤ _), (by decide : 8 + 0 ≤ _)⟩)
        dsimp only [Pt.U, Pt.locs, Pt.cells, Pt.slots] at Xg201 lg201 yg201 zg201 stg201 hQg201
        subst lg201 yg201 zg201
        obtain ⟨rfl, Ng201q, eg201⟩ := hQg201
        have Ng201 := Fr.app Ng140 Ng201q
        refine own_st (stg201) ?_
        have c204 : (((0 : Int32) < v80) ∧ ((a140 (0 : Int32).toNatClampNeg) = v84)) ∨ (¬ ((0 : Int32) < v80) ∧ (((0 : Int32) < (v80 + (3 : Int32))) ∨ ((a140 (0 : Int32).toNatClampNeg) = v84))) := by
          rcases hat with h | h | h | h <;> (rw [ha140, h]; first | exact Or.inr ⟨by decide, Or.inl (by decide)⟩ | (refine Or.inl ⟨by decide, ?_⟩; simp +decide [hfill]) | (refine Or.inr ⟨by decide, Or.inr ?_⟩; simp +decide [hfill]))
        refine own_st (B := Tg201.setTop (mkF m 216 #[.val (.int p0), .val (.int p1), .val (.int p2), .val (.int p3), .val (.int v3), .val (.int v9), .val (.int v62), .val (.int v80), .val (.int v84), .val (.ref b88), .val (.int (3 : Int32)), .val (.int (3 : Int32)), .unset, .unset, .unset, .unset, .unset] [(.int v84), (.int (3 : Int32)), (.int v80), (.int (1 : Int32)), (.ref b88)])) (fun target kt => ?_) ?_
        · show Steps p.tables e below (Tg201.setTop (mkF m 204 #[.val (.int p0), .val (.int p1), .val (.int p2), .val (.int p3), .val (.int v3), .val (.int v9), .val (.int v62), .val (.int v80), .val (.int v84), .val (.ref b88), .val (.int (3 : Int32)), .val (.int (3 : Int32)), .unset, .unset, .unset, .unset, .unset] [(.int (own_b ((((0 : Int32) < v80) ∧ ((a140 (0 : Int32).toNatClampNeg) = v84)) ∨ (¬ ((0 : Int32) < v80) ∧ (((0 : Int32) < (v80 + (3 : Int32))) ∨ ((a140 (0 : Int32).toNatClampNeg) = v84))))))])) target
          refine XS.ifNo Xg201.here hx rfl (hb hby at_204) rfl ((if0 _ _).trans (feq (own_bn0 rfl c204)).1) ?_
          show Steps p.tables e below (Tg201.setTop (mkF m 207 #[.val (.int p0), .val (.int p1), .val (.int p2), .val (.int p3), .val (.int v3), .val (.int v9), .val (.int v62), .val (.int v80), .val (.int v84), .val (.ref b88), .val (.int (3 : Int32)), .val (.int (3 : Int32)), .unset, .unset, .unset, .unset, .unset] [])) target
          refine XS.aload Xg201.here hx rfl (hb hby at_207) rfl rfl ?_
          show Steps p.tables e below (Tg201.setTop (mkF m 209 #[.val (.int p0), .val (.int p1), .val (.int p2), .val (.int p3), .val (.int v3), .val (.int v9), .val (.int v62), .val (.int v80), .val (.int v84), .val (.ref b88), .val (.int (3 : Int32)), .val (.int (3 : Int32)), .unset, .unset, .unset, .unset, .unset] [(.ref b88)])) target
          refine XS.iconst Xg201.here hx rfl (hb hby at_209) ?_
          show Steps p.tables e below (Tg201.setTop (mkF m 210 #[.val (.int p0), .val (.int p1), .val (.int p2), .val (.int p3), .val (.int v3), .val (.int v9), .val (.int v62), .val (.int v80), .val (.int v84), .val (.ref b88), .val (.int (3 : Int32)), .val (.int (3 : Int32)), .unset, .unset, .unset, .unset, .unset] [(.int (1 : Int32)), (.ref b88)])) target
          refine XS.iload Xg201.here hx rfl (hb hby at_210) rfl ?_
          show Steps p.tables e below (Tg201.setTop (mkF m 212 #[.val (.int p0), .val (.int p1), .val (.int p2), .val (.int p3), .val (.int v3), .val (.int v9), .val (.int v62), .val (.int v80), .val (.int v84), .val (.ref b88), .val (.int (3 : Int32)), .val (.int (3 : Int32)), .unset, .unset, .unset, .unset, .unset] [(.int v80), (.int (1 : Int32)), (.ref b88)])) target
          refine XS.iload Xg201.here hx rfl (hb hby at_212) rfl ?_
          show Steps p.tables e below (Tg201.setTop (mkF m 214 #[.val (.int p0), .val (.int p1), .val (.int p2), .val (.int p3), .val (.int v3), .val (.int v9), .val (.int v62), .val (.int v80), .val (.int v84), .val (.ref b88), .val (.int (3 : Int32)), .val (.int (3 : Int32)), .unset, .unset, .unset, .unset, .unset] [(.int (3 : Int32)), (.int v80), (.int (1 : Int32)), (.ref b88)])) target
          refine XS.iload Xg201.here hx rfl (hb hby at_214) rfl ?_
          exact kt
        obtain ⟨_, _, ⟨Tg216, Lg216, kg216, ng216⟩, -, Xg216, ⟨Lcg216, hQg216, lg216, yg216, zg216⟩, stg216⟩ := Jvm.LawKit.callS Xg201 hx (y := (⟨"com/example/psyche/psyche/XmlCharsEncodePinLaw", "same", "([BIIIB)Z"⟩ : MethodName)) hown (mvT hZ (hw _ (List.mem_of_getElem? (i := 9) rfl))) (mvT hZ (hw _ (List.mem_of_getElem? (i := 10) rfl))) (mvT hZ (hw _ (List.mem_of_getElem? (i := 11) rfl))) (mvT hZ (hw _ (List.mem_of_getElem? (i := 12) rfl))) (by decide) (backOf (W := 0) (own_rm2 l Z a0 hw [] b88 (1 : Int32) v80 (3 : Int32) v84 a140 Tg140.heap n0 Zz_9 F_18 (show ¬ (1 : Int32) < 0 ∧ (1 : Int32).toNatClampNeg < 8 from (by decide))) hZ (hw _ (List.mem_of_getElem? (i := 12) rfl)) (hw _ (List.mem_of_getElem? (i := 11) rfl)) (by decide) (by decide)) (g := (mkF m 216 #[.val (.int p0), .val (.int p1), .val (.int p2), .val (.int p3), .val (.int v3), .val (.int v9), .val (.int v62), .val (.int v80), .val (.int v84), .val (.ref b88), .val (.int (3 : Int32)), .val (.int (3 : Int32)), .unset, .unset, .unset, .unset, .unset] [(.int v84), (.int (3 : Int32)), (.int v80), (.int (1 : Int32)), (.ref b88)])) rfl (by rw [hml]; rfl) (argsL := [(.ref b88), (.int (1 : Int32)), (.int v80), (.int (3 : Int32)), (.int v84)]) (rest := []) (lenOf own_pd1 rfl) rfl (by show 2 * 0 + _ ≤ _; exact Nat.le_of_eq rfl) (hb hby at_216) (fun _ _ => ⟨rfl, eg201, (by decide : 1 + 0 ≤ _), (by decide : 8 + 0 ≤ _)⟩)
        dsimp only [Pt.U, Pt.locs, Pt.cells, Pt.slots] at Xg216 lg216 yg216 zg216 stg216 hQg216
        subst lg216 yg216 zg216
        obtain ⟨rfl, Ng216q, eg216⟩ := hQg216
        have Ng216 := Fr.app Ng201 Ng216q
        refine own_st (stg216) ?_
        have c219 : (((1 : Int32) < v80) ∧ ((a140 (1 : Int32).toNatClampNeg) = v84)) ∨ (¬ ((1 : Int32) < v80) ∧ (((1 : Int32) < (v80 + (3 : Int32))) ∨ ((a140 (1 : Int32).toNatClampNeg) = v84))) := by
          rcases hat with h | h | h | h <;> (rw [ha140, h]; first | exact Or.inr ⟨by decide, Or.inl (by decide)⟩ | (refine Or.inl ⟨by decide, ?_⟩; simp +decide [hfill]) | (refine Or.inr ⟨by decide, Or.inr ?_⟩; simp +decide [hfill]))
        refine own_st (B := Tg216.setTop (mkF m 231 #[.val (.int p0), .val (.int p1), .val (.int p2), .val (.int p3), .val (.int v3), .val (.int v9), .val (.int v62), .val (.int v80), .val (.int v84), .val (.ref b88), .val (.int (3 : Int32)), .val (.int (3 : Int32)), .unset, .unset, .unset, .unset, .unset] [(.int v84), (.int (3 : Int32)), (.int v80), (.int (2 : Int32)), (.ref b88)])) (fun target kt => ?_) ?_
        · show Steps p.tables e below (Tg216.setTop (mkF m 219 #[.val (.int p0), .val (.int p1), .val (.int p2), .val (.int p3), .val (.int v3), .val (.int v9), .val (.int v62), .val (.int v80), .val (.int v84), .val (.ref b88), .val (.int (3 : Int32)), .val (.int (3 : Int32)), .unset, .unset, .unset, .unset, .unset] [(.int (own_b ((((1 : Int32) < v80) ∧ ((a140 (1 : Int32).toNatClampNeg) = v84)) ∨ (¬ ((1 : Int32) < v80) ∧ (((1 : Int32) < (v80 + (3 : Int32))) ∨ ((a140 (1 : Int32).toNatClampNeg) = v84))))))])) target
          refine XS.ifNo Xg216.here hx rfl (hb hby at_219) rfl ((if0 _ _).trans (feq (own_bn0 rfl c219)).1) ?_
          show Steps p.tables e below (Tg216.setTop (mkF m 222 #[.val (.int p0), .val (.int p1), .val (.int p2), .val (.int p3), .val (.int v3), .val (.int v9), .val (.int v62), .val (.int v80), .val (.int v84), .val (.ref b88), .val (.int (3 : Int32)), .val (.int (3 : Int32)), .unset, .unset, .unset, .unset, .unset] [])) target
          refine XS.aload Xg216.here hx rfl (hb hby at_222) rfl rfl ?_
          show Steps p.tables e below (Tg216.setTop (mkF m 224 #[.val (.int p0), .val (.int p1), .val (.int p2), .val (.int p3), .val (.int v3), .val (.int v9), .val (.int v62), .val (.int v80), .val (.int v84), .val (.ref b88), .val (.int (3 : Int32)), .val (.int (3 : Int32)), .unset, .unset, .unset, .unset, .unset] [(.ref b88)])) target
          refine XS.iconst Xg216.here hx rfl (hb hby at_224) ?_
          show Steps p.tables e below (Tg216.setTop (mkF m 225 #[.val (.int p0), .val (.int p1), .val (.int p2), .val (.int p3), .val (.int v3), .val (.int v9), .val (.int v62), .val (.int v80), .val (.int v84), .val (.ref b88), .val (.int (3 : Int32)), .val (.int (3 : Int32)), .unset, .unset, .unset, .unset, .unset] [(.int (2 : Int32)), (.ref b88)])) target
          refine XS.iload Xg216.here hx rfl (hb hby at_225) rfl ?_
          show Steps p.tables e below (Tg216.setTop (mkF m 227 #[.val (.int p0), .val (.int p1), .val (.int p2), .val (.int p3), .val (.int v3), .val (.int v9), .val (.int v62), .val (.int v80), .val (.int v84), .val (.ref b88), .val (.int (3 : Int32)), .val (.int (3 : Int32)), .unset, .unset, .unset, .unset, .unset] [(.int v80), (.int (2 : Int32)), (.ref b88)])) target
          refine XS.iload Xg216.here hx rfl (hb hby at_227) rfl ?_
          show Steps p.tables e below (Tg216.setTop (mkF m 229 #[.val (.int p0), .val (.int p1), .val (.int p2), .val (.int p3), .val (.int v3), .val (.int v9), .val (.int v62), .val (.int v80), .val (.int v84), .val (.ref b88), .val (.int (3 : Int32)), .val (.int (3 : Int32)), .unset, .unset, .unset, .unset, .unset] [(.int (3 : Int32)), (.int v80), (.int (2 : Int32)), (.ref b88)])) target
          refine XS.iload Xg216.here hx rfl (hb hby at_229) rfl ?_
          exact kt
        obtain ⟨_, _, ⟨Tg231, Lg231, kg231, ng231⟩, -, Xg231, ⟨Lcg231, hQg231, lg231, yg231, zg231⟩, stg231⟩ := Jvm.LawKit.callS Xg216 hx (y := (⟨"com/example/psyche/psyche/XmlCharsEncodePinLaw", "same", "([BIIIB)Z"⟩ : MethodName)) hown (mvT hZ (hw _ (List.mem_of_getElem? (i := 9) rfl))) (mvT hZ (hw _ (List.mem_of_getElem? (i := 10) rfl))) (mvT hZ (hw _ (List.mem_of_getElem? (i := 11) rfl))) (mvT hZ (hw _ (List.mem_of_getElem? (i := 12) rfl))) (by decide) (backOf (W := 0) (own_rm2 l Z a0 hw [] b88 (2 : Int32) v80 (3 : Int32) v84 a140 Tg140.heap n0 Zz_9 F_18 (show ¬ (2 : Int32) < 0 ∧ (2 : Int32).toNatClampNeg < 8 from (by decide))) hZ (hw _ (List.mem_of_getElem? (i := 12) rfl)) (hw _ (List.mem_of_getElem? (i := 11) rfl)) (by decide) (by decide)) (g := (mkF m 231 #[.val (.int p0), .val (.int p1), .val (.int p2), .val (.int p3), .val (.int v3), .val (.int v9), .val (.int v62), .val (.int v80), .val (.int v84), .val (.ref b88), .val (.int (3 : Int32)), .val (.int (3 : Int32)), .unset, .unset, .unset, .unset, .unset] [(.int v84), (.int (3 : Int32)), (.int v80), (.int (2 : Int32)), (.ref b88)])) rfl (by rw [hml]; rfl) (argsL := [(.ref b88), (.int (2 : Int32)), (.int v80), (.int (3 : Int32)), (.int v84)]) (rest := []) (lenOf own_pd1 rfl) rfl (by show 2 * 0 + _ ≤ _; exact Nat.le_of_eq rfl) (hb hby at_231) (fun _ _ => ⟨rfl, eg216, (by decide : 1 + 0 ≤ _), (by decide : 8 + 0 ≤ _)⟩)
        dsimp only [Pt.U, Pt.locs, Pt.cells, Pt.slots] at Xg231 lg231 yg231 zg231 stg231 hQg231
        subst lg231 yg231 zg231
        obtain ⟨rfl, Ng231q, eg231⟩ := hQg231
        have Ng231 := Fr.app Ng216 Ng231q
        refine own_st (stg231) ?_
        have c234 : (((2 : Int32) < v80) ∧ ((a140 (2 : Int32).toNatClampNeg) = v84)) ∨ (¬ ((2 : Int32) < v80) ∧ (((2 : Int32) < (v80 + (3 : Int32))) ∨ ((a140 (2 : Int32).toNatClampNeg) = v84))) := by
          rcases hat with h | h | h | h <;> (rw [ha140, h]; first | exact Or.inr ⟨by decide, Or.inl (by decide)⟩ | (refine Or.inl ⟨by decide, ?_⟩; simp +decide [hfill]) | (refine Or.inr ⟨by decide, Or.inr ?_⟩; simp +decide [hfill]))
        refine own_st (B := Tg231.setTop (mkF m 246 #[.val (.int p0), .val (.int p1), .val (.int p2), .val (.int p3), .val (.int v3), .val (.int v9), .val (.int v62), .val (.int v80), .val (.int v84), .val (.ref b88), .val (.int (3 : Int32)), .val (.int (3 : Int32)), .unset, .unset, .unset, .unset, .unset] [(.int v84), (.int (3 : Int32)), (.int v80), (.int (3 : Int32)), (.ref b88)])) (fun target kt => ?_) ?_
        · show Steps p.tables e below (Tg231.setTop (mkF m 234 #[.val (.int p0), .val (.int p1), .val (.int p2), .val (.int p3), .val (.int v3), .val (.int v9), .val (.int v62), .val (.int v80), .val (.int v84), .val (.ref b88), .val (.int (3 : Int32)), .val (.int (3 : Int32)), .unset, .unset, .unset, .unset, .unset] [(.int (own_b ((((2 : Int32) < v80) ∧ ((a140 (2 : Int32).toNatClampNeg) = v84)) ∨ (¬ ((2 : Int32) < v80) ∧ (((2 : Int32) < (v80 + (3 : Int32))) ∨ ((a140 (2 : Int32).toNatClampNeg) = v84))))))])) target
          refine XS.ifNo Xg231.here hx rfl (hb hby at_234) rfl ((if0 _ _).trans (feq (own_bn0 rfl c234)).1) ?_
          show Steps p.tables e below (Tg231.setTop (mkF m 237 #[.val (.int p0), .val (.int p1), .val (.int p2), .val (.int p3), .val (.int v3), .val (.int v9), .val (.int v62), .val (.int v80), .val (.int v84), .val (.ref b88), .val (.int (3 : Int32)), .val (.int (3 : Int32)), .unset, .unset, .unset, .unset, .unset] [])) target
          refine XS.aload Xg231.here hx rfl (hb hby at_237) rfl rfl ?_
          show Steps p.tables e below (Tg231.setTop (mkF m 239 #[.val (.int p0), .val (.int p1), .val (.int p2), .val (.int p3), .val (.int v3), .val (.int v9), .val (.int v62), .val (.int v80), .val (.int v84), .val (.ref b88), .val (.int (3 : Int32)), .val (.int (3 : Int32)), .unset, .unset, .unset, .unset, .unset] [(.ref b88)])) target
          refine XS.iconst Xg231.here hx rfl (hb hby at_239) ?_
          show Steps p.tables e below (Tg231.setTop (mkF m 240 #[.val (.int p0), .val (.int p1), .val (.int p2), .val (.int p3), .val (.int v3), .val (.int v9), .val (.int v62), .val (.int v80), .val (.int v84), .val (.ref b88), .val (.int (3 : Int32)), .val (.int (3 : Int32)), .unset, .unset, .unset, .unset, .unset] [(.int (3 : Int32)), (.ref b88)])) target
          refine XS.iload Xg231.here hx rfl (hb hby at_240) rfl ?_
          show Steps p.tables e below (Tg231.setTop (mkF m 242 #[.val (.int p0), .val (.int p1), .val (.int p2), .val (.int p3), .val (.int v3), .val (.int v9), .val (.int v62), .val (.int v80), .val (.int v84), .val (.ref b88), .val (.int (3 : Int32)), .val (.int (3 : Int32)), .unset, .unset, .unset, .unset, .unset] [(.int v80), (.int (3 : Int32)), (.ref b88)])) target
          refine XS.iload Xg231.here hx rfl (hb hby at_242) rfl ?_
          show Steps p.tables e below (Tg231.setTop (mkF m 244 #[.val (.int p0), .val (.int p1), .val (.int p2), .val (.int p3), .val (.int v3), .val (.int v9), .val (.int v62), .val (.int v80), .val (.int v84), .val (.ref b88), .val (.int (3 : Int32)), .val (.int (3 : Int32)), .unset, .unset, .unset, .unset, .unset] [(.int (3 : Int32)), (.int v80), (.int (3 : Int32)), (.ref b88)])) target
          refine XS.iload Xg231.here hx rfl (hb hby at_244) rfl ?_
          exact kt
        obtain ⟨_, _, ⟨Tg246, Lg246, kg246, ng246⟩, -, Xg246, ⟨Lcg246, hQg246, lg246, yg246, zg246⟩, stg246⟩ := Jvm.LawKit.callS Xg231 hx (y := (⟨"com/example/psyche/psyche/XmlCharsEncodePinLaw", "same", "([BIIIB)Z"⟩ : MethodName)) hown (mvT hZ (hw _ (List.mem_of_getElem? (i := 9) rfl))) (mvT hZ (hw _ (List.mem_of_getElem? (i := 10) rfl))) (mvT hZ (hw _ (List.mem_of_getElem? (i := 11) rfl))) (mvT hZ (hw _ (List.mem_of_getElem? (i := 12) rfl))) (by decide) (backOf (W := 0) (own_rm2 l Z a0 hw [] b88 (3 : Int32) v80 (3 : Int32) v84 a140 Tg140.heap n0 Zz_9 F_18 (show ¬ (3 : Int32) < 0 ∧ (3 : Int32).toNatClampNeg < 8 from (by decide))) hZ (hw _ (List.mem_of_getElem? (i := 12) rfl)) (hw _ (List.mem_of_getElem? (i := 11) rfl)) (by decide) (by decide)) (g := (mkF m 246 #[.val (.int p0), .val (.int p1), .val (.int p2), .val (.int p3), .val (.int v3), .val (.int v9), .val (.int v62), .val (.int v80), .val (.int v84), .val (.ref b88), .val (.int (3 : Int32)), .val (.int (3 : Int32)), .unset, .unset, .unset, .unset, .unset] [(.int v84), (.int (3 : Int32)), (.int v80), (.int (3 : Int32)), (.ref b88)])) rfl (by rw [hml]; rfl) (argsL := [(.ref b88), (.int (3 : Int32)), (.int v80), (.int (3 : Int32)), (.int v84)]) (rest := []) (lenOf own_pd1 rfl) rfl (by show 2 * 0 + _ ≤ _; exact Nat.le_of_eq rfl) (hb hby at_246) (fun _ _ => ⟨rfl, eg231, (by decide : 1 + 0 ≤ _), (by decide : 8 + 0 ≤ _)⟩)
        dsimp only [Pt.U, Pt.locs, Pt.cells, Pt.slots] at Xg246 lg246 yg246 zg246 stg246 hQg246
        subst lg246 yg246 zg246
        obtain ⟨rfl, Ng246q, eg246⟩ := hQg246
        have Ng246 := Fr.app Ng231 Ng246q
        refine own_st (stg246) ?_
        have c249 : (((3 : Int32) < v80) ∧ ((a140 (3 : Int32).toNatClampNeg) = v84)) ∨ (¬ ((3 : Int32) < v80) ∧ (((3 : Int32) < (v80 + (3 : Int32))) ∨ ((a140 (3 : Int32).toNatClampNeg) = v84))) := by
          rcases hat with h | h | h | h <;> (rw [ha140, h]; first | exact Or.inr ⟨by decide, Or.inl (by decide)⟩ | (refine Or.inl ⟨by decide, ?_⟩; simp +decide [hfill]) | (refine Or.inr ⟨by decide, Or.inr ?_⟩; simp +decide [hfill]))
        refine own_st (B := Tg246.setTop (mkF m 261 #[.val (.int p0), .val (.int p1), .val (.int p2), .val (.int p3), .val (.int v3), .val (.int v9), .val (.int v62), .val (.int v80), .val (.int v84), .val (.ref b88), .val (.int (3 : Int32)), .val (.int (3 : Int32)), .unset, .unset, .unset, .unset, .unset] [(.int v84), (.int (3 : Int32)), (.int v80), (.int (4 : Int32)), (.ref b88)])) (fun target kt => ?_) ?_
        · show Steps p.tables e below (Tg246.setTop (mkF m 249 #[.val (.int p0), .val (.int p1), .val (.int p2), .val (.int p3), .val (.int v3), .val (.int v9), .val (.int v62), .val (.int v80), .val (.int v84), .val (.ref b88), .val (.int (3 : Int32)), .val (.int (3 : Int32)), .unset, .unset, .unset, .unset, .unset] [(.int (own_b ((((3 : Int32) < v80) ∧ ((a140 (3 : Int32).toNatClampNeg) = v84)) ∨ (¬ ((3 : Int32) < v80) ∧ (((3 : Int32) < (v80 + (3 : Int32))) ∨ ((a140 (3 : Int32).toNatClampNeg) = v84))))))])) target
          refine XS.ifNo Xg246.here hx rfl (hb hby at_249) rfl ((if0 _ _).trans (feq (own_bn0 rfl c249)).1) ?_
          show Steps p.tables e below (Tg246.setTop (mkF m 252 #[.val (.int p0), .val (.int p1), .val (.int p2), .val (.int p3), .val (.int v3), .val (.int v9), .val (.int v62), .val (.int v80), .val (.int v84), .val (.ref b88), .val (.int (3 : Int32)), .val (.int (3 : Int32)), .unset, .unset, .unset, .unset, .unset] [])) target
          refine XS.aload Xg246.here hx rfl (hb hby at_252) rfl rfl ?_
          show Steps p.tables e below (Tg246.setTop (mkF m 254 #[.val (.int p0), .val (.int p1), .val (.int p2), .val (.int p3), .val (.int v3), .val (.int v9), .val (.int v62), .val (.int v80), .val (.int v84), .val (.ref b88), .val (.int (3 : Int32)), .val (.int (3 : Int32)), .unset, .unset, .unset, .unset, .unset] [(.ref b88)])) target
          refine XS.iconst Xg246.here hx rfl (hb hby at_254) ?_
          show Steps p.tables e below (Tg246.setTop (mkF m 255 #[.val (.int p0), .val (.int p1), .val (.int p2), .val (.int p3), .val (.int v3), .val (.int v9), .val (.int v62), .val (.int v80), .val (.int v84), .val (.ref b88), .val (.int (3 : Int32)), .val (.int (3 : Int32)), .unset, .unset, .unset, .unset, .unset] [(.int (4 : Int32)), (.ref b88)])) target
          refine XS.iload Xg246.here hx rfl (hb hby at_255) rfl ?_
          show Steps p.tables e below (Tg246.setTop (mkF m 257 #[.val (.int p0), .val (.int p1), .val (.int p2), .val (.int p3), .val (.int v3), .val (.int v9), .val (.int v62), .val (.int v80), .val (.int v84), .val (.ref b88), .val (.int (3 : Int32)), .val (.int (3 : Int32)), .unset, .unset, .unset, .unset, .unset] [(.int v80), (.int (4 : Int32)), (.ref b88)])) target
          refine XS.iload Xg246.here hx rfl (hb hby at_257) rfl ?_
          show Steps p.tables e below (Tg246.setTop (mkF m 259 #[.val (.int p0), .val (.int p1), .val (.int p2), .val (.int p3), .val (.int v3), .val (.int v9), .val (.int v62), .val (.int v80), .val (.int v84), .val (.ref b88), .val (.int (3 : Int32)), .val (.int (3 : Int32)), .unset, .unset, .unset, .unset, .unset] [(.int (3 : Int32)), (.int v80), (.int (4 : Int32)), (.ref b88)])) target
          refine XS.iload Xg246.here hx rfl (hb hby at_259) rfl ?_
          exact kt
        obtain ⟨_, _, ⟨Tg261, Lg261, kg261, ng261⟩, -, Xg261, ⟨Lcg261, hQg261, lg261, yg261, zg261⟩, stg261⟩ := Jvm.LawKit.callS Xg246 hx (y := (⟨"com/example/psyche/psyche/XmlCharsEncodePinLaw", "same", "([BIIIB)Z"⟩ : MethodName)) hown (mvT hZ (hw _ (List.mem_of_getElem? (i := 9) rfl))) (mvT hZ (hw _ (List.mem_of_getElem? (i := 10) rfl))) (mvT hZ (hw _ (List.mem_of_getElem? (i := 11) rfl))) (mvT hZ (hw _ (List.mem_of_getElem? (i := 12) rfl))) (by decide) (backOf (W := 0) (own_rm2 l Z a0 hw [] b88 (4 : Int32) v80 (3 : Int32) v84 a140 Tg140.heap n0 Zz_9 F_18 (show ¬ (4 : Int32) < 0 ∧ (4 : Int32).toNatClampNeg < 8 from (by decide))) hZ (hw _ (List.mem_of_getElem? (i := 12) rfl)) (hw _ (List.mem_of_getElem? (i := 11) rfl)) (by decide) (by decide)) (g := (mkF m 261 #[.val (.int p0), .val (.int p1), .val (.int p2), .val (.int p3), .val (.int v3), .val (.int v9), .val (.int v62), .val (.int v80), .val (.int v84), .val (.ref b88), .val (.int (3 : Int32)), .val (.int (3 : Int32)), .unset, .unset, .unset, .unset, .unset] [(.int v84), (.int (3 : Int32)), (.int v80), (.int (4 : Int32)), (.ref b88)])) rfl (by rw [hml]; rfl) (argsL := [(.ref b88), (.int (4 : Int32)), (.int v80), (.int (3 : Int32)), (.int v84)]) (rest := []) (lenOf own_pd1 rfl) rfl (by show 2 * 0 + _ ≤ _; exact Nat.le_of_eq rfl) (hb hby at_261) (fun _ _ => ⟨rfl, eg246, (by decide : 1 + 0 ≤ _), (by decide : 8 + 0 ≤ _)⟩)
        dsimp only [Pt.U, Pt.locs, Pt.cells, Pt.slots] at Xg261 lg261 yg261 zg261 stg261 hQg261
        subst lg261 yg261 zg261
        obtain ⟨rfl, Ng261q, eg261⟩ := hQg261
        have Ng261 := Fr.app Ng246 Ng261q
        refine own_st (stg261) ?_
        have c264 : (((4 : Int32) < v80) ∧ ((a140 (4 : Int32).toNatClampNeg) = v84)) ∨ (¬ ((4 : Int32) < v80) ∧ (((4 : Int32) < (v80 + (3 : Int32))) ∨ ((a140 (4 : Int32).toNatClampNeg) = v84))) := by
          rcases hat with h | h | h | h <;> (rw [ha140, h]; first | exact Or.inr ⟨by decide, Or.inl (by decide)⟩ | (refine Or.inl ⟨by decide, ?_⟩; simp +decide [hfill]) | (refine Or.inr ⟨by decide, Or.inr ?_⟩; simp +decide [hfill]))
        refine own_st (B := Tg261.setTop (mkF m 276 #[.val (.int p0), .val (.int p1), .val (.int p2), .val (.int p3), .val (.int v3), .val (.int v9), .val (.int v62), .val (.int v80), .val (.int v84), .val (.ref b88), .val (.int (3 : Int32)), .val (.int (3 : Int32)), .unset, .unset, .unset, .unset, .unset] [(.int v84), (.int (3 : Int32)), (.int v80), (.int (5 : Int32)), (.ref b88)])) (fun target kt => ?_) ?_
        · show Steps p.tables e below (Tg261.setTop (mkF m 264 #[.val (.int p0), .val (.int p1), .val (.int p2), .val (.int p3), .val (.int v3), .val (.int v9), .val (.int v62), .val (.int v80), .val (.int v84), .val (.ref b88), .val (.int (3 : Int32)), .val (.int (3 : Int32)), .unset, .unset, .unset, .unset, .unset] [(.int (own_b ((((4 : Int32) < v80) ∧ ((a140 (4 : Int32).toNatClampNeg) = v84)) ∨ (¬ ((4 : Int32) < v80) ∧ (((4 : Int32) < (v80 + (3 : Int32))) ∨ ((a140 (4 : Int32).toNatClampNeg) = v84))))))])) target
          refine XS.ifNo Xg261.here hx rfl (hb hby at_264) rfl ((if0 _ _).trans (feq (own_bn0 rfl c264)).1) ?_
          show Steps p.tables e below (Tg261.setTop (mkF m 267 #[.val (.int p0), .val (.int p1), .val (.int p2), .val (.int p3), .val (.int v3), .val (.int v9), .val (.int v62), .val (.int v80), .val (.int v84), .val (.ref b88), .val (.int (3 : Int32)), .val (.int (3 : Int32)), .unset, .unset, .unset, .unset, .unset] [])) target
          refine XS.aload Xg261.here hx rfl (hb hby at_267) rfl rfl ?_
          show Steps p.tables e below (Tg261.setTop (mkF m 269 #[.val (.int p0), .val (.int p1), .val (.int p2), .val (.int p3), .val (.int v3), .val (.int v9), .val (.int v62), .val (.int v80), .val (.int v84), .val (.ref b88), .val (.int (3 : Int32)), .val (.int (3 : Int32)), .unset, .unset, .unset, .unset, .unset] [(.ref b88)])) target
          refine XS.iconst Xg261.here hx rfl (hb hby at_269) ?_
          show Steps p.tables e below (Tg261.setTop (mkF m 270 #[.val (.int p0), .val (.int p1), .val (.int p2), .val (.int p3), .val (.int v3), .val (.int v9), .val (.int v62), .val (.int v80), .val (.int v84), .val (.ref b88), .val (.int (3 : Int32)), .val (.int (3 : Int32)), .unset, .unset, .unset, .unset, .unset] [(.int (5 : Int32)), (.ref b88)])) target
          refine XS.iload Xg261.here hx rfl (hb hby at_270) rfl ?_
          show Steps p.tables e below (Tg261.setTop (mkF m 272 #[.val (.int p0), .val (.int p1), .val (.int p2), .val (.int p3), .val (.int v3), .val (.int v9), .val (.int v62), .val (.int v80), .val (.int v84), .val (.ref b88), .val (.int (3 : Int32)), .val (.int (3 : Int32)), .unset, .unset, .unset, .unset, .unset] [(.int v80), (.int (5 : Int32)), (.ref b88)])) target
          refine XS.iload Xg261.here hx rfl (hb hby at_272) rfl ?_
          show Steps p.tables e below (Tg261.setTop (mkF m 274 #[.val (.int p0), .val (.int p1), .val (.int p2), .val (.int p3), .val (.int v3), .val (.int v9), .val (.int v62), .val (.int v80), .val (.int v84), .val (.ref b88), .val (.int (3 : Int32)), .val (.int (3 : Int32)), .unset, .unset, .unset, .unset, .unset] [(.int (3 : Int32)), (.int v80), (.int (5 : Int32)), (.ref b88)])) target
          refine XS.iload Xg261.here hx rfl (hb hby at_274) rfl ?_
          exact kt
        obtain ⟨_, _, ⟨Tg276, Lg276, kg276, ng276⟩, -, Xg276, ⟨Lcg276, hQg276, lg276, yg276, zg276⟩, stg276⟩ := Jvm.LawKit.callS Xg261 hx (y := (⟨"com/example/psyche/psyche/XmlCharsEncodePinLaw", "same", "([BIIIB)Z"⟩ : MethodName)) hown (mvT hZ (hw _ (List.mem_of_getElem? (i := 9) rfl))) (mvT hZ (hw _ (List.mem_of_getElem? (i := 10) rfl))) (mvT hZ (hw _ (List.mem_of_getElem? (i := 11) rfl))) (mvT hZ (hw _ (List.mem_of_getElem? (i := 12) rfl))) (by decide) (backOf (W := 0) (own_rm2 l Z a0 hw [] b88 (5 : Int32) v80 (3 : Int32) v84 a140 Tg140.heap n0 Zz_9 F_18 (show ¬ (5 : Int32) < 0 ∧ (5 : Int32).toNatClampNeg < 8 from (by decide))) hZ (hw _ (List.mem_of_getElem? (i := 12) rfl)) (hw _ (List.mem_of_getElem? (i := 11) rfl)) (by decide) (by decide)) (g := (mkF m 276 #[.val (.int p0), .val (.int p1), .val (.int p2), .val (.int p3), .val (.int v3), .val (.int v9), .val (.int v62), .val (.int v80), .val (.int v84), .val (.ref b88), .val (.int (3 : Int32)), .val (.int (3 : Int32)), .unset, .unset, .unset, .unset, .unset] [(.int v84), (.int (3 : Int32)), (.int v80), (.int (5 : Int32)), (.ref b88)])) rfl (by rw [hml]; rfl) (argsL := [(.ref b88), (.int (5 : Int32)), (.int v80), (.int (3 : Int32)), (.int v84)]) (rest := []) (lenOf own_pd1 rfl) rfl (by show 2 * 0 + _ ≤ _; exact Nat.le_of_eq rfl) (hb hby at_276) (fun _ _ => ⟨rfl, eg261, (by decide : 1 + 0 ≤ _), (by decide : 8 + 0 ≤ _)⟩)
        dsimp only [Pt.U, Pt.locs, Pt.cells, Pt.slots] at Xg276 lg276 yg276 zg276 stg276 hQg276
        subst lg276 yg276 zg276
        obtain ⟨rfl, Ng276q, eg276⟩ := hQg276
        have Ng276 := Fr.app Ng261 Ng276q
        refine own_st (stg276) ?_
        have c279 : (((5 : Int32) < v80) ∧ ((a140 (5 : Int32).toNatClampNeg) = v84)) ∨ (¬ ((5 : Int32) < v80) ∧ (((5 : Int32) < (v80 + (3 : Int32))) ∨ ((a140 (5 : Int32).toNatClampNeg) = v84))) := by
          rcases hat with h | h | h | h <;> (rw [ha140, h]; first | exact Or.inr ⟨by decide, Or.inl (by decide)⟩ | (refine Or.inl ⟨by decide, ?_⟩; simp +decide [hfill]) | (refine Or.inr ⟨by decide, Or.inr ?_⟩; simp +decide [hfill]))
        refine own_st (B := Tg276.setTop (mkF m 292 #[.val (.int p0), .val (.int p1), .val (.int p2), .val (.int p3), .val (.int v3), .val (.int v9), .val (.int v62), .val (.int v80), .val (.int v84), .val (.ref b88), .val (.int (3 : Int32)), .val (.int (3 : Int32)), .unset, .unset, .unset, .unset, .unset] [(.int v84), (.int (3 : Int32)), (.int v80), (.int (6 : Int32)), (.ref b88)])) (fun target kt => ?_) ?_
        · show Steps p.tables e below (Tg276.setTop (mkF m 279 #[.val (.int p0), .val (.int p1), .val (.int p2), .val (.int p3), .val (.int v3), .val (.int v9), .val (.int v62), .val (.int v80), .val (.int v84), .val (.ref b88), .val (.int (3 : Int32)), .val (.int (3 : Int32)), .unset, .unset, .unset, .unset, .unset] [(.int (own_b ((((5 : Int32) < v80) ∧ ((a140 (5 : Int32).toNatClampNeg) = v84)) ∨ (¬ ((5 : Int32) < v80) ∧ (((5 : Int32) < (v80 + (3 : Int32))) ∨ ((a140 (5 : Int32).toNatClampNeg) = v84))))))])) target
          refine XS.ifNo Xg276.here hx rfl (hb hby at_279) rfl ((if0 _ _).trans (feq (own_bn0 rfl c279)).1) ?_
          show Steps p.tables e below (Tg276.setTop (mkF m 282 #[.val (.int p0), .val (.int p1), .val (.int p2), .val (.int p3), .val (.int v3), .val (.int v9), .val (.int v62), .val (.int v80), .val (.int v84), .val (.ref b88), .val (.int (3 : Int32)), .val (.int (3 : Int32)), .unset, .unset, .unset, .unset, .unset] [])) target
          refine XS.aload Xg276.here hx rfl (hb hby at_282) rfl rfl ?_
          show Steps p.tables e below (Tg276.setTop (mkF m 284 #[.val (.int p0), .val (.int p1), .val (.int p2), .val (.int p3), .val (.int v3), .val (.int v9), .val (.int v62), .val (.int v80), .val (.int v84), .val (.ref b88), .val (.int (3 : Int32)), .val (.int (3 : Int32)), .unset, .unset, .unset, .unset, .unset] [(.ref b88)])) target
          refine XS.bipush Xg276.here hx rfl (hb hby at_284) ?_
          show Steps p.tables e below (Tg276.setTop (mkF m 286 #[.val (.int p0), .val (.int p1), .val (.int p2), .val (.int p3), .val (.int v3), .val (.int v9), .val (.int v62), .val (.int v80), .val (.int v84), .val (.ref b88), .val (.int (3 : Int32)), .val (.int (3 : Int32)), .unset, .unset, .unset, .unset, .unset] [(.int (6 : Int32)), (.ref b88)])) target
          refine XS.iload Xg276.here hx rfl (hb hby at_286) rfl ?_
          show Steps p.tables e below (Tg276.setTop (mkF m 288 #[.val (.int p0), .val (.int p1), .val (.int p2), .val (.int p3), .val (.int v3), .val (.int v9), .val (.int v62), .val (.int v80), .val (.int v84), .val (.ref b88), .val (.int (3 : Int32)), .val (.int (3 : Int32)), .unset, .unset, .unset, .unset, .unset] [(.int v80), (.int (6 : Int32)), (.ref b88)])) target
          refine XS.iload Xg276.here hx rfl (hb hby at_288) rfl ?_
          show Steps p.tables e below (Tg276.setTop (mkF m 290 #[.val (.int p0), .val (.int p1), .val (.int p2), .val (.int p3), .val (.int v3), .val (.int v9), .val (.int v62), .val (.int v80), .val (.int v84), .val (.ref b88), .val (.int (3 : Int32)), .val (.int (3 : Int32)), .unset, .unset, .unset, .unset, .unset] [(.int (3 : Int32)), (.int v80), (.int (6 : Int32)), (.ref b88)])) target
          refine XS.iload Xg276.here hx rfl (hb hby at_290) rfl ?_
          exact kt
        obtain ⟨_, _, ⟨Tg292, Lg292, kg292, ng292⟩, -, Xg292, ⟨Lcg292, hQg292, lg292, yg292, zg292⟩, stg292⟩ := Jvm.LawKit.callS Xg276 hx (y := (⟨"com/example/psyche/psyche/XmlCharsEncodePinLaw", "same", "([BIIIB)Z"⟩ : MethodName)) hown (mvT hZ (hw _ (List.mem_of_getElem? (i := 9) rfl))) (mvT hZ (hw _ (List.mem_of_getElem? (i := 10) rfl))) (mvT hZ (hw _ (List.mem_of_getElem? (i := 11) rfl))) (mvT hZ (hw _ (List.mem_of_getElem? (i := 12) rfl))) (by decide) (backOf (W := 0) (own_rm2 l Z a0 hw [] b88 (6 : Int32) v80 (3 : Int32) v84 a140 Tg140.heap n0 Zz_9 F_18 (show ¬ (6 : Int32) < 0 ∧ (6 : Int32).toNatClampNeg < 8 from (by decide))) hZ (hw _ (List.mem_of_getElem? (i := 12) rfl)) (hw _ (List.mem_of_getElem? (i := 11) rfl)) (by decide) (by decide)) (g := (mkF m 292 #[.val (.int p0), .val (.int p1), .val (.int p2), .val (.int p3), .val (.int v3), .val (.int v9), .val (.int v62), .val (.int v80), .val (.int v84), .val (.ref b88), .val (.int (3 : Int32)), .val (.int (3 : Int32)), .unset, .unset, .unset, .unset, .unset] [(.int v84), (.int (3 : Int32)), (.int v80), (.int (6 : Int32)), (.ref b88)])) rfl (by rw [hml]; rfl) (argsL := [(.ref b88), (.int (6 : Int32)), (.int v80), (.int (3 : Int32)), (.int v84)]) (rest := []) (lenOf own_pd1 rfl) rfl (by show 2 * 0 + _ ≤ _; exact Nat.le_of_eq rfl) (hb hby at_292) (fun _ _ => ⟨rfl, eg276, (by decide : 1 + 0 ≤ _), (by decide : 8 + 0 ≤ _)⟩)
        dsimp only [Pt.U, Pt.locs, Pt.cells, Pt.slots] at Xg292 lg292 yg292 zg292 stg292 hQg292
        subst lg292 yg292 zg292
        obtain ⟨rfl, Ng292q, eg292⟩ := hQg292
        have Ng292 := Fr.app Ng276 Ng292q
        refine own_st (stg292) ?_
        have c295 : (((6 : Int32) < v80) ∧ ((a140 (6 : Int32).toNatClampNeg) = v84)) ∨ (¬ ((6 : Int32) < v80) ∧ (((6 : Int32) < (v80 + (3 : Int32))) ∨ ((a140 (6 : Int32).toNatClampNeg) = v84))) := by
          rcases hat with h | h | h | h <;> (rw [ha140, h]; first | exact Or.inr ⟨by decide, Or.inl (by decide)⟩ | (refine Or.inl ⟨by decide, ?_⟩; simp +decide [hfill]) | (refine Or.inr ⟨by decide, Or.inr ?_⟩; simp +decide [hfill]))
        refine own_st (B := Tg292.setTop (mkF m 308 #[.val (.int p0), .val (.int p1), .val (.int p2), .val (.int p3), .val (.int v3), .val (.int v9), .val (.int v62), .val (.int v80), .val (.int v84), .val (.ref b88), .val (.int (3 : Int32)), .val (.int (3 : Int32)), .unset, .unset, .unset, .unset, .unset] [(.int v84), (.int (3 : Int32)), (.int v80), (.int (7 : Int32)), (.ref b88)])) (fun target kt => ?_) ?_
        · show Steps p.tables e below (Tg292.setTop (mkF m 295 #[.val (.int p0), .val (.int p1), .val (.int p2), .val (.int p3), .val (.int v3), .val (.int v9), .val (.int v62), .val (.int v80), .val (.int v84), .val (.ref b88), .val (.int (3 : Int32)), .val (.int (3 : Int32)), .unset, .unset, .unset, .unset, .unset] [(.int (own_b ((((6 : Int32) < v80) ∧ ((a140 (6 : Int32).toNatClampNeg) = v84)) ∨ (¬ ((6 : Int32) < v80) ∧ (((6 : Int32) < (v80 + (3 : Int32))) ∨ ((a140 (6 : Int32).toNatClampNeg) = v84))))))])) target
          refine XS.ifNo Xg292.here hx rfl (hb hby at_295) rfl ((if0 _ _).trans (feq (own_bn0 rfl c295)).1) ?_
          show Steps p.tables e below (Tg292.setTop (mkF m 298 #[.val (.int p0), .val (.int p1), .val (.int p2), .val (.int p3), .val (.int v3), .val (.int v9), .val (.int v62), .val (.int v80), .val (.int v84), .val (.ref b88), .val (.int (3 : Int32)), .val (.int (3 : Int32)), .unset, .unset, .unset, .unset, .unset] [])) target
          refine XS.aload Xg292.here hx rfl (hb hby at_298) rfl rfl ?_
          show Steps p.tables e below (Tg292.setTop (mkF m 300 #[.val (.int p0), .val (.int p1), .val (.int p2), .val (.int p3), .val (.int v3), .val (.int v9), .val (.int v62), .val (.int v80), .val (.int v84), .val (.ref b88), .val (.int (3 : Int32)), .val (.int (3 : Int32)), .unset, .unset, .unset, .unset, .unset] [(.ref b88)])) target
          refine XS.bipush Xg292.here hx rfl (hb hby at_300) ?_
          show Steps p.tables e below (Tg292.setTop (mkF m 302 #[.val (.int p0), .val (.int p1), .val (.int p2), .val (.int p3), .val (.int v3), .val (.int v9), .val (.int v62), .val (.int v80), .val (.int v84), .val (.ref b88), .val (.int (3 : Int32)), .val (.int (3 : Int32)), .unset, .unset, .unset, .unset, .unset] [(.int (7 : Int32)), (.ref b88)])) target
          refine XS.iload Xg292.here hx rfl (hb hby at_302) rfl ?_
          show Steps p.tables e below (Tg292.setTop (mkF m 304 #[.val (.int p0), .val (.int p1), .val (.int p2), .val (.int p3), .val (.int v3), .val (.int v9), .val (.int v62), .val (.int v80), .val (.int v84), .val (.ref b88), .val (.int (3 : Int32)), .val (.int (3 : Int32)), .unset, .unset, .unset, .unset, .unset] [(.int v80), (.int (7 : Int32)), (.ref b88)])) target
          refine XS.iload Xg292.here hx rfl (hb hby at_304) rfl ?_
          show Steps p.tables e below (Tg292.setTop (mkF m 306 #[.val (.int p0), .val (.int p1), .val (.int p2), .val (.int p3), .val (.int v3), .val (.int v9), .val (.int v62), .val (.int v80), .val (.int v84), .val (.ref b88), .val (.int (3 : Int32)), .val (.int (3 : Int32)), .unset, .unset, .unset, .unset, .unset] [(.int (3 : Int32)), (.int v80), (.int (7 : Int32)), (.ref b88)])) target
          refine XS.iload Xg292.here hx rfl (hb hby at_306) rfl ?_
          exact kt
        obtain ⟨_, _, ⟨Tg308, Lg308, kg308, ng308⟩, -, Xg308, ⟨Lcg308, hQg308, lg308, yg308, zg308⟩, stg308⟩ := Jvm.LawKit.callS Xg292 hx (y := (⟨"com/example/psyche/psyche/XmlCharsEncodePinLaw", "same", "([BIIIB)Z"⟩ : MethodName)) hown (mvT hZ (hw _ (List.mem_of_getElem? (i := 9) rfl))) (mvT hZ (hw _ (List.mem_of_getElem? (i := 10) rfl))) (mvT hZ (hw _ (List.mem_of_getElem? (i := 11) rfl))) (mvT hZ (hw _ (List.mem_of_getElem? (i := 12) rfl))) (by decide) (backOf (W := 0) (own_rm2 l Z a0 hw [] b88 (7 : Int32) v80 (3 : Int32) v84 a140 Tg140.heap n0 Zz_9 F_18 (show ¬ (7 : Int32) < 0 ∧ (7 : Int32).toNatClampNeg < 8 from (by decide))) hZ (hw _ (List.mem_of_getElem? (i := 12) rfl)) (hw _ (List.mem_of_getElem? (i := 11) rfl)) (by decide) (by decide)) (g := (mkF m 308 #[.val (.int p0), .val (.int p1), .val (.int p2), .val (.int p3), .val (.int v3), .val (.int v9), .val (.int v62), .val (.int v80), .val (.int v84), .val (.ref b88), .val (.int (3 : Int32)), .val (.int (3 : Int32)), .unset, .unset, .unset, .unset, .unset] [(.int v84), (.int (3 : Int32)), (.int v80), (.int (7 : Int32)), (.ref b88)])) rfl (by rw [hml]; rfl) (argsL := [(.ref b88), (.int (7 : Int32)), (.int v80), (.int (3 : Int32)), (.int v84)]) (rest := []) (lenOf own_pd1 rfl) rfl (by show 2 * 0 + _ ≤ _; exact Nat.le_of_eq rfl) (hb hby at_308) (fun _ _ => ⟨rfl, eg292, (by decide : 1 + 0 ≤ _), (by decide : 8 + 0 ≤ _)⟩)
        dsimp only [Pt.U, Pt.locs, Pt.cells, Pt.slots] at Xg308 lg308 yg308 zg308 stg308 hQg308
        subst lg308 yg308 zg308
        obtain ⟨rfl, Ng308q, eg308⟩ := hQg308
        have Ng308 := Fr.app Ng292 Ng308q
        refine own_st (stg308) ?_
        have c311 : (((7 : Int32) < v80) ∧ ((a140 (7 : Int32).toNatClampNeg) = v84)) ∨ (¬ ((7 : Int32) < v80) ∧ (((7 : Int32) < (v80 + (3 : Int32))) ∨ ((a140 (7 : Int32).toNatClampNeg) = v84))) := by
          rcases hat with h | h | h | h <;> (rw [ha140, h]; first | exact Or.inr ⟨by decide, Or.inl (by decide)⟩ | (refine Or.inl ⟨by decide, ?_⟩; simp +decide [hfill]) | (refine Or.inr ⟨by decide, Or.inr ?_⟩; simp +decide [hfill]))
        refine own_st (B := Tg308.setTop (mkF m 328 #[.val (.int p0), .val (.int p1), .val (.int p2), .val (.int p3), .val (.int v3), .val (.int v9), .val (.int v62), .val (.int v80), .val (.int v84), .val (.ref b88), .val (.int (3 : Int32)), .val (.int (3 : Int32)), .val (.int (1 : Int32)), .unset, .unset, .unset, .unset] [])) (fun target kt => ?_) ?_
        · show Steps p.tables e below (Tg308.setTop (mkF m 311 #[.val (.int p0), .val (.int p1), .val (.int p2), .val (.int p3), .val (.int v3), .val (.int v9), .val (.int v62), .val (.int v80), .val (.int v84), .val (.ref b88), .val (.int (3 : Int32)), .val (.int (3 : Int32)), .unset, .unset, .unset, .unset, .unset] [(.int (own_b ((((7 : Int32) < v80) ∧ ((a140 (7 : Int32).toNatClampNeg) = v84)) ∨ (¬ ((7 : Int32) < v80) ∧ (((7 : Int32) < (v80 + (3 : Int32))) ∨ ((a140 (7 : Int32).toNatClampNeg) = v84))))))])) target
          refine XS.ifNo Xg308.here hx rfl (hb hby at_311) rfl ((if0 _ _).trans (feq (own_bn0 rfl c311)).1) ?_
          show Steps p.tables e below (Tg308.setTop (mkF m 314 #[.val (.int p0), .val (.int p1), .val (.int p2), .val (.int p3), .val (.int v3), .val (.int v9), .val (.int v62), .val (.int v80), .val (.int v84), .val (.ref b88), .val (.int (3 : Int32)), .val (.int (3 : Int32)), .unset, .unset, .unset, .unset, .unset] [])) target
          refine XS.iconst Xg308.here hx rfl (hb hby at_314) ?_
          show Steps p.tables e below (Tg308.setTop (mkF m 315 #[.val (.int p0), .val (.int p1), .val (.int p2), .val (.int p3), .val (.int v3), .val (.int v9), .val (.int v62), .val (.int v80), .val (.int v84), .val (.ref b88), .val (.int (3 : Int32)), .val (.int (3 : Int32)), .unset, .unset, .unset, .unset, .unset] [(.int (1 : Int32))])) target
          refine XS.goto Xg308.here hx rfl (pc0 := 315) (pc' := 319) rfl (hb hby at_315) (by decide) (by decide) ?_
          show Steps p.tables e below (Tg308.setTop (mkF m 319 #[.val (.int p0), .val (.int p1), .val (.int p2), .val (.int p3), .val (.int v3), .val (.int v9), .val (.int v62), .val (.int v80), .val (.int v84), .val (.ref b88), .val (.int (3 : Int32)), .val (.int (3 : Int32)), .unset, .unset, .unset, .unset, .unset] [(.int (1 : Int32))])) target
          refine XS.istore Xg308.here hx rfl (hb hby at_319) rfl (l' := #[.val (.int p0), .val (.int p1), .val (.int p2), .val (.int p3), .val (.int v3), .val (.int v9), .val (.int v62), .val (.int v80), .val (.int v84), .val (.ref b88), .val (.int (3 : Int32)), .val (.int (3 : Int32)), .val (.int (1 : Int32)), .unset, .unset, .unset, .unset]) rfl ?_
          show Steps p.tables e below (Tg308.setTop (mkF m 321 #[.val (.int p0), .val (.int p1), .val (.int p2), .val (.int p3), .val (.int v3), .val (.int v9), .val (.int v62), .val (.int v80), .val (.int v84), .val (.ref b88), .val (.int (3 : Int32)), .val (.int (3 : Int32)), .val (.int (1 : Int32)), .unset, .unset, .unset, .unset] [])) target
          refine XS.iload Xg308.here hx rfl (hb hby at_321) rfl ?_
          show Steps p.tables e below (Tg308.setTop (mkF m 323 #[.val (.int p0), .val (.int p1), .val (.int p2), .val (.int p3), .val (.int v3), .val (.int v9), .val (.int v62), .val (.int v80), .val (.int v84), .val (.ref b88), .val (.int (3 : Int32)), .val (.int (3 : Int32)), .val (.int (1 : Int32)), .unset, .unset, .unset, .unset] [(.int (1 : Int32))])) target
          refine XS.ifYes Xg308.here hx rfl (pc0 := 323) (pc' := 328) rfl (hb hby at_323) rfl ((if0 _ _).trans (feq (by decide : ¬ ((1 : Int32) = (0 : Int32)))).2) (by decide) (by decide) ?_
          exact kt
        have hin := own_in v80 hat
        have hb0 : a140 (v80).toNatClampNeg = nar .byte (((224 : Int32) ||| (v62 >>> ((12 : Int32) &&& 31))).toInt8.toInt32) := by
          rw [ha140]
          rcases hat with h | h | h | h <;> (rw [h]; simp +decide)
        have hb1 : a140 (v80 + (1 : Int32)).toNatClampNeg = nar .byte (((128 : Int32) ||| ((v62 >>> ((6 : Int32) &&& 31)) &&& (63 : Int32))).toInt8.toInt32) := by
          rw [ha140]
          rcases hat with h | h | h | h <;> (rw [h]; simp +decide)
        have hb2 : a140 (v80 + (2 : Int32)).toNatClampNeg = nar .byte (((128 : Int32) ||| (v62 &&& (63 : Int32))).toInt8.toInt32) := by
          rw [ha140]
          rcases hat with h | h | h | h <;> (rw [h]; simp +decide)
        refine own_st (B := Tg308.setTop (mkF m 332 #[.val (.int p0), .val (.int p1), .val (.int p2), .val (.int p3), .val (.int v3), .val (.int v9), .val (.int v62), .val (.int v80), .val (.int v84), .val (.ref b88), .val (.int (3 : Int32)), .val (.int (3 : Int32)), .val (.int (1 : Int32)), .unset, .unset, .unset, .unset] [(.int v80), (.ref b88)])) (fun target kt => ?_) ?_
        · show Steps p.tables e below (Tg308.setTop (mkF m 328 #[.val (.int p0), .val (.int p1), .val (.int p2), .val (.int p3), .val (.int v3), .val (.int v9), .val (.int v62), .val (.int v80), .val (.int v84), .val (.ref b88), .val (.int (3 : Int32)), .val (.int (3 : Int32)), .val (.int (1 : Int32)), .unset, .unset, .unset, .unset] [])) target
          refine XS.aload Xg308.here hx rfl (hb hby at_328) rfl rfl ?_
          show Steps p.tables e below (Tg308.setTop (mkF m 330 #[.val (.int p0), .val (.int p1), .val (.int p2), .val (.int p3), .val (.int v3), .val (.int v9), .val (.int v62), .val (.int v80), .val (.int v84), .val (.ref b88), .val (.int (3 : Int32)), .val (.int (3 : Int32)), .val (.int (1 : Int32)), .unset, .unset, .unset, .unset] [(.ref b88)])) target
          refine XS.iload Xg308.here hx rfl (hb hby at_330) rfl ?_
          exact kt
        obtain ⟨clg332, Arg332, Szg332, Atg332⟩ := id F_18
        have hing332 : ¬ (v80 < 0 ∨ clg332.slots.size ≤ (v80).toNatClampNeg) := own_inb Szg332 hin.1
        have hatg332 : clg332.slots[(v80).toNatClampNeg]? = some (.int (a140 (v80).toNatClampNeg)) := own_RayB_nth Atg332 Szg332 hing332
        refine own_st (B := Tg308.setTop (mkF m 333 #[.val (.int p0), .val (.int p1), .val (.int p2), .val (.int p3), .val (.int v3), .val (.int v9), .val (.int v62), .val (.int v80), .val (.int v84), .val (.ref b88), .val (.int (3 : Int32)), .val (.int (3 : Int32)), .val (.int (1 : Int32)), .unset, .unset, .unset, .unset] [(.int (a140 (v80).toNatClampNeg))])) (fun target kt => ?_) ?_
        · refine Xg308.baloadBytes hx (j := v80) (v := (.int (a140 (v80).toNatClampNeg))) (by first | exact Arg332.1 | (rw [eg308]; exact Arg332.1)) (State.isArrayOf_alike hZ.alike Arg332.2.1) Arg332.2.2 hing332 hatg332 (g := (mkF m 332 #[.val (.int p0), .val (.int p1), .val (.int p2), .val (.int p3), .val (.int v3), .val (.int v9), .val (.int v62), .val (.int v80), .val (.int v84), .val (.ref b88), .val (.int (3 : Int32)), .val (.int (3 : Int32)), .val (.int (1 : Int32)), .unset, .unset, .unset, .unset] [(.int v80), (.ref b88)])) rfl rfl (hb hby at_332) _ ?_
          exact kt
        obtain ⟨v337, hv337⟩ : ∃ z : Int32, z = ((a140 (v80).toNatClampNeg) &&& (255 : Int32)) := ⟨_, rfl⟩
        refine own_st (B := Tg308.setTop (mkF m 339 #[.val (.int p0), .val (.int p1), .val (.int p2), .val (.int p3), .val (.int v3), .val (.int v9), .val (.int v62), .val (.int v80), .val (.int v84), .val (.ref b88), .val (.int (3 : Int32)), .val (.int (3 : Int32)), .val (.int (1 : Int32)), .val (.int v337), .unset, .unset, .unset] [])) (fun target kt => ?_) ?_
        · show Steps p.tables e below (Tg308.setTop (mkF m 333 #[.val (.int p0), .val (.int p1), .val (.int p2), .val (.int p3), .val (.int v3), .val (.int v9), .val (.int v62), .val (.int v80), .val (.int v84), .val (.ref b88), .val (.int (3 : Int32)), .val (.int (3 : Int32)), .val (.int (1 : Int32)), .unset, .unset, .unset, .unset] [(.int (a140 (v80).toNatClampNeg))])) target
          refine XS.sipush Xg308.here hx rfl (hb hby at_333) ?_
          show Steps p.tables e below (Tg308.setTop (mkF m 336 #[.val (.int p0), .val (.int p1), .val (.int p2), .val (.int p3), .val (.int v3), .val (.int v9), .val (.int v62), .val (.int v80), .val (.int v84), .val (.ref b88), .val (.int (3 : Int32)), .val (.int (3 : Int32)), .val (.int (1 : Int32)), .unset, .unset, .unset, .unset] [(.int (255 : Int32)), (.int (a140 (v80).toNatClampNeg))])) target
          refine XS.iand Xg308.here hx rfl (hb hby at_336) rfl ?_
          show Steps p.tables e below (Tg308.setTop (mkF m 337 #[.val (.int p0), .val (.int p1), .val (.int p2), .val (.int p3), .val (.int v3), .val (.int v9), .val (.int v62), .val (.int v80), .val (.int v84), .val (.ref b88), .val (.int (3 : Int32)), .val (.int (3 : Int32)), .val (.int (1 : Int32)), .unset, .unset, .unset, .unset] [(.int ((a140 (v80).toNatClampNeg) &&& (255 : Int32)))])) target
          refine XS.istore Xg308.here hx rfl (hb hby at_337) rfl (l' := #[.val (.int p0), .val (.int p1), .val (.int p2), .val (.int p3), .val (.int v3), .val (.int v9), .val (.int v62), .val (.int v80), .val (.int v84), .val (.ref b88), .val (.int (3 : Int32)), .val (.int (3 : Int32)), .val (.int (1 : Int32)), .val (.int v337), .unset, .unset, .unset]) (by subst hv337; rfl) ?_
          exact kt
        have hx0 : v337.toInt = 224 + v62.toInt / 4096 := by
          have h1 := own_r12 v62
          have h2 := own_ld16 (v62 >>> ((12 : Int32) &&& 31)) (by omega) (by omega)
          rw [hv337, hb0, own_byte _ (by omega) (by omega)]
          omega
        refine own_st (B := Tg308.setTop (mkF m 364 #[.val (.int p0), .val (.int p1), .val (.int p2), .val (.int p3), .val (.int v3), .val (.int v9), .val (.int v62), .val (.int v80), .val (.int v84), .val (.ref b88), .val (.int (3 : Int32)), .val (.int (3 : Int32)), .val (.int (1 : Int32)), .val (.int v337), .unset, .unset, .unset] [(.int (v80 + (1 : Int32))), (.ref b88)])) (fun target kt => ?_) ?_
        · show Steps p.tables e below (Tg308.setTop (mkF m 339 #[.val (.int p0), .val (.int p1), .val (.int p2), .val (.int p3), .val (.int v3), .val (.int v9), .val (.int v62), .val (.int v80), .val (.int v84), .val (.ref b88), .val (.int (3 : Int32)), .val (.int (3 : Int32)), .val (.int (1 : Int32)), .val (.int v337), .unset, .unset, .unset] [])) target
          refine XS.iload Xg308.here hx rfl (hb hby at_339) rfl ?_
          show Steps p.tables e below (Tg308.setTop (mkF m 341 #[.val (.int p0), .val (.int p1), .val (.int p2), .val (.int p3), .val (.int v3), .val (.int v9), .val (.int v62), .val (.int v80), .val (.int v84), .val (.ref b88), .val (.int (3 : Int32)), .val (.int (3 : Int32)), .val (.int (1 : Int32)), .val (.int v337), .unset, .unset, .unset] [(.int (3 : Int32))])) target
          refine XS.iconst Xg308.here hx rfl (hb hby at_341) ?_
          show Steps p.tables e below (Tg308.setTop (mkF m 342 #[.val (.int p0), .val (.int p1), .val (.int p2), .val (.int p3), .val (.int v3), .val (.int v9), .val (.int v62), .val (.int v80), .val (.int v84), .val (.ref b88), .val (.int (3 : Int32)), .val (.int (3 : Int32)), .val (.int (1 : Int32)), .val (.int v337), .unset, .unset, .unset] [(.int (1 : Int32)), (.int (3 : Int32))])) target
          refine XS.icmpYes Xg308.here hx rfl (pc0 := 342) (pc' := 358) rfl (hb hby at_342) rfl (feq (by decide : ¬ ((3 : Int32) = (1 : Int32)))).2 (by decide) (by decide) ?_
          show Steps p.tables e below (Tg308.setTop (mkF m 358 #[.val (.int p0), .val (.int p1), .val (.int p2), .val (.int p3), .val (.int v3), .val (.int v9), .val (.int v62), .val (.int v80), .val (.int v84), .val (.ref b88), .val (.int (3 : Int32)), .val (.int (3 : Int32)), .val (.int (1 : Int32)), .val (.int v337), .unset, .unset, .unset] [])) target
          refine XS.aload Xg308.here hx rfl (hb hby at_358) rfl rfl ?_
          show Steps p.tables e below (Tg308.setTop (mkF m 360 #[.val (.int p0), .val (.int p1), .val (.int p2), .val (.int p3), .val (.int v3), .val (.int v9), .val (.int v62), .val (.int v80), .val (.int v84), .val (.ref b88), .val (.int (3 : Int32)), .val (.int (3 : Int32)), .val (.int (1 : Int32)), .val (.int v337), .unset, .unset, .unset] [(.ref b88)])) target
          refine XS.iload Xg308.here hx rfl (hb hby at_360) rfl ?_
          show Steps p.tables e below (Tg308.setTop (mkF m 362 #[.val (.int p0), .val (.int p1), .val (.int p2), .val (.int p3), .val (.int v3), .val (.int v9), .val (.int v62), .val (.int v80), .val (.int v84), .val (.ref b88), .val (.int (3 : Int32)), .val (.int (3 : Int32)), .val (.int (1 : Int32)), .val (.int v337), .unset, .unset, .unset] [(.int v80), (.ref b88)])) target
          refine XS.iconst Xg308.here hx rfl (hb hby at_362) ?_
          show Steps p.tables e below (Tg308.setTop (mkF m 363 #[.val (.int p0), .val (.int p1), .val (.int p2), .val (.int p3), .val (.int v3), .val (.int v9), .val (.int v62), .val (.int v80), .val (.int v84), .val (.ref b88), .val (.int (3 : Int32)), .val (.int (3 : Int32)), .val (.int (1 : Int32)), .val (.int v337), .unset, .unset, .unset] [(.int (1 : Int32)), (.int v80), (.ref b88)])) target
          refine XS.iadd Xg308.here hx rfl (hb hby at_363) rfl ?_
          exact kt
        obtain ⟨clg364, Arg364, Szg364, Atg364⟩ := id F_18
        have hing364 : ¬ ((v80 + (1 : Int32)) < 0 ∨ clg364.slots.size ≤ ((v80 + (1 : Int32))).toNatClampNeg) := own_inb Szg364 hin.2.1
        have hatg364 : clg364.slots[((v80 + (1 : Int32))).toNatClampNeg]? = some (.int (a140 ((v80 + (1 : Int32))).toNatClampNeg)) := own_RayB_nth Atg364 Szg364 hing364
        refine own_st (B := Tg308.setTop (mkF m 365 #[.val (.int p0), .val (.int p1), .val (.int p2), .val (.int p3), .val (.int v3), .val (.int v9), .val (.int v62), .val (.int v80), .val (.int v84), .val (.ref b88), .val (.int (3 : Int32)), .val (.int (3 : Int32)), .val (.int (1 : Int32)), .val (.int v337), .unset, .unset, .unset] [(.int (a140 ((v80 + (1 : Int32))).toNatClampNeg))])) (fun target kt => ?_) ?_
        · refine Xg308.baloadBytes hx (j := (v80 + (1 : Int32))) (v := (.int (a140 ((v80 + (1 : Int32))).toNatClampNeg))) (by first | exact Arg364.1 | (rw [eg308]; exact Arg364.1)) (State.isArrayOf_alike hZ.alike Arg364.2.1) Arg364.2.2 hing364 hatg364 (g := (mkF m 364 #[.val (.int p0), .val (.int p1), .val (.int p2), .val (.int p3), .val (.int v3), .val (.int v9), .val (.int v62), .val (.int v80), .val (.int v84), .val (.ref b88), .val (.int (3 : Int32)), .val (.int (3 : Int32)), .val (.int (1 : Int32)), .val (.int v337), .unset, .unset, .unset] [(.int (v80 + (1 : Int32))), (.ref b88)])) rfl rfl (hb hby at_364) _ ?_
          exact kt
        obtain ⟨v369, hv369⟩ : ∃ z : Int32, z = ((a140 ((v80 + (1 : Int32))).toNatClampNeg) &&& (255 : Int32)) := ⟨_, rfl⟩
        refine own_st (B := Tg308.setTop (mkF m 371 #[.val (.int p0), .val (.int p1), .val (.int p2), .val (.int p3), .val (.int v3), .val (.int v9), .val (.int v62), .val (.int v80), .val (.int v84), .val (.ref b88), .val (.int (3 : Int32)), .val (.int (3 : Int32)), .val (.int (1 : Int32)), .val (.int v337), .val (.int v369), .unset, .unset] [])) (fun target kt => ?_) ?_
        · show Steps p.tables e below (Tg308.setTop (mkF m 365 #[.val (.int p0), .val (.int p1), .val (.int p2), .val (.int p3), .val (.int v3), .val (.int v9), .val (.int v62), .val (.int v80), .val (.int v84), .val (.ref b88), .val (.int (3 : Int32)), .val (.int (3 : Int32)), .val (.int (1 : Int32)), .val (.int v337), .unset, .unset, .unset] [(.int (a140 ((v80 + (1 : Int32))).toNatClampNeg))])) target
          refine XS.sipush Xg308.here hx rfl (hb hby at_365) ?_
          show Steps p.tables e below (Tg308.setTop (mkF m 368 #[.val (.int p0), .val (.int p1), .val (.int p2), .val (.int p3), .val (.int v3), .val (.int v9), .val (.int v62), .val (.int v80), .val (.int v84), .val (.ref b88), .val (.int (3 : Int32)), .val (.int (3 : Int32)), .val (.int (1 : Int32)), .val (.int v337), .unset, .unset, .unset] [(.int (255 : Int32)), (.int (a140 ((v80 + (1 : Int32))).toNatClampNeg))])) target
          refine XS.iand Xg308.here hx rfl (hb hby at_368) rfl ?_
          show Steps p.tables e below (Tg308.setTop (mkF m 369 #[.val (.int p0), .val (.int p1), .val (.int p2), .val (.int p3), .val (.int v3), .val (.int v9), .val (.int v62), .val (.int v80), .val (.int v84), .val (.ref b88), .val (.int (3 : Int32)), .val (.int (3 : Int32)), .val (.int (1 : Int32)), .val (.int v337), .unset, .unset, .unset] [(.int ((a140 ((v80 + (1 : Int32))).toNatClampNeg) &&& (255 : Int32)))])) target
          refine XS.istore Xg308.here hx rfl (hb hby at_369) rfl (l' := #[.val (.int p0), .val (.int p1), .val (.int p2), .val (.int p3), .val (.int v3), .val (.int v9), .val (.int v62), .val (.int v80), .val (.int v84), .val (.ref b88), .val (.int (3 : Int32)), .val (.int (3 : Int32)), .val (.int (1 : Int32)), .val (.int v337), .val (.int v369), .unset, .unset]) (by subst hv369; rfl) ?_
          exact kt
        have hx1 : v369.toInt = 128 + (v62.toInt / 64) % 64 := by
          have h1 := own_r6 v62
          have h3 := own_m63 (v62 >>> ((6 : Int32) &&& 31))
          have h2 := own_tr ((v62 >>> ((6 : Int32) &&& 31)) &&& (63 : Int32)) (by omega) (by omega)
          rw [hv369, hb1, own_byte _ (by omega) (by omega)]
          omega
        refine own_st (B := Tg308.setTop (mkF m 428 #[.val (.int p0), .val (.int p1), .val (.int p2), .val (.int p3), .val (.int v3), .val (.int v9), .val (.int v62), .val (.int v80), .val (.int v84), .val (.ref b88), .val (.int (3 : Int32)), .val (.int (3 : Int32)), .val (.int (1 : Int32)), .val (.int v337), .val (.int v369), .unset, .unset] [(.int (v80 + (2 : Int32))), (.ref b88)])) (fun target kt => ?_) ?_
        · show Steps p.tables e below (Tg308.setTop (mkF m 371 #[.val (.int p0), .val (.int p1), .val (.int p2), .val (.int p3), .val (.int v3), .val (.int v9), .val (.int v62), .val (.int v80), .val (.int v84), .val (.ref b88), .val (.int (3 : Int32)), .val (.int (3 : Int32)), .val (.int (1 : Int32)), .val (.int v337), .val (.int v369), .unset, .unset] [])) target
          refine XS.iload Xg308.here hx rfl (hb hby at_371) rfl ?_
          show Steps p.tables e below (Tg308.setTop (mkF m 373 #[.val (.int p0), .val (.int p1), .val (.int p2), .val (.int p3), .val (.int v3), .val (.int v9), .val (.int v62), .val (.int v80), .val (.int v84), .val (.ref b88), .val (.int (3 : Int32)), .val (.int (3 : Int32)), .val (.int (1 : Int32)), .val (.int v337), .val (.int v369), .unset, .unset] [(.int (3 : Int32))])) target
          refine XS.iconst Xg308.here hx rfl (hb hby at_373) ?_
          show Steps p.tables e below (Tg308.setTop (mkF m 374 #[.val (.int p0), .val (.int p1), .val (.int p2), .val (.int p3), .val (.int v3), .val (.int v9), .val (.int v62), .val (.int v80), .val (.int v84), .val (.ref b88), .val (.int (3 : Int32)), .val (.int (3 : Int32)), .val (.int (1 : Int32)), .val (.int v337), .val (.int v369), .unset, .unset] [(.int (2 : Int32)), (.int (3 : Int32))])) target
          refine XS.icmpYes Xg308.here hx rfl (pc0 := 374) (pc' := 422) rfl (hb hby at_374) rfl (feq (by decide : ¬ ((3 : Int32) = (2 : Int32)))).2 (by decide) (by decide) ?_
          show Steps p.tables e below (Tg308.setTop (mkF m 422 #[.val (.int p0), .val (.int p1), .val (.int p2), .val (.int p3), .val (.int v3), .val (.int v9), .val (.int v62), .val (.int v80), .val (.int v84), .val (.ref b88), .val (.int (3 : Int32)), .val (.int (3 : Int32)), .val (.int (1 : Int32)), .val (.int v337), .val (.int v369), .unset, .unset] [])) target
          refine XS.aload Xg308.here hx rfl (hb hby at_422) rfl rfl ?_
          show Steps p.tables e below (Tg308.setTop (mkF m 424 #[.val (.int p0), .val (.int p1), .val (.int p2), .val (.int p3), .val (.int v3), .val (.int v9), .val (.int v62), .val (.int v80), .val (.int v84), .val (.ref b88), .val (.int (3 : Int32)), .val (.int (3 : Int32)), .val (.int (1 : Int32)), .val (.int v337), .val (.int v369), .unset, .unset] [(.ref b88)])) target
          refine XS.iload Xg308.here hx rfl (hb hby at_424) rfl ?_
          show Steps p.tables e below (Tg308.setTop (mkF m 426 #[.val (.int p0), .val (.int p1), .val (.int p2), .val (.int p3), .val (.int v3), .val (.int v9), .val (.int v62), .val (.int v80), .val (.int v84), .val (.ref b88), .val (.int (3 : Int32)), .val (.int (3 : Int32)), .val (.int (1 : Int32)), .val (.int v337), .val (.int v369), .unset, .unset] [(.int v80), (.ref b88)])) target
          refine XS.iconst Xg308.here hx rfl (hb hby at_426) ?_
          show Steps p.tables e below (Tg308.setTop (mkF m 427 #[.val (.int p0), .val (.int p1), .val (.int p2), .val (.int p3), .val (.int v3), .val (.int v9), .val (.int v62), .val (.int v80), .val (.int v84), .val (.ref b88), .val (.int (3 : Int32)), .val (.int (3 : Int32)), .val (.int (1 : Int32)), .val (.int v337), .val (.int v369), .unset, .unset] [(.int (2 : Int32)), (.int v80), (.ref b88)])) target
          refine XS.iadd Xg308.here hx rfl (hb hby at_427) rfl ?_
          exact kt
        obtain ⟨clg428, Arg428, Szg428, Atg428⟩ := id F_18
        have hing428 : ¬ ((v80 + (2 : Int32)) < 0 ∨ clg428.slots.size ≤ ((v80 + (2 : Int32))).toNatClampNeg) := own_inb Szg428 hin.2.2.1
        have hatg428 : clg428.slots[((v80 + (2 : Int32))).toNatClampNeg]? = some (.int (a140 ((v80 + (2 : Int32))).toNatClampNeg)) := own_RayB_nth Atg428 Szg428 hing428
        refine own_st (B := Tg308.setTop (mkF m 429 #[.val (.int p0), .val (.int p1), .val (.int p2), .val (.int p3), .val (.int v3), .val (.int v9), .val (.int v62), .val (.int v80), .val (.int v84), .val (.ref b88), .val (.int (3 : Int32)), .val (.int (3 : Int32)), .val (.int (1 : Int32)), .val (.int v337), .val (.int v369), .unset, .unset] [(.int (a140 ((v80 + (2 : Int32))).toNatClampNeg))])) (fun target kt => ?_) ?_
        · refine Xg308.baloadBytes hx (j := (v80 + (2 : Int32))) (v := (.int (a140 ((v80 + (2 : Int32))).toNatClampNeg))) (by first | exact Arg428.1 | (rw [eg308]; exact Arg428.1)) (State.isArrayOf_alike hZ.alike Arg428.2.1) Arg428.2.2 hing428 hatg428 (g := (mkF m 428 #[.val (.int p0), .val (.int p1), .val (.int p2), .val (.int p3), .val (.int v3), .val (.int v9), .val (.int v62), .val (.int v80), .val (.int v84), .val (.ref b88), .val (.int (3 : Int32)), .val (.int (3 : Int32)), .val (.int (1 : Int32)), .val (.int v337), .val (.int v369), .unset, .unset] [(.int (v80 + (2 : Int32))), (.ref b88)])) rfl rfl (hb hby at_428) _ ?_
          exact kt
        obtain ⟨v433, hv433⟩ : ∃ z : Int32, z = ((a140 ((v80 + (2 : Int32))).toNatClampNeg) &&& (255 : Int32)) := ⟨_, rfl⟩
        refine own_st (B := Tg308.setTop (mkF m 435 #[.val (.int p0), .val (.int p1), .val (.int p2), .val (.int p3), .val (.int v3), .val (.int v9), .val (.int v62), .val (.int v80), .val (.int v84), .val (.ref b88), .val (.int (3 : Int32)), .val (.int (3 : Int32)), .val (.int (1 : Int32)), .val (.int v337), .val (.int v369), .val (.int v433), .unset] [])) (fun target kt => ?_) ?_
        · show Steps p.tables e below (Tg308.setTop (mkF m 429 #[.val (.int p0), .val (.int p1), .val (.int p2), .val (.int p3), .val (.int v3), .val (.int v9), .val (.int v62), .val (.int v80), .val (.int v84), .val (.ref b88), .val (.int (3 : Int32)), .val (.int (3 : Int32)), .val (.int (1 : Int32)), .val (.int v337), .val (.int v369), .unset, .unset] [(.int (a140 ((v80 + (2 : Int32))).toNatClampNeg))])) target
          refine XS.sipush Xg308.here hx rfl (hb hby at_429) ?_
          show Steps p.tables e below (Tg308.setTop (mkF m 432 #[.val (.int p0), .val (.int p1), .val (.int p2), .val (.int p3), .val (.int v3), .val (.int v9), .val (.int v62), .val (.int v80), .val (.int v84), .val (.ref b88), .val (.int (3 : Int32)), .val (.int (3 : Int32)), .val (.int (1 : Int32)), .val (.int v337), .val (.int v369), .unset, .unset] [(.int (255 : Int32)), (.int (a140 ((v80 + (2 : Int32))).toNatClampNeg))])) target
          refine XS.iand Xg308.here hx rfl (hb hby at_432) rfl ?_
          show Steps p.tables e below (Tg308.setTop (mkF m 433 #[.val (.int p0), .val (.int p1), .val (.int p2), .val (.int p3), .val (.int v3), .val (.int v9), .val (.int v62), .val (.int v80), .val (.int v84), .val (.ref b88), .val (.int (3 : Int32)), .val (.int (3 : Int32)), .val (.int (1 : Int32)), .val (.int v337), .val (.int v369), .unset, .unset] [(.int ((a140 ((v80 + (2 : Int32))).toNatClampNeg) &&& (255 : Int32)))])) target
          refine XS.istore Xg308.here hx rfl (hb hby at_433) rfl (l' := #[.val (.int p0), .val (.int p1), .val (.int p2), .val (.int p3), .val (.int v3), .val (.int v9), .val (.int v62), .val (.int v80), .val (.int v84), .val (.ref b88), .val (.int (3 : Int32)), .val (.int (3 : Int32)), .val (.int (1 : Int32)), .val (.int v337), .val (.int v369), .val (.int v433), .unset]) (by subst hv433; rfl) ?_
          exact kt
        have hx2 : v433.toInt = 128 + v62.toInt % 64 := by
          have h3 := own_m63 v62
          have h2 := own_tr (v62 &&& (63 : Int32)) (by omega) (by omega)
          rw [hv433, hb2, own_byte _ (by omega) (by omega)]
          omega
        refine own_st (B := Tg308.setTop (mkF m 450 #[.val (.int p0), .val (.int p1), .val (.int p2), .val (.int p3), .val (.int v3), .val (.int v9), .val (.int v62), .val (.int v80), .val (.int v84), .val (.ref b88), .val (.int (3 : Int32)), .val (.int (3 : Int32)), .val (.int (1 : Int32)), .val (.int v337), .val (.int v369), .val (.int v433), .unset] [(.int (224 : Int32)), (.int (v337 &&& (240 : Int32)))])) (fun target kt => ?_) ?_
        · show Steps p.tables e below (Tg308.setTop (mkF m 435 #[.val (.int p0), .val (.int p1), .val (.int p2), .val (.int p3), .val (.int v3), .val (.int v9), .val (.int v62), .val (.int v80), .val (.int v84), .val (.ref b88), .val (.int (3 : Int32)), .val (.int (3 : Int32)), .val (.int (1 : Int32)), .val (.int v337), .val (.int v369), .val (.int v433), .unset] [])) target
          refine XS.iload Xg308.here hx rfl (hb hby at_435) rfl ?_
          show Steps p.tables e below (Tg308.setTop (mkF m 437 #[.val (.int p0), .val (.int p1), .val (.int p2), .val (.int p3), .val (.int v3), .val (.int v9), .val (.int v62), .val (.int v80), .val (.int v84), .val (.ref b88), .val (.int (3 : Int32)), .val (.int (3 : Int32)), .val (.int (1 : Int32)), .val (.int v337), .val (.int v369), .val (.int v433), .unset] [(.int (3 : Int32))])) target
          refine XS.iconst Xg308.here hx rfl (hb hby at_437) ?_
          show Steps p.tables e below (Tg308.setTop (mkF m 438 #[.val (.int p0), .val (.int p1), .val (.int p2), .val (.int p3), .val (.int v3), .val (.int v9), .val (.int v62), .val (.int v80), .val (.int v84), .val (.ref b88), .val (.int (3 : Int32)), .val (.int (3 : Int32)), .val (.int (1 : Int32)), .val (.int v337), .val (.int v369), .val (.int v433), .unset] [(.int (3 : Int32)), (.int (3 : Int32))])) target
          refine XS.icmpNo Xg308.here hx rfl (hb hby at_438) rfl (teq (by decide : (3 : Int32) = (3 : Int32))).2 ?_
          show Steps p.tables e below (Tg308.setTop (mkF m 441 #[.val (.int p0), .val (.int p1), .val (.int p2), .val (.int p3), .val (.int v3), .val (.int v9), .val (.int v62), .val (.int v80), .val (.int v84), .val (.ref b88), .val (.int (3 : Int32)), .val (.int (3 : Int32)), .val (.int (1 : Int32)), .val (.int v337), .val (.int v369), .val (.int v433), .unset] [])) target
          refine XS.iload Xg308.here hx rfl (hb hby at_441) rfl ?_
          show Steps p.tables e below (Tg308.setTop (mkF m 443 #[.val (.int p0), .val (.int p1), .val (.int p2), .val (.int p3), .val (.int v3), .val (.int v9), .val (.int v62), .val (.int v80), .val (.int v84), .val (.ref b88), .val (.int (3 : Int32)), .val (.int (3 : Int32)), .val (.int (1 : Int32)), .val (.int v337), .val (.int v369), .val (.int v433), .unset] [(.int v337)])) target
          refine XS.sipush Xg308.here hx rfl (hb hby at_443) ?_
          show Steps p.tables e below (Tg308.setTop (mkF m 446 #[.val (.int p0), .val (.int p1), .val (.int p2), .val (.int p3), .val (.int v3), .val (.int v9), .val (.int v62), .val (.int v80), .val (.int v84), .val (.ref b88), .val (.int (3 : Int32)), .val (.int (3 : Int32)), .val (.int (1 : Int32)), .val (.int v337), .val (.int v369), .val (.int v433), .unset] [(.int (240 : Int32)), (.int v337)])) target
          refine XS.iand Xg308.here hx rfl (hb hby at_446) rfl ?_
          show Steps p.tables e below (Tg308.setTop (mkF m 447 #[.val (.int p0), .val (.int p1), .val (.int p2), .val (.int p3), .val (.int v3), .val (.int v9), .val (.int v62), .val (.int v80), .val (.int v84), .val (.ref b88), .val (.int (3 : Int32)), .val (.int (3 : Int32)), .val (.int (1 : Int32)), .val (.int v337), .val (.int v369), .val (.int v433), .unset] [(.int (v337 &&& (240 : Int32)))])) target
          refine XS.sipush Xg308.here hx rfl (hb hby at_447) ?_
          exact kt
        have c450 : (v337 &&& (240 : Int32)) = (224 : Int32) := by
          exact own_a240 _ (by omega) (by omega)
        refine own_st (B := Tg308.setTop (mkF m 455 #[.val (.int p0), .val (.int p1), .val (.int p2), .val (.int p3), .val (.int v3), .val (.int v9), .val (.int v62), .val (.int v80), .val (.int v84), .val (.ref b88), .val (.int (3 : Int32)), .val (.int (3 : Int32)), .val (.int (1 : Int32)), .val (.int v337), .val (.int v369), .val (.int v433), .unset] [(.int v369)])) (fun target kt => ?_) ?_
        · show Steps p.tables e below (Tg308.setTop (mkF m 450 #[.val (.int p0), .val (.int p1), .val (.int p2), .val (.int p3), .val (.int v3), .val (.int v9), .val (.int v62), .val (.int v80), .val (.int v84), .val (.ref b88), .val (.int (3 : Int32)), .val (.int (3 : Int32)), .val (.int (1 : Int32)), .val (.int v337), .val (.int v369), .val (.int v433), .unset] [(.int (224 : Int32)), (.int (v337 &&& (240 : Int32)))])) target
          refine XS.icmpNo Xg308.here hx rfl (hb hby at_450) rfl (teq c450).2 ?_
          show Steps p.tables e below (Tg308.setTop (mkF m 453 #[.val (.int p0), .val (.int p1), .val (.int p2), .val (.int p3), .val (.int v3), .val (.int v9), .val (.int v62), .val (.int v80), .val (.int v84), .val (.ref b88), .val (.int (3 : Int32)), .val (.int (3 : Int32)), .val (.int (1 : Int32)), .val (.int v337), .val (.int v369), .val (.int v433), .unset] [])) target
          refine XS.iload Xg308.here hx rfl (hb hby at_453) rfl ?_
          exact kt
        obtain ⟨_, _, ⟨Tg455, Lg455, kg455, ng455⟩, -, Xg455, ⟨Lcg455, hQg455, lg455, yg455, zg455⟩, stg455⟩ := Jvm.LawKit.callS Xg308 hx (y := (⟨"com/example/psyche/psyche/XmlCharsEncodePinLaw", "cont", "(I)Z"⟩ : MethodName)) hown (mvT hZ (hw _ (List.mem_of_getElem? (i := 13) rfl))) (mvT hZ (hw _ (List.mem_of_getElem? (i := 14) rfl))) (mvT hZ (hw _ (List.mem_of_getElem? (i := 11) rfl))) (mvT hZ (hw _ (List.mem_of_getElem? (i := 15) rfl))) (by decide) (backOf (W := 0) (own_rm3 l Z a0 hw [] v369 Tg140.heap n0 Zz_9) hZ (hw _ (List.mem_of_getElem? (i := 15) rfl)) (hw _ (List.mem_of_getElem? (i := 11) rfl)) (by decide) (by decide)) (g := (mkF m 455 #[.val (.int p0), .val (.int p1), .val (.int p2), .val (.int p3), .val (.int v3), .val (.int v9), .val (.int v62), .val (.int v80), .val (.int v84), .val (.ref b88), .val (.int (3 : Int32)), .val (.int (3 : Int32)), .val (.int (1 : Int32)), .val (.int v337), .val (.int v369), .val (.int v433), .unset] [(.int v369)])) rfl (by rw [hml]; rfl) (argsL := [(.int v369)]) (rest := []) (lenOf own_pd2 rfl) rfl (by show 2 * 0 + _ ≤ _; exact Nat.le_of_eq rfl) (hb hby at_455) (fun _ _ => ⟨rfl, eg308, (by decide : 1 + 0 ≤ _), (by decide : 8 + 0 ≤ _)⟩)
        dsimp only [Pt.U, Pt.locs, Pt.cells, Pt.slots] at Xg455 lg455 yg455 zg455 stg455 hQg455
        subst lg455 yg455 zg455
        obtain ⟨rfl, Ng455q, eg455⟩ := hQg455
        have Ng455 := Fr.app Ng308 Ng455q
        refine own_st (stg455) ?_
        have c458 : (v369 &&& (192 : Int32)) = (128 : Int32) := by
          exact own_a192 _ (by omega) (by omega)
        refine own_st (B := Tg455.setTop (mkF m 463 #[.val (.int p0), .val (.int p1), .val (.int p2), .val (.int p3), .val (.int v3), .val (.int v9), .val (.int v62), .val (.int v80), .val (.int v84), .val (.ref b88), .val (.int (3 : Int32)), .val (.int (3 : Int32)), .val (.int (1 : Int32)), .val (.int v337), .val (.int v369), .val (.int v433), .unset] [(.int v433)])) (fun target kt => ?_) ?_
        · show Steps p.tables e below (Tg455.setTop (mkF m 458 #[.val (.int p0), .val (.int p1), .val (.int p2), .val (.int p3), .val (.int v3), .val (.int v9), .val (.int v62), .val (.int v80), .val (.int v84), .val (.ref b88), .val (.int (3 : Int32)), .val (.int (3 : Int32)), .val (.int (1 : Int32)), .val (.int v337), .val (.int v369), .val (.int v433), .unset] [(.int (own_b ((v369 &&& (192 : Int32)) = (128 : Int32))))])) target
          refine XS.ifNo Xg455.here hx rfl (hb hby at_458) rfl ((if0 _ _).trans (feq (own_bn0 rfl c458)).1) ?_
          show Steps p.tables e below (Tg455.setTop (mkF m 461 #[.val (.int p0), .val (.int p1), .val (.int p2), .val (.int p3), .val (.int v3), .val (.int v9), .val (.int v62), .val (.int v80), .val (.int v84), .val (.ref b88), .val (.int (3 : Int32)), .val (.int (3 : Int32)), .val (.int (1 : Int32)), .val (.int v337), .val (.int v369), .val (.int v433), .unset] [])) target
          refine XS.iload Xg455.here hx rfl (hb hby at_461) rfl ?_
          exact kt
        obtain ⟨_, _, ⟨Tg463, Lg463, kg463, ng463⟩, -, Xg463, ⟨Lcg463, hQg463, lg463, yg463, zg463⟩, stg463⟩ := Jvm.LawKit.callS Xg455 hx (y := (⟨"com/example/psyche/psyche/XmlCharsEncodePinLaw", "cont", "(I)Z"⟩ : MethodName)) hown (mvT hZ (hw _ (List.mem_of_getElem? (i := 13) rfl))) (mvT hZ (hw _ (List.mem_of_getElem? (i := 14) rfl))) (mvT hZ (hw _ (List.mem_of_getElem? (i := 11) rfl))) (mvT hZ (hw _ (List.mem_of_getElem? (i := 15) rfl))) (by decide) (backOf (W := 0) (own_rm3 l Z a0 hw [] v433 Tg140.heap n0 Zz_9) hZ (hw _ (List.mem_of_getElem? (i := 15) rfl)) (hw _ (List.mem_of_getElem? (i := 11) rfl)) (by decide) (by decide)) (g := (mkF m 463 #[.val (.int p0), .val (.int p1), .val (.int p2), .val (.int p3), .val (.int v3), .val (.int v9), .val (.int v62), .val (.int v80), .val (.int v84), .val (.ref b88), .val (.int (3 : Int32)), .val (.int (3 : Int32)), .val (.int (1 : Int32)), .val (.int v337), .val (.int v369), .val (.int v433), .unset] [(.int v433)])) rfl (by rw [hml]; rfl) (argsL := [(.int v433)]) (rest := []) (lenOf own_pd2 rfl) rfl (by show 2 * 0 + _ ≤ _; exact Nat.le_of_eq rfl) (hb hby at_463) (fun _ _ => ⟨rfl, eg455, (by decide : 1 + 0 ≤ _), (by decide : 8 + 0 ≤ _)⟩)
        dsimp only [Pt.U, Pt.locs, Pt.cells, Pt.slots] at Xg463 lg463 yg463 zg463 stg463 hQg463
        subst lg463 yg463 zg463
        obtain ⟨rfl, Ng463q, eg463⟩ := hQg463
        have Ng463 := Fr.app Ng455 Ng463q
        refine own_st (stg463) ?_
        have c466 : (v433 &&& (192 : Int32)) = (128 : Int32) := by
          exact own_a192 _ (by omega) (by omega)
        refine own_st (B := Tg463.setTop (mkF m 494 #[.val (.int p0), .val (.int p1), .val (.int p2), .val (.int p3), .val (.int v3), .val (.int v9), .val (.int v62), .val (.int v80), .val (.int v84), .val (.ref b88), .val (.int (3 : Int32)), .val (.int (3 : Int32)), .val (.int (1 : Int32)), .val (.int v337), .val (.int v369), .val (.int v433), .unset] [(.int v62), (.int ((((v337 &&& (15 : Int32)) <<< ((12 : Int32) &&& 31)) ||| ((v369 &&& (63 : Int32)) <<< ((6 : Int32) &&& 31))) ||| (v433 &&& (63 : Int32))))])) (fun target kt => ?_) ?_
        · show Steps p.tables e below (Tg463.setTop (mkF m 466 #[.val (.int p0), .val (.int p1), .val (.int p2), .val (.int p3), .val (.int v3), .val (.int v9), .val (.int v62), .val (.int v80), .val (.int v84), .val (.ref b88), .val (.int (3 : Int32)), .val (.int (3 : Int32)), .val (.int (1 : Int32)), .val (.int v337), .val (.int v369), .val (.int v433), .unset] [(.int (own_b ((v433 &&& (192 : Int32)) = (128 : Int32))))])) target
          refine XS.ifNo Xg463.here hx rfl (hb hby at_466) rfl ((if0 _ _).trans (feq (own_bn0 rfl c466)).1) ?_
          show Steps p.tables e below (Tg463.setTop (mkF m 469 #[.val (.int p0), .val (.int p1), .val (.int p2), .val (.int p3), .val (.int v3), .val (.int v9), .val (.int v62), .val (.int v80), .val (.int v84), .val (.ref b88), .val (.int (3 : Int32)), .val (.int (3 : Int32)), .val (.int (1 : Int32)), .val (.int v337), .val (.int v369), .val (.int v433), .unset] [])) target
          refine XS.iload Xg463.here hx rfl (hb hby at_469) rfl ?_
          show Steps p.tables e below (Tg463.setTop (mkF m 471 #[.val (.int p0), .val (.int p1), .val (.int p2), .val (.int p3), .val (.int v3), .val (.int v9), .val (.int v62), .val (.int v80), .val (.int v84), .val (.ref b88), .val (.int (3 : Int32)), .val (.int (3 : Int32)), .val (.int (1 : Int32)), .val (.int v337), .val (.int v369), .val (.int v433), .unset] [(.int v337)])) target
          refine XS.bipush Xg463.here hx rfl (hb hby at_471) ?_
          show Steps p.tables e below (Tg463.setTop (mkF m 473 #[.val (.int p0), .val (.int p1), .val (.int p2), .val (.int p3), .val (.int v3), .val (.int v9), .val (.int v62), .val (.int v80), .val (.int v84), .val (.ref b88), .val (.int (3 : Int32)), .val (.int (3 : Int32)), .val (.int (1 : Int32)), .val (.int v337), .val (.int v369), .val (.int v433), .unset] [(.int (15 : Int32)), (.int v337)])) target
          refine XS.iand Xg463.here hx rfl (hb hby at_473) rfl ?_
          show Steps p.tables e below (Tg463.setTop (mkF m 474 #[.val (.int p0), .val (.int p1), .val (.int p2), .val (.int p3), .val (.int v3), .val (.int v9), .val (.int v62), .val (.int v80), .val (.int v84), .val (.ref b88), .val (.int (3 : Int32)), .val (.int (3 : Int32)), .val (.int (1 : Int32)), .val (.int v337), .val (.int v369), .val (.int v433), .unset] [(.int (v337 &&& (15 : Int32)))])) target
          refine XS.bipush Xg463.here hx rfl (hb hby at_474) ?_
          show Steps p.tables e below (Tg463.setTop (mkF m 476 #[.val (.int p0), .val (.int p1), .val (.int p2), .val (.int p3), .val (.int v3), .val (.int v9), .val (.int v62), .val (.int v80), .val (.int v84), .val (.ref b88), .val (.int (3 : Int32)), .val (.int (3 : Int32)), .val (.int (1 : Int32)), .val (.int v337), .val (.int v369), .val (.int v433), .unset] [(.int (12 : Int32)), (.int (v337 &&& (15 : Int32)))])) target
          refine XS.ishl Xg463.here hx rfl (hb hby at_476) rfl ?_
          show Steps p.tables e below (Tg463.setTop (mkF m 477 #[.val (.int p0), .val (.int p1), .val (.int p2), .val (.int p3), .val (.int v3), .val (.int v9), .val (.int v62), .val (.int v80), .val (.int v84), .val (.ref b88), .val (.int (3 : Int32)), .val (.int (3 : Int32)), .val (.int (1 : Int32)), .val (.int v337), .val (.int v369), .val (.int v433), .unset] [(.int ((v337 &&& (15 : Int32)) <<< ((12 : Int32) &&& 31)))])) target
          refine XS.iload Xg463.here hx rfl (hb hby at_477) rfl ?_
          show Steps p.tables e below (Tg463.setTop (mkF m 479 #[.val (.int p0), .val (.int p1), .val (.int p2), .val (.int p3), .val (.int v3), .val (.int v9), .val (.int v62), .val (.int v80), .val (.int v84), .val (.ref b88), .val (.int (3 : Int32)), .val (.int (3 : Int32)), .val (.int (1 : Int32)), .val (.int v337), .val (.int v369), .val (.int v433), .unset] [(.int v369), (.int ((v337 &&& (15 : Int32)) <<< ((12 : Int32) &&& 31)))])) target
          refine XS.bipush Xg463.here hx rfl (hb hby at_479) ?_
          show Steps p.tables e below (Tg463.setTop (mkF m 481 #[.val (.int p0), .val (.int p1), .val (.int p2), .val (.int p3), .val (.int v3), .val (.int v9), .val (.int v62), .val (.int v80), .val (.int v84), .val (.ref b88), .val (.int (3 : Int32)), .val (.int (3 : Int32)), .val (.int (1 : Int32)), .val (.int v337), .val (.int v369), .val (.int v433), .unset] [(.int (63 : Int32)), (.int v369), (.int ((v337 &&& (15 : Int32)) <<< ((12 : Int32) &&& 31)))])) target
          refine XS.iand Xg463.here hx rfl (hb hby at_481) rfl ?_
          show Steps p.tables e below (Tg463.setTop (mkF m 482 #[.val (.int p0), .val (.int p1), .val (.int p2), .val (.int p3), .val (.int v3), .val (.int v9), .val (.int v62), .val (.int v80), .val (.int v84), .val (.ref b88), .val (.int (3 : Int32)), .val (.int (3 : Int32)), .val (.int (1 : Int32)), .val (.int v337), .val (.int v369), .val (.int v433), .unset] [(.int (v369 &&& (63 : Int32))), (.int ((v337 &&& (15 : Int32)) <<< ((12 : Int32) &&& 31)))])) target
          refine XS.bipush Xg463.here hx rfl (hb hby at_482) ?_
          show Steps p.tables e below (Tg463.setTop (mkF m 484 #[.val (.int p0), .val (.int p1), .val (.int p2), .val (.int p3), .val (.int v3), .val (.int v9), .val (.int v62), .val (.int v80), .val (.int v84), .val (.ref b88), .val (.int (3 : Int32)), .val (.int (3 : Int32)), .val (.int (1 : Int32)), .val (.int v337), .val (.int v369), .val (.int v433), .unset] [(.int (6 : Int32)), (.int (v369 &&& (63 : Int32))), (.int ((v337 &&& (15 : Int32)) <<< ((12 : Int32) &&& 31)))])) target
          refine XS.ishl Xg463.here hx rfl (hb hby at_484) rfl ?_
          show Steps p.tables e below (Tg463.setTop (mkF m 485 #[.val (.int p0), .val (.int p1), .val (.int p2), .val (.int p3), .val (.int v3), .val (.int v9), .val (.int v62), .val (.int v80), .val (.int v84), .val (.ref b88), .val (.int (3 : Int32)), .val (.int (3 : Int32)), .val (.int (1 : Int32)), .val (.int v337), .val (.int v369), .val (.int v433), .unset] [(.int ((v369 &&& (63 : Int32)) <<< ((6 : Int32) &&& 31))), (.int ((v337 &&& (15 : Int32)) <<< ((12 : Int32) &&& 31)))])) target
          refine XS.ior Xg463.here hx rfl (hb hby at_485) rfl ?_
          show Steps p.tables e below (Tg463.setTop (mkF m 486 #[.val (.int p0), .val (.int p1), .val (.int p2), .val (.int p3), .val (.int v3), .val (.int v9), .val (.int v62), .val (.int v80), .val (.int v84), .val (.ref b88), .val (.int (3 : Int32)), .val (.int (3 : Int32)), .val (.int (1 : Int32)), .val (.int v337), .val (.int v369), .val (.int v433), .unset] [(.int (((v337 &&& (15 : Int32)) <<< ((12 : Int32) &&& 31)) ||| ((v369 &&& (63 : Int32)) <<< ((6 : Int32) &&& 31))))])) target
          refine XS.iload Xg463.here hx rfl (hb hby at_486) rfl ?_
          show Steps p.tables e below (Tg463.setTop (mkF m 488 #[.val (.int p0), .val (.int p1), .val (.int p2), .val (.int p3), .val (.int v3), .val (.int v9), .val (.int v62), .val (.int v80), .val (.int v84), .val (.ref b88), .val (.int (3 : Int32)), .val (.int (3 : Int32)), .val (.int (1 : Int32)), .val (.int v337), .val (.int v369), .val (.int v433), .unset] [(.int v433), (.int (((v337 &&& (15 : Int32)) <<< ((12 : Int32) &&& 31)) ||| ((v369 &&& (63 : Int32)) <<< ((6 : Int32) &&& 31))))])) target
          refine XS.bipush Xg463.here hx rfl (hb hby at_488) ?_
          show Steps p.tables e below (Tg463.setTop (mkF m 490 #[.val (.int p0), .val (.int p1), .val (.int p2), .val (.int p3), .val (.int v3), .val (.int v9), .val (.int v62), .val (.int v80), .val (.int v84), .val (.ref b88), .val (.int (3 : Int32)), .val (.int (3 : Int32)), .val (.int (1 : Int32)), .val (.int v337), .val (.int v369), .val (.int v433), .unset] [(.int (63 : Int32)), (.int v433), (.int (((v337 &&& (15 : Int32)) <<< ((12 : Int32) &&& 31)) ||| ((v369 &&& (63 : Int32)) <<< ((6 : Int32) &&& 31))))])) target
          refine XS.iand Xg463.here hx rfl (hb hby at_490) rfl ?_
          show Steps p.tables e below (Tg463.setTop (mkF m 491 #[.val (.int p0), .val (.int p1), .val (.int p2), .val (.int p3), .val (.int v3), .val (.int v9), .val (.int v62), .val (.int v80), .val (.int v84), .val (.ref b88), .val (.int (3 : Int32)), .val (.int (3 : Int32)), .val (.int (1 : Int32)), .val (.int v337), .val (.int v369), .val (.int v433), .unset] [(.int (v433 &&& (63 : Int32))), (.int (((v337 &&& (15 : Int32)) <<< ((12 : Int32) &&& 31)) ||| ((v369 &&& (63 : Int32)) <<< ((6 : Int32) &&& 31))))])) target
          refine XS.ior Xg463.here hx rfl (hb hby at_491) rfl ?_
          show Steps p.tables e below (Tg463.setTop (mkF m 492 #[.val (.int p0), .val (.int p1), .val (.int p2), .val (.int p3), .val (.int v3), .val (.int v9), .val (.int v62), .val (.int v80), .val (.int v84), .val (.ref b88), .val (.int (3 : Int32)), .val (.int (3 : Int32)), .val (.int (1 : Int32)), .val (.int v337), .val (.int v369), .val (.int v433), .unset] [(.int ((((v337 &&& (15 : Int32)) <<< ((12 : Int32) &&& 31)) ||| ((v369 &&& (63 : Int32)) <<< ((6 : Int32) &&& 31))) ||| (v433 &&& (63 : Int32))))])) target
          refine XS.iload Xg463.here hx rfl (hb hby at_492) rfl ?_
          exact kt
        have c494 : ((((v337 &&& (15 : Int32)) <<< ((12 : Int32) &&& 31)) ||| ((v369 &&& (63 : Int32)) <<< ((6 : Int32) &&& 31))) ||| (v433 &&& (63 : Int32))) = v62 := by
          exact own_j3 v62 _ _ _ (by omega) (by omega) hx0 hx1 hx2
        refine own_st (B := Tg463.setTop (mkF m 502 #[.val (.int p0), .val (.int p1), .val (.int p2), .val (.int p3), .val (.int v3), .val (.int v9), .val (.int v62), .val (.int v80), .val (.int v84), .val (.ref b88), .val (.int (3 : Int32)), .val (.int (3 : Int32)), .val (.int (1 : Int32)), .val (.int v337), .val (.int v369), .val (.int v433), .unset] [(.int (1 : Int32))])) (fun target kt => ?_) ?_
        · show Steps p.tables e below (Tg463.setTop (mkF m 494 #[.val (.int p0), .val (.int p1), .val (.int p2), .val (.int p3), .val (.int v3), .val (.int v9), .val (.int v62), .val (.int v80), .val (.int v84), .val (.ref b88), .val (.int (3 : Int32)), .val (.int (3 : Int32)), .val (.int (1 : Int32)), .val (.int v337), .val (.int v369), .val (.int v433), .unset] [(.int v62), (.int ((((v337 &&& (15 : Int32)) <<< ((12 : Int32) &&& 31)) ||| ((v369 &&& (63 : Int32)) <<< ((6 : Int32) &&& 31))) ||| (v433 &&& (63 : Int32))))])) target
          refine XS.icmpNo Xg463.here hx rfl (hb hby at_494) rfl (teq c494).2 ?_
          show Steps p.tables e below (Tg463.setTop (mkF m 497 #[.val (.int p0), .val (.int p1), .val (.int p2), .val (.int p3), .val (.int v3), .val (.int v9), .val (.int v62), .val (.int v80), .val (.int v84), .val (.ref b88), .val (.int (3 : Int32)), .val (.int (3 : Int32)), .val (.int (1 : Int32)), .val (.int v337), .val (.int v369), .val (.int v433), .unset] [])) target
          refine XS.iconst Xg463.here hx rfl (hb hby at_497) ?_
          show Steps p.tables e below (Tg463.setTop (mkF m 498 #[.val (.int p0), .val (.int p1), .val (.int p2), .val (.int p3), .val (.int v3), .val (.int v9), .val (.int v62), .val (.int v80), .val (.int v84), .val (.ref b88), .val (.int (3 : Int32)), .val (.int (3 : Int32)), .val (.int (1 : Int32)), .val (.int v337), .val (.int v369), .val (.int v433), .unset] [(.int (1 : Int32))])) target
          refine XS.goto Xg463.here hx rfl (pc0 := 498) (pc' := 502) rfl (hb hby at_498) (by decide) (by decide) ?_
          exact kt
        obtain ⟨fs, hr, hrun, hended, hW, hsame⟩ := Xg463.leave (v := some (.int (1 : Int32))) (fun h => by rw [Bd.returns] at h; cases h)
        have hend : Steps p.tables e below (Tg463.setTop (mkF m 502 #[.val (.int p0), .val (.int p1), .val (.int p2), .val (.int p3), .val (.int v3), .val (.int v9), .val (.int v62), .val (.int v80), .val (.int v84), .val (.ref b88), .val (.int (3 : Int32)), .val (.int (3 : Int32)), .val (.int (1 : Int32)), .val (.int v337), .val (.int v369), .val (.int v433), .unset] [(.int (1 : Int32))])) (Tg463.setFrames fs) := by
          exact retN Xg463 hx (t := .boolean) Bd.returns (by simp) (hb hby at_502) hr
        refine own_fin hend ⟨_, hrun, hended, _, _, rfl, ?_, ⟨_, rfl⟩, hW, hsame.mono (by decide) (by decide)⟩
        show own_Q0 Z p0 p1 p2 p3 h0 n0 _ Tg463.heap _
        rw [eg463]
        exact ⟨rfl, Ng463⟩
      · obtain ⟨v75, hv75⟩ : ∃ z : Int32, z = ((65536 : Int32) + (v9 % (1048576 : Int32))) := ⟨_, rfl⟩
        refine own_st (B := s₁.setTop (mkF m 77 #[.val (.int p0), .val (.int p1), .val (.int p2), .val (.int p3), .val (.int v3), .val (.int v9), .val (.int v75), .unset, .unset, .unset, .unset, .unset, .unset, .unset, .unset, .unset, .unset] [])) (fun target kt => ?_) ?_
        · show Steps p.tables e below (s₁.setTop (mkF m 50 #[.val (.int p0), .val (.int p1), .val (.int p2), .val (.int p3), .val (.int v3), .val (.int v9), .unset, .unset, .unset, .unset, .unset, .unset, .unset, .unset, .unset, .unset, .unset] [(.int (2 : Int32)), (.int v3)])) target
          refine XS.icmpYes X0.here hx rfl (pc0 := 50) (pc' := 67) rfl (hb hby at_50) rfl (feq c50).2 (by decide) (by decide) ?_
          show Steps p.tables e below (s₁.setTop (mkF m 67 #[.val (.int p0), .val (.int p1), .val (.int p2), .val (.int p3), .val (.int v3), .val (.int v9), .unset, .unset, .unset, .unset, .unset, .unset, .unset, .unset, .unset, .unset, .unset] [])) target
          refine X0.ldcInt hx hown (mvT hZ (hw _ (List.mem_of_getElem? (i := 1) rfl))) (g := (mkF m 67 #[.val (.int p0), .val (.int p1), .val (.int p2), .val (.int p3), .val (.int v3), .val (.int v9), .unset, .unset, .unset, .unset, .unset, .unset, .unset, .unset, .unset, .unset, .unset] [])) rfl (hb hby at_67) _ ?_
          show Steps p.tables e below (s₁.setTop (mkF m 69 #[.val (.int p0), .val (.int p1), .val (.int p2), .val (.int p3), .val (.int v3), .val (.int v9), .unset, .unset, .unset, .unset, .unset, .unset, .unset, .unset, .unset, .unset, .unset] [(.int (65536 : Int32))])) target
          refine XS.iload X0.here hx rfl (hb hby at_69) rfl ?_
          show Steps p.tables e below (s₁.setTop (mkF m 71 #[.val (.int p0), .val (.int p1), .val (.int p2), .val (.int p3), .val (.int v3), .val (.int v9), .unset, .unset, .unset, .unset, .unset, .unset, .unset, .unset, .unset, .unset, .unset] [(.int v9), (.int (65536 : Int32))])) target
          refine X0.ldcInt hx hown (mvT hZ (hw _ (List.mem_of_getElem? (i := 2) rfl))) (g := (mkF m 71 #[.val (.int p0), .val (.int p1), .val (.int p2), .val (.int p3), .val (.int v3), .val (.int v9), .unset, .unset, .unset, .unset, .unset, .unset, .unset, .unset, .unset, .unset, .unset] [(.int v9), (.int (65536 : Int32))])) rfl (hb hby at_71) _ ?_
          show Steps p.tables e below (s₁.setTop (mkF m 73 #[.val (.int p0), .val (.int p1), .val (.int p2), .val (.int p3), .val (.int v3), .val (.int v9), .unset, .unset, .unset, .unset, .unset, .unset, .unset, .unset, .unset, .unset, .unset] [(.int (1048576 : Int32)), (.int v9), (.int (65536 : Int32))])) target
          refine iremM X0 hx rfl (hb hby at_73) rfl (by decide) ?_
          show Steps p.tables e below (s₁.setTop (mkF m 74 #[.val (.int p0), .val (.int p1), .val (.int p2), .val (.int p3), .val (.int v3), .val (.int v9), .unset, .unset, .unset, .unset, .unset, .unset, .unset, .unset, .unset, .unset, .unset] [(.int (v9 % (1048576 : Int32))), (.int (65536 : Int32))])) target
          refine XS.iadd X0.here hx rfl (hb hby at_74) rfl ?_
          show Steps p.tables e below (s₁.setTop (mkF m 75 #[.val (.int p0), .val (.int p1), .val (.int p2), .val (.int p3), .val (.int v3), .val (.int v9), .unset, .unset, .unset, .unset, .unset, .unset, .unset, .unset, .unset, .unset, .unset] [(.int ((65536 : Int32) + (v9 % (1048576 : Int32))))])) target
          refine XS.istore X0.here hx rfl (hb hby at_75) rfl (l' := #[.val (.int p0), .val (.int p1), .val (.int p2), .val (.int p3), .val (.int v3), .val (.int v9), .val (.int v75), .unset, .unset, .unset, .unset, .unset, .unset, .unset, .unset, .unset, .unset]) (by subst hv75; rfl) ?_
          exact kt
        have hC : 65536 ≤ v75.toInt ∧ v75.toInt < 1114112 := by
          exact own_cN v9 _ _ _ 65536 1048576 (by rw [hv9]; exact own_pos p0) (by decide) (by decide) (by decide) (by decide) (by decide) hv75
        have hR1 : ¬ (v75 < (128 : Int32)) := by rw [Int32.lt_iff_toInt_lt, show (128 : Int32).toInt = 128 by decide]; omega
        have hR2 : ¬ (v75 < (2048 : Int32)) := by rw [Int32.lt_iff_toInt_lt, show (2048 : Int32).toInt = 2048 by decide]; omega
        have hR3 : ¬ (v75 < (65536 : Int32)) := by rw [Int32.lt_iff_toInt_lt, show (65536 : Int32).toInt = 65536 by decide]; omega
        obtain ⟨v80, hv80⟩ : ∃ z : Int32, z = (p2 &&& (3 : Int32)) := ⟨_, rfl⟩
        obtain ⟨v84, hv84⟩ : ∃ z : Int32, z = (p3.toInt8.toInt32) := ⟨_, rfl⟩
        refine own_st (B := s₁.setTop (mkF m 88 #[.val (.int p0), .val (.int p1), .val (.int p2), .val (.int p3), .val (.int v3), .val (.int v9), .val (.int v75), .val (.int v80), .val (.int v84), .unset, .unset, .unset, .unset, .unset, .unset, .unset, .unset] [(.int (8 : Int32))])) (fun target kt => ?_) ?_
        · show Steps p.tables e below (s₁.setTop (mkF m 77 #[.val (.int p0), .val (.int p1), .val (.int p2), .val (.int p3), .val (.int v3), .val (.int v9), .val (.int v75), .unset, .unset, .unset, .unset, .unset, .unset, .unset, .unset, .unset, .unset] [])) target
          refine XS.iloadN X0.here hx rfl (hb hby at_77) rfl ?_
          show Steps p.tables e below (s₁.setTop (mkF m 78 #[.val (.int p0), .val (.int p1), .val (.int p2), .val (.int p3), .val (.int v3), .val (.int v9), .val (.int v75), .unset, .unset, .unset, .unset, .unset, .unset, .unset, .unset, .unset, .unset] [(.int p2)])) target
          refine XS.iconst X0.here hx rfl (hb hby at_78) ?_
          show Steps p.tables e below (s₁.setTop (mkF m 79 #[.val (.int p0), .val (.int p1), .val (.int p2), .val (.int p3), .val (.int v3), .val (.int v9), .val (.int v75), .unset, .unset, .unset, .unset, .unset, .unset, .unset, .unset, .unset, .unset] [(.int (3 : Int32)), (.int p2)])) target
          refine XS.iand X0.here hx rfl (hb hby at_79) rfl ?_
          show Steps p.tables e below (s₁.setTop (mkF m 80 #[.val (.int p0), .val (.int p1), .val (.int p2), .val (.int p3), .val (.int v3), .val (.int v9), .val (.int v75), .unset, .unset, .unset, .unset, .unset, .unset, .unset, .unset, .unset, .unset] [(.int (p2 &&& (3 : Int32)))])) target
          refine XS.istore X0.here hx rfl (hb hby at_80) rfl (l' := #[.val (.int p0), .val (.int p1), .val (.int p2), .val (.int p3), .val (.int v3), .val (.int v9), .val (.int v75), .val (.int v80), .unset, .unset, .unset, .unset, .unset, .unset, .unset, .unset, .unset]) (by subst hv80; rfl) ?_
          show Steps p.tables e below (s₁.setTop (mkF m 82 #[.val (.int p0), .val (.int p1), .val (.int p2), .val (.int p3), .val (.int v3), .val (.int v9), .val (.int v75), .val (.int v80), .unset, .unset, .unset, .unset, .unset, .unset, .unset, .unset, .unset] [])) target
          refine XS.iloadN X0.here hx rfl (hb hby at_82) rfl ?_
          show Steps p.tables e below (s₁.setTop (mkF m 83 #[.val (.int p0), .val (.int p1), .val (.int p2), .val (.int p3), .val (.int v3), .val (.int v9), .val (.int v75), .val (.int v80), .unset, .unset, .unset, .unset, .unset, .unset, .unset, .unset, .unset] [(.int p3)])) target
          refine XS.i2b X0.here hx rfl (hb hby at_83) rfl ?_
          show Steps p.tables e below (s₁.setTop (mkF m 84 #[.val (.int p0), .val (.int p1), .val (.int p2), .val (.int p3), .val (.int v3), .val (.int v9), .val (.int v75), .val (.int v80), .unset, .unset, .unset, .unset, .unset, .unset, .unset, .unset, .unset] [(.int (p3.toInt8.toInt32))])) target
          refine XS.istore X0.here hx rfl (hb hby at_84) rfl (l' := #[.val (.int p0), .val (.int p1), .val (.int p2), .val (.int p3), .val (.int v3), .val (.int v9), .val (.int v75), .val (.int v80), .val (.int v84), .unset, .unset, .unset, .unset, .unset, .unset, .unset, .unset]) (by subst hv84; rfl) ?_
          show Steps p.tables e below (s₁.setTop (mkF m 86 #[.val (.int p0), .val (.int p1), .val (.int p2), .val (.int p3), .val (.int v3), .val (.int v9), .val (.int v75), .val (.int v80), .val (.int v84), .unset, .unset, .unset, .unset, .unset, .unset, .unset, .unset] [])) target
          refine XS.bipush X0.here hx rfl (hb hby at_86) ?_
          exact kt
        obtain ⟨Tg88, hg88, kg88, Xg88, eg88, Eg88, Ag88, stg88⟩ := newP X0 hx hZ (hw _ (List.mem_of_getElem? (i := 3) rfl)) e0 (g := (mkF m 88 #[.val (.int p0), .val (.int p1), .val (.int p2), .val (.int p3), .val (.int v3), .val (.int v9), .val (.int v75), .val (.int v80), .val (.int v84), .unset, .unset, .unset, .unset, .unset, .unset, .unset, .unset] [(.int (8 : Int32))])) rfl (hb hby at_88) rfl (by decide) (cap := 8) (by decide) (by decide) (by decide) (by decide)
        obtain ⟨b88, gg88⟩ : ∃ z, z = h0.size := ⟨_, rfl⟩
        rw [← gg88] at Ag88 stg88
        refine own_st stg88 ?_
        have g_b88 : n0 ≤ b88 := Nat.le_trans Z0 (Nat.le_of_eq gg88.symm)
        have Zz : n0 ≤ hg88.size := Nat.le_trans Z0 Eg88.1
        have F : own_RayB Z hg88 b88 8 (fun _ => (0 : Int32)) := own_RayB_new Ag88 (by decide) (by decide)
        refine own_st (B := Tg88.setTop (mkF m 94 #[.val (.int p0), .val (.int p1), .val (.int p2), .val (.int p3), .val (.int v3), .val (.int v9), .val (.int v75), .val (.int v80), .val (.int v84), .unset, .unset, .unset, .unset, .unset, .unset, .unset, .unset] [(.int v84), (.int (0 : Int32)), (.ref b88), (.ref b88)])) (fun target kt => ?_) ?_
        · show Steps p.tables e below (Tg88.setTop (mkF m 90 #[.val (.int p0), .val (.int p1), .val (.int p2), .val (.int p3), .val (.int v3), .val (.int v9), .val (.int v75), .val (.int v80), .val (.int v84), .unset, .unset, .unset, .unset, .unset, .unset, .unset, .unset] [(.ref b88)])) target
          refine XS.dup Xg88.here hx rfl (hb hby at_90) rfl rfl ?_
          show Steps p.tables e below (Tg88.setTop (mkF m 91 #[.val (.int p0), .val (.int p1), .val (.int p2), .val (.int p3), .val (.int v3), .val (.int v9), .val (.int v75), .val (.int v80), .val (.int v84), .unset, .unset, .unset, .unset, .unset, .unset, .unset, .unset] [(.ref b88), (.ref b88)])) target
          refine XS.iconst Xg88.here hx rfl (hb hby at_91) ?_
          show Steps p.tables e below (Tg88.setTop (mkF m 92 #[.val (.int p0), .val (.int p1), .val (.int p2), .val (.int p3), .val (.int v3), .val (.int v9), .val (.int v75), .val (.int v80), .val (.int v84), .unset, .unset, .unset, .unset, .unset, .unset, .unset, .unset] [(.int (0 : Int32)), (.ref b88), (.ref b88)])) target
          refine XS.iload Xg88.here hx rfl (hb hby at_92) rfl ?_
          exact kt
        obtain ⟨clg94, Arg94, Szg94, -⟩ := id F
        have hing94 : ¬ ((0 : Int32) < 0 ∨ clg94.slots.size ≤ ((0 : Int32)).toNatClampNeg) := own_inb Szg94 (by decide)
        obtain ⟨Tg94, hg94, Xg94, eg94, Wg94, stg94⟩ := stB Xg88 hx hZ eg88 Arg94 (j := (0 : Int32)) hing94 (g := (mkF m 94 #[.val (.int p0), .val (.int p1), .val (.int p2), .val (.int p3), .val (.int v3), .val (.int v9), .val (.int v75), .val (.int v80), .val (.int v84), .unset, .unset, .unset, .unset, .unset, .unset, .unset, .unset] [(.int v84), (.int (0 : Int32)), (.ref b88), (.ref b88)])) rfl rfl (hb hby at_94)
        refine own_st stg94 ?_
        have Ng94 := Fr.snoc Xg94 N0 g_b88
        obtain ⟨a94, ha94⟩ : ∃ gz : Nat → Int32, gz = fun i => if i = 0 then (nar .byte v84) else (fun _ => (0 : Int32)) i := ⟨_, rfl⟩
        have Zz_1 : n0 ≤ hg94.size := Nat.le_trans Zz (Keep.of_wr Wg94).1
        have F_2 : own_RayB Z hg94 b88 8 a94 := by rw [ha94]; exact own_RayB_set F Wg94 (by decide) (fits_nar_byte _)
        refine own_st (B := Tg94.setTop (mkF m 99 #[.val (.int p0), .val (.int p1), .val (.int p2), .val (.int p3), .val (.int v3), .val (.int v9), .val (.int v75), .val (.int v80), .val (.int v84), .unset, .unset, .unset, .unset, .unset, .unset, .unset, .unset] [(.int v84), (.int (1 : Int32)), (.ref b88), (.ref b88)])) (fun target kt => ?_) ?_
        · show Steps p.tables e below (Tg94.setTop (mkF m 95 #[.val (.int p0), .val (.int p1), .val (.int p2), .val (.int p3), .val (.int v3), .val (.int v9), .val (.int v75), .val (.int v80), .val (.int v84), .unset, .unset, .unset, .unset, .unset, .unset, .unset, .unset] [(.ref b88)])) target
          refine XS.dup Xg94.here hx rfl (hb hby at_95) rfl rfl ?_
          show Steps p.tables e below (Tg94.setTop (mkF m 96 #[.val (.int p0), .val (.int p1), .val (.int p2), .val (.int p3), .val (.int v3), .val (.int v9), .val (.int v75), .val (.int v80), .val (.int v84), .unset, .unset, .unset, .unset, .unset, .unset, .unset, .unset] [(.ref b88), (.ref b88)])) target
          refine XS.iconst Xg94.here hx rfl (hb hby at_96) ?_
          show Steps p.tables e below (Tg94.setTop (mkF m 97 #[.val (.int p0), .val (.int p1), .val (.int p2), .val (.int p3), .val (.int v3), .val (.int v9), .val (.int v75), .val (.int v80), .val (.int v84), .unset, .unset, .unset, .unset, .unset, .unset, .unset, .unset] [(.int (1 : Int32)), (.ref b88), (.ref b88)])) target
          refine XS.iload Xg94.here hx rfl (hb hby at_97) rfl ?_
          exact kt
        obtain ⟨clg99, Arg99, Szg99, -⟩ := id F_2
        have hing99 : ¬ ((1 : Int32) < 0 ∨ clg99.slots.size ≤ ((1 : Int32)).toNatClampNeg) := own_inb Szg99 (by decide)
        obtain ⟨Tg99, hg99, Xg99, eg99, Wg99, stg99⟩ := stB Xg94 hx hZ eg94 Arg99 (j := (1 : Int32)) hing99 (g := (mkF m 99 #[.val (.int p0), .val (.int p1), .val (.int p2), .val (.int p3), .val (.int v3), .val (.int v9), .val (.int v75), .val (.int v80), .val (.int v84), .unset, .unset, .unset, .unset, .unset, .unset, .unset, .unset] [(.int v84), (.int (1 : Int32)), (.ref b88), (.ref b88)])) rfl rfl (hb hby at_99)
        refine own_st stg99 ?_
        have Ng99 := Fr.snoc Xg99 Ng94 g_b88
        obtain ⟨a99, ha99⟩ : ∃ gz : Nat → Int32, gz = fun i => if i = 1 then (nar .byte v84) else a94 i := ⟨_, rfl⟩
        have Zz_2 : n0 ≤ hg99.size := Nat.le_trans Zz_1 (Keep.of_wr Wg99).1
        have F_4 : own_RayB Z hg99 b88 8 a99 := by rw [ha99]; exact own_RayB_set F_2 Wg99 (by decide) (fits_nar_byte _)
        refine own_st (B := Tg99.setTop (mkF m 104 #[.val (.int p0), .val (.int p1), .val (.int p2), .val (.int p3), .val (.int v3), .val (.int v9), .val (.int v75), .val (.int v80), .val (.int v84), .unset, .unset, .unset, .unset, .unset, .unset, .unset, .unset] [(.int v84), (.int (2 : Int32)), (.ref b88), (.ref b88)])) (fun target kt => ?_) ?_
        · show Steps p.tables e below (Tg99.setTop (mkF m 100 #[.val (.int p0), .val (.int p1), .val (.int p2), .val (.int p3), .val (.int v3), .val (.int v9), .val (.int v75), .val (.int v80), .val (.int v84), .unset, .unset, .unset, .unset, .unset, .unset, .unset, .unset] [(.ref b88)])) target
          refine XS.dup Xg99.here hx rfl (hb hby at_100) rfl rfl ?_
          show Steps p.tables e below (Tg99.setTop (mkF m 101 #[.val (.int p0), .val (.int p1), .val (.int p2), .val (.int p3), .val (.int v3), .val (.int v9), .val (.int v75), .val (.int v80), .val (.int v84), .unset, .unset, .unset, .unset, .unset, .unset, .unset, .unset] [(.ref b88), (.ref b88)])) target
          refine XS.iconst Xg99.here hx rfl (hb hby at_101) ?_
          show Steps p.tables e below (Tg99.setTop (mkF m 102 #[.val (.int p0), .val (.int p1), .val (.int p2), .val (.int p3), .val (.int v3), .val (.int v9), .val (.int v75), .val (.int v80), .val (.int v84), .unset, .unset, .unset, .unset, .unset, .unset, .unset, .unset] [(.int (2 : Int32)), (.ref b88), (.ref b88)])) target
          refine XS.iload Xg99.here hx rfl (hb hby at_102) rfl ?_
          exact kt
        obtain ⟨clg104, Arg104, Szg104, -⟩ := id F_4
        have hing104 : ¬ ((2 : Int32) < 0 ∨ clg104.slots.size ≤ ((2 : Int32)).toNatClampNeg) := own_inb Szg104 (by decide)
        obtain ⟨Tg104, hg104, Xg104, eg104, Wg104, stg104⟩ := stB Xg99 hx hZ eg99 Arg104 (j := (2 : Int32)) hing104 (g := (mkF m 104 #[.val (.int p0), .val (.int p1), .val (.int p2), .val (.int p3), .val (.int v3), .val (.int v9), .val (.int v75), .val (.int v80), .val (.int v84), .unset, .unset, .unset, .unset, .unset, .unset, .unset, .unset] [(.int v84), (.int (2 : Int32)), (.ref b88), (.ref b88)])) rfl rfl (hb hby at_104)
        refine own_st stg104 ?_
        have Ng104 := Fr.snoc Xg104 Ng99 g_b88
        obtain ⟨a104, ha104⟩ : ∃ gz : Nat → Int32, gz = fun i => if i = 2 then (nar .byte v84) else a99 i := ⟨_, rfl⟩
        have Zz_3 : n0 ≤ hg104.size := Nat.le_trans Zz_2 (Keep.of_wr Wg104).1
        have F_6 : own_RayB Z hg104 b88 8 a104 := by rw [ha104]; exact own_RayB_set F_4 Wg104 (by decide) (fits_nar_byte _)
        refine own_st (B := Tg104.setTop (mkF m 109 #[.val (.int p0), .val (.int p1), .val (.int p2), .val (.int p3), .val (.int v3), .val (.int v9), .val (.int v75), .val (.int v80), .val (.int v84), .unset, .unset, .unset, .unset, .unset, .unset, .unset, .unset] [(.int v84), (.int (3 : Int32)), (.ref b88), (.ref b88)])) (fun target kt => ?_) ?_
        · show Steps p.tables e below (Tg104.setTop (mkF m 105 #[.val (.int p0), .val (.int p1), .val (.int p2), .val (.int p3), .val (.int v3), .val (.int v9), .val (.int v75), .val (.int v80), .val (.int v84), .unset, .unset, .unset, .unset, .unset, .unset, .unset, .unset] [(.ref b88)])) target
          refine XS.dup Xg104.here hx rfl (hb hby at_105) rfl rfl ?_
          show Steps p.tables e below (Tg104.setTop (mkF m 106 #[.val (.int p0), .val (.int p1), .val (.int p2), .val (.int p3), .val (.int v3), .val (.int v9), .val (.int v75), .val (.int v80), .val (.int v84), .unset, .unset, .unset, .unset, .unset, .unset, .unset, .unset] [(.ref b88), (.ref b88)])) target
          refine XS.iconst Xg104.here hx rfl (hb hby at_106) ?_
          show Steps p.tables e below (Tg104.setTop (mkF m 107 #[.val (.int p0), .val (.int p1), .val (.int p2), .val (.int p3), .val (.int v3), .val (.int v9), .val (.int v75), .val (.int v80), .val (.int v84), .unset, .unset, .unset, .unset, .unset, .unset, .unset, .unset] [(.int (3 : Int32)), (.ref b88), (.ref b88)])) target
          refine XS.iload Xg104.here hx rfl (hb hby at_107) rfl ?_
          exact kt
        obtain ⟨clg109, Arg109, Szg109, -⟩ := id F_6
        have hing109 : ¬ ((3 : Int32) < 0 ∨ clg109.slots.size ≤ ((3 : Int32)).toNatClampNeg) := own_inb Szg109 (by decide)
        obtain ⟨Tg109, hg109, Xg109, eg109, Wg109, stg109⟩ := stB Xg104 hx hZ eg104 Arg109 (j := (3 : Int32)) hing109 (g := (mkF m 109 #[.val (.int p0), .val (.int p1), .val (.int p2), .val (.int p3), .val (.int v3), .val (.int v9), .val (.int v75), .val (.int v80), .val (.int v84), .unset, .unset, .unset, .unset, .unset, .unset, .unset, .unset] [(.int v84), (.int (3 : Int32)), (.ref b88), (.ref b88)])) rfl rfl (hb hby at_109)
        refine own_st stg109 ?_
        have Ng109 := Fr.snoc Xg109 Ng104 g_b88
        obtain ⟨a109, ha109⟩ : ∃ gz : Nat → Int32, gz = fun i => if i = 3 then (nar .byte v84) else a104 i := ⟨_, rfl⟩
        have Zz_4 : n0 ≤ hg109.size := Nat.le_trans Zz_3 (Keep.of_wr Wg109).1
        have F_8 : own_RayB Z hg109 b88 8 a109 := by rw [ha109]; exact own_RayB_set F_6 Wg109 (by decide) (fits_nar_byte _)
        refine own_st (B := Tg109.setTop (mkF m 114 #[.val (.int p0), .val (.int p1), .val (.int p2), .val (.int p3), .val (.int v3), .val (.int v9), .val (.int v75), .val (.int v80), .val (.int v84), .unset, .unset, .unset, .unset, .unset, .unset, .unset, .unset] [(.int v84), (.int (4 : Int32)), (.ref b88), (.ref b88)])) (fun target kt => ?_) ?_
        · show Steps p.tables e below (Tg109.setTop (mkF m 110 #[.val (.int p0), .val (.int p1), .val (.int p2), .val (.int p3), .val (.int v3), .val (.int v9), .val (.int v75), .val (.int v80), .val (.int v84), .unset, .unset, .unset, .unset, .unset, .unset, .unset, .unset] [(.ref b88)])) target
          refine XS.dup Xg109.here hx rfl (hb hby at_110) rfl rfl ?_
          show Steps p.tables e below (Tg109.setTop (mkF m 111 #[.val (.int p0), .val (.int p1), .val (.int p2), .val (.int p3), .val (.int v3), .val (.int v9), .val (.int v75), .val (.int v80), .val (.int v84), .unset, .unset, .unset, .unset, .unset, .unset, .unset, .unset] [(.ref b88), (.ref b88)])) target
          refine XS.iconst Xg109.here hx rfl (hb hby at_111) ?_
          show Steps p.tables e below (Tg109.setTop (mkF m 112 #[.val (.int p0), .val (.int p1), .val (.int p2), .val (.int p3), .val (.int v3), .val (.int v9), .val (.int v75), .val (.int v80), .val (.int v84), .unset, .unset, .unset, .unset, .unset, .unset, .unset, .unset] [(.int (4 : Int32)), (.ref b88), (.ref b88)])) target
          refine XS.iload Xg109.here hx rfl (hb hby at_112) rfl ?_
          exact kt
        obtain ⟨clg114, Arg114, Szg114, -⟩ := id F_8
        have hing114 : ¬ ((4 : Int32) < 0 ∨ clg114.slots.size ≤ ((4 : Int32)).toNatClampNeg) := own_inb Szg114 (by decide)
        obtain ⟨Tg114, hg114, Xg114, eg114, Wg114, stg114⟩ := stB Xg109 hx hZ eg109 Arg114 (j := (4 : Int32)) hing114 (g := (mkF m 114 #[.val (.int p0), .val (.int p1), .val (.int p2), .val (.int p3), .val (.int v3), .val (.int v9), .val (.int v75), .val (.int v80), .val (.int v84), .unset, .unset, .unset, .unset, .unset, .unset, .unset, .unset] [(.int v84), (.int (4 : Int32)), (.ref b88), (.ref b88)])) rfl rfl (hb hby at_114)
        refine own_st stg114 ?_
        have Ng114 := Fr.snoc Xg114 Ng109 g_b88
        obtain ⟨a114, ha114⟩ : ∃ gz : Nat → Int32, gz = fun i => if i = 4 then (nar .byte v84) else a109 i := ⟨_, rfl⟩
        have Zz_5 : n0 ≤ hg114.size := Nat.le_trans Zz_4 (Keep.of_wr Wg114).1
        have F_10 : own_RayB Z hg114 b88 8 a114 := by rw [ha114]; exact own_RayB_set F_8 Wg114 (by decide) (fits_nar_byte _)
        refine own_st (B := Tg114.setTop (mkF m 119 #[.val (.int p0), .val (.int p1), .val (.int p2), .val (.int p3), .val (.int v3), .val (.int v9), .val (.int v75), .val (.int v80), .val (.int v84), .unset, .unset, .unset, .unset, .unset, .unset, .unset, .unset] [(.int v84), (.int (5 : Int32)), (.ref b88), (.ref b88)])) (fun target kt => ?_) ?_
        · show Steps p.tables e below (Tg114.setTop (mkF m 115 #[.val (.int p0), .val (.int p1), .val (.int p2), .val (.int p3), .val (.int v3), .val (.int v9), .val (.int v75), .val (.int v80), .val (.int v84), .unset, .unset, .unset, .unset, .unset, .unset, .unset, .unset] [(.ref b88)])) target
          refine XS.dup Xg114.here hx rfl (hb hby at_115) rfl rfl ?_
          show Steps p.tables e below (Tg114.setTop (mkF m 116 #[.val (.int p0), .val (.int p1), .val (.int p2), .val (.int p3), .val (.int v3), .val (.int v9), .val (.int v75), .val (.int v80), .val (.int v84), .unset, .unset, .unset, .unset, .unset, .unset, .unset, .unset] [(.ref b88), (.ref b88)])) target
          refine XS.iconst Xg114.here hx rfl (hb hby at_116) ?_
          show Steps p.tables e below (Tg114.setTop (mkF m 117 #[.val (.int p0), .val (.int p1), .val (.int p2), .val (.int p3), .val (.int v3), .val (.int v9), .val (.int v75), .val (.int v80), .val (.int v84), .unset, .unset, .unset, .unset, .unset, .unset, .unset, .unset] [(.int (5 : Int32)), (.ref b88), (.ref b88)])) target
          refine XS.iload Xg114.here hx rfl (hb hby at_117) rfl ?_
          exact kt
        obtain ⟨clg119, Arg119, Szg119, -⟩ := id F_10
        have hing119 : ¬ ((5 : Int32) < 0 ∨ clg119.slots.size ≤ ((5 : Int32)).toNatClampNeg) := own_inb Szg119 (by decide)
        obtain ⟨Tg119, hg119, Xg119, eg119, Wg119, stg119⟩ := stB Xg114 hx hZ eg114 Arg119 (j := (5 : Int32)) hing119 (g := (mkF m 119 #[.val (.int p0), .val (.int p1), .val (.int p2), .val (.int p3), .val (.int v3), .val (.int v9), .val (.int v75), .val (.int v80), .val (.int v84), .unset, .unset, .unset, .unset, .unset, .unset, .unset, .unset] [(.int v84), (.int (5 : Int32)), (.ref b88), (.ref b88)])) rfl rfl (hb hby at_119)
        refine own_st stg119 ?_
        have Ng119 := Fr.snoc Xg119 Ng114 g_b88
        obtain ⟨a119, ha119⟩ : ∃ gz : Nat → Int32, gz = fun i => if i = 5 then (nar .byte v84) else a114 i := ⟨_, rfl⟩
        have Zz_6 : n0 ≤ hg119.size := Nat.le_trans Zz_5 (Keep.of_wr Wg119).1
        have F_12 : own_RayB Z hg119 b88 8 a119 := by rw [ha119]; exact own_RayB_set F_10 Wg119 (by decide) (fits_nar_byte _)
        refine own_st (B := Tg119.setTop (mkF m 125 #[.val (.int p0), .val (.int p1), .val (.int p2), .val (.int p3), .val (.int v3), .val (.int v9), .val (.int v75), .val (.int v80), .val (.int v84), .unset, .unset, .unset, .unset, .unset, .unset, .unset, .unset] [(.int v84), (.int (6 : Int32)), (.ref b88), (.ref b88)])) (fun target kt => ?_) ?_
        · show Steps p.tables e below (Tg119.setTop (mkF m 120 #[.val (.int p0), .val (.int p1), .val (.int p2), .val (.int p3), .val (.int v3), .val (.int v9), .val (.int v75), .val (.int v80), .val (.int v84), .unset, .unset, .unset, .unset, .unset, .unset, .unset, .unset] [(.ref b88)])) target
          refine XS.dup Xg119.here hx rfl (hb hby at_120) rfl rfl ?_
          show Steps p.tables e below (Tg119.setTop (mkF m 121 #[.val (.int p0), .val (.int p1), .val (.int p2), .val (.int p3), .val (.int v3), .val (.int v9), .val (.int v75), .val (.int v80), .val (.int v84), .unset, .unset, .unset, .unset, .unset, .unset, .unset, .unset] [(.ref b88), (.ref b88)])) target
          refine XS.bipush Xg119.here hx rfl (hb hby at_121) ?_
          show Steps p.tables e below (Tg119.setTop (mkF m 123 #[.val (.int p0), .val (.int p1), .val (.int p2), .val (.int p3), .val (.int v3), .val (.int v9), .val (.int v75), .val (.int v80), .val (.int v84), .unset, .unset, .unset, .unset, .unset, .unset, .unset, .unset] [(.int (6 : Int32)), (.ref b88), (.ref b88)])) target
          refine XS.iload Xg119.here hx rfl (hb hby at_123) rfl ?_
          exact kt
        obtain ⟨clg125, Arg125, Szg125, -⟩ := id F_12
        have hing125 : ¬ ((6 : Int32) < 0 ∨ clg125.slots.size ≤ ((6 : Int32)).toNatClampNeg) := own_inb Szg125 (by decide)
        obtain ⟨Tg125, hg125, Xg125, eg125, Wg125, stg125⟩ := stB Xg119 hx hZ eg119 Arg125 (j := (6 : Int32)) hing125 (g := (mkF m 125 #[.val (.int p0), .val (.int p1), .val (.int p2), .val (.int p3), .val (.int v3), .val (.int v9), .val (.int v75), .val (.int v80), .val (.int v84), .unset, .unset, .unset, .unset, .unset, .unset, .unset, .unset] [(.int v84), (.int (6 : Int32)), (.ref b88), (.ref b88)])) rfl rfl (hb hby at_125)
        refine own_st stg125 ?_
        have Ng125 := Fr.snoc Xg125 Ng119 g_b88
        obtain ⟨a125, ha125⟩ : ∃ gz : Nat → Int32, gz = fun i => if i = 6 then (nar .byte v84) else a119 i := ⟨_, rfl⟩
        have Zz_7 : n0 ≤ hg125.size := Nat.le_trans Zz_6 (Keep.of_wr Wg125).1
        have F_14 : own_RayB Z hg125 b88 8 a125 := by rw [ha125]; exact own_RayB_set F_12 Wg125 (by decide) (fits_nar_byte _)
        refine own_st (B := Tg125.setTop (mkF m 131 #[.val (.int p0), .val (.int p1), .val (.int p2), .val (.int p3), .val (.int v3), .val (.int v9), .val (.int v75), .val (.int v80), .val (.int v84), .unset, .unset, .unset, .unset, .unset, .unset, .unset, .unset] [(.int v84), (.int (7 : Int32)), (.ref b88), (.ref b88)])) (fun target kt => ?_) ?_
        · show Steps p.tables e below (Tg125.setTop (mkF m 126 #[.val (.int p0), .val (.int p1), .val (.int p2), .val (.int p3), .val (.int v3), .val (.int v9), .val (.int v75), .val (.int v80), .val (.int v84), .unset, .unset, .unset, .unset, .unset, .unset, .unset, .unset] [(.ref b88)])) target
          refine XS.dup Xg125.here hx rfl (hb hby at_126) rfl rfl ?_
          show Steps p.tables e below (Tg125.setTop (mkF m 127 #[.val (.int p0), .val (.int p1), .val (.int p2), .val (.int p3), .val (.int v3), .val (.int v9), .val (.int v75), .val (.int v80), .val (.int v84), .unset, .unset, .unset, .unset, .unset, .unset, .unset, .unset] [(.ref b88), (.ref b88)])) target
          refine XS.bipush Xg125.here hx rfl (hb hby at_127) ?_
          show Steps p.tables e below (Tg125.setTop (mkF m 129 #[.val (.int p0), .val (.int p1), .val (.int p2), .val (.int p3), .val (.int v3), .val (.int v9), .val (.int v75), .val (.int v80), .val (.int v84), .unset, .unset, .unset, .unset, .unset, .unset, .unset, .unset] [(.int (7 : Int32)), (.ref b88), (.ref b88)])) target
          refine XS.iload Xg125.here hx rfl (hb hby at_129) rfl ?_
          exact kt
        obtain ⟨clg131, Arg131, Szg131, -⟩ := id F_14
        have hing131 : ¬ ((7 : Int32) < 0 ∨ clg131.slots.size ≤ ((7 : Int32)).toNatClampNeg) := own_inb Szg131 (by decide)
        obtain ⟨Tg131, hg131, Xg131, eg131, Wg131, stg131⟩ := stB Xg125 hx hZ eg125 Arg131 (j := (7 : Int32)) hing131 (g := (mkF m 131 #[.val (.int p0), .val (.int p1), .val (.int p2), .val (.int p3), .val (.int v3), .val (.int v9), .val (.int v75), .val (.int v80), .val (.int v84), .unset, .unset, .unset, .unset, .unset, .unset, .unset, .unset] [(.int v84), (.int (7 : Int32)), (.ref b88), (.ref b88)])) rfl rfl (hb hby at_131)
        refine own_st stg131 ?_
        have Ng131 := Fr.snoc Xg131 Ng125 g_b88
        obtain ⟨a131, ha131⟩ : ∃ gz : Nat → Int32, gz = fun i => if i = 7 then (nar .byte v84) else a125 i := ⟨_, rfl⟩
        have Zz_8 : n0 ≤ hg131.size := Nat.le_trans Zz_7 (Keep.of_wr Wg131).1
        have F_16 : own_RayB Z hg131 b88 8 a131 := by rw [ha131]; exact own_RayB_set F_14 Wg131 (by decide) (fits_nar_byte _)
        refine own_st (B := Tg131.setTop (mkF m 140 #[.val (.int p0), .val (.int p1), .val (.int p2), .val (.int p3), .val (.int v3), .val (.int v9), .val (.int v75), .val (.int v80), .val (.int v84), .val (.ref b88), .unset, .unset, .unset, .unset, .unset, .unset, .unset] [(.int v80), (.ref b88), (.int v75)])) (fun target kt => ?_) ?_
        · show Steps p.tables e below (Tg131.setTop (mkF m 132 #[.val (.int p0), .val (.int p1), .val (.int p2), .val (.int p3), .val (.int v3), .val (.int v9), .val (.int v75), .val (.int v80), .val (.int v84), .unset, .unset, .unset, .unset, .unset, .unset, .unset, .unset] [(.ref b88)])) target
          refine XS.astore Xg131.here hx rfl (hb hby at_132) rfl rfl (l' := #[.val (.int p0), .val (.int p1), .val (.int p2), .val (.int p3), .val (.int v3), .val (.int v9), .val (.int v75), .val (.int v80), .val (.int v84), .val (.ref b88), .unset, .unset, .unset, .unset, .unset, .unset, .unset]) rfl ?_
          show Steps p.tables e below (Tg131.setTop (mkF m 134 #[.val (.int p0), .val (.int p1), .val (.int p2), .val (.int p3), .val (.int v3), .val (.int v9), .val (.int v75), .val (.int v80), .val (.int v84), .val (.ref b88), .unset, .unset, .unset, .unset, .unset, .unset, .unset] [])) target
          refine XS.iload Xg131.here hx rfl (hb hby at_134) rfl ?_
          show Steps p.tables e below (Tg131.setTop (mkF m 136 #[.val (.int p0), .val (.int p1), .val (.int p2), .val (.int p3), .val (.int v3), .val (.int v9), .val (.int v75), .val (.int v80), .val (.int v84), .val (.ref b88), .unset, .unset, .unset, .unset, .unset, .unset, .unset] [(.int v75)])) target
          refine XS.aload Xg131.here hx rfl (hb hby at_136) rfl rfl ?_
          show Steps p.tables e below (Tg131.setTop (mkF m 138 #[.val (.int p0), .val (.int p1), .val (.int p2), .val (.int p3), .val (.int v3), .val (.int v9), .val (.int v75), .val (.int v80), .val (.int v84), .val (.ref b88), .unset, .unset, .unset, .unset, .unset, .unset, .unset] [(.ref b88), (.int v75)])) target
          refine XS.iload Xg131.here hx rfl (hb hby at_138) rfl ?_
          exact kt
        obtain ⟨_, _, ⟨Tg140, Lg140, kg140, ng140⟩, -, Xg140, ⟨Lcg140, hQg140, lg140, yg140, zg140⟩, stg140⟩ := Jvm.LawKit.callS Xg131 hx (y := (⟨"com/example/psyche/psyche/XmlChars", "encode", "(I[BI)I"⟩ : MethodName)) hown (mvT hZ (hw _ (List.mem_of_getElem? (i := 4) rfl))) (mvT hZ (hw _ (List.mem_of_getElem? (i := 5) rfl))) (mvT hZ (hw _ (List.mem_of_getElem? (i := 6) rfl))) (mvT hZ (hw _ (List.mem_of_getElem? (i := 7) rfl))) (by decide) (backOf (W := 0) (own_rm1_e4 l Z a0 hw [] v75 b88 v80 a131 hg131 n0 Zz_8 F_16 g_b88 (show v80 = (0 : Int32) ∨ v80 = (1 : Int32) ∨ v80 = (2 : Int32) ∨ v80 = (3 : Int32) from (own_at p2 v80 hv80)) (show ¬ (v75 < (128 : Int32)) from hR1) (show ¬ (v75 < (2048 : Int32)) from hR2) (show ¬ (v75 < (65536 : Int32)) from hR3)) hZ (hw _ (List.mem_of_getElem? (i := 7) rfl)) (hw _ (List.mem_of_getElem? (i := 6) rfl)) (by decide) (by decide)) (g := (mkF m 140 #[.val (.int p0), .val (.int p1), .val (.int p2), .val (.int p3), .val (.int v3), .val (.int v9), .val (.int v75), .val (.int v80), .val (.int v84), .val (.ref b88), .unset, .unset, .unset, .unset, .unset, .unset, .unset] [(.int v80), (.ref b88), (.int v75)])) rfl (by rw [hml]; rfl) (argsL := [(.int v75), (.ref b88), (.int v80)]) (rest := []) (lenOf own_pd0 rfl) rfl (by show 2 * 0 + _ ≤ _; exact Nat.le_of_eq rfl) (hb hby at_140) (fun _ _ => ⟨rfl, eg131, (by decide : 1 + 0 ≤ _), (by decide : 8 + 0 ≤ _)⟩)
        dsimp only [Pt.U, Pt.locs, Pt.cells, Pt.slots] at Xg140 lg140 yg140 zg140 stg140 hQg140
        subst lg140 yg140 zg140
        obtain ⟨rfl, Ng140q, Kg140, F_17⟩ := hQg140
        have Zz_9 : n0 ≤ Tg140.heap.size := Nat.le_trans Zz_8 Kg140.1
        obtain ⟨a140, ha140⟩ : ∃ z : Nat → Int32, z = (fun i => if i = (v80 + (3 : Int32)).toNatClampNeg then (nar .byte (((128 : Int32) ||| (v75 &&& (63 : Int32))).toInt8.toInt32)) else (fun i => if i = (v80 + (2 : Int32)).toNatClampNeg then (nar .byte (((128 : Int32) ||| ((v75 >>> ((6 : Int32) &&& 31)) &&& (63 : Int32))).toInt8.toInt32)) else (fun i => if i = (v80 + (1 : Int32)).toNatClampNeg then (nar .byte (((128 : Int32) ||| ((v75 >>> ((12 : Int32) &&& 31)) &&& (63 : Int32))).toInt8.toInt32)) else (fun i => if i = (v80).toNatClampNeg then (nar .byte (((240 : Int32) ||| (v75 >>> ((18 : Int32) &&& 31))).toInt8.toInt32)) else a131 i) i) i) i) := ⟨_, rfl⟩
        have F_18 : own_RayB Z Tg140.heap b88 8 a140 := by subst ha140; exact F_17
        have Ng140 := Fr.app Ng131 Ng140q
        refine own_st (stg140) ?_
        refine own_st (B := Tg140.setTop (mkF m 150 #[.val (.int p0), .val (.int p1), .val (.int p2), .val (.int p3), .val (.int v3), .val (.int v9), .val (.int v75), .val (.int v80), .val (.int v84), .val (.ref b88), .val (.int (4 : Int32)), .unset, .unset, .unset, .unset, .unset, .unset] [(.int (128 : Int32)), (.int v75)])) (fun target kt => ?_) ?_
        · show Steps p.tables e below (Tg140.setTop (mkF m 143 #[.val (.int p0), .val (.int p1), .val (.int p2), .val (.int p3), .val (.int v3), .val (.int v9), .val (.int v75), .val (.int v80), .val (.int v84), .val (.ref b88), .unset, .unset, .unset, .unset, .unset, .unset, .unset] [(.int (4 : Int32))])) target
          refine XS.istore Xg140.here hx rfl (hb hby at_143) rfl (l' := #[.val (.int p0), .val (.int p1), .val (.int p2), .val (.int p3), .val (.int v3), .val (.int v9), .val (.int v75), .val (.int v80), .val (.int v84), .val (.ref b88), .val (.int (4 : Int32)), .unset, .unset, .unset, .unset, .unset, .unset]) rfl ?_
          show Steps p.tables e below (Tg140.setTop (mkF m 145 #[.val (.int p0), .val (.int p1), .val (.int p2), .val (.int p3), .val (.int v3), .val (.int v9), .val (.int v75), .val (.int v80), .val (.int v84), .val (.ref b88), .val (.int (4 : Int32)), .unset, .unset, .unset, .unset, .unset, .unset] [])) target
          refine XS.iload Xg140.here hx rfl (hb hby at_145) rfl ?_
          show Steps p.tables e below (Tg140.setTop (mkF m 147 #[.val (.int p0), .val (.int p1), .val (.int p2), .val (.int p3), .val (.int v3), .val (.int v9), .val (.int v75), .val (.int v80), .val (.int v84), .val (.ref b88), .val (.int (4 : Int32)), .unset, .unset, .unset, .unset, .unset, .unset] [(.int v75)])) target
          refine XS.sipush Xg140.here hx rfl (hb hby at_147) ?_
          exact kt
        have c150 : ¬ (v75 < (128 : Int32)) := by
          exact hR1
        refine own_st (B := Tg140.setTop (mkF m 162 #[.val (.int p0), .val (.int p1), .val (.int p2), .val (.int p3), .val (.int v3), .val (.int v9), .val (.int v75), .val (.int v80), .val (.int v84), .val (.ref b88), .val (.int (4 : Int32)), .unset, .unset, .unset, .unset, .unset, .unset] [(.int (2048 : Int32)), (.int v75)])) (fun target kt => ?_) ?_
        · show Steps p.tables e below (Tg140.setTop (mkF m 150 #[.val (.int p0), .val (.int p1), .val (.int p2), .val (.int p3), .val (.int v3), .val (.int v9), .val (.int v75), .val (.int v80), .val (.int v84), .val (.ref b88), .val (.int (4 : Int32)), .unset, .unset, .unset, .unset, .unset, .unset] [(.int (128 : Int32)), (.int v75)])) target
          refine XS.icmpYes Xg140.here hx rfl (pc0 := 150) (pc' := 157) rfl (hb hby at_150) rfl (flt c150).2.1 (by decide) (by decide) ?_
          show Steps p.tables e below (Tg140.setTop (mkF m 157 #[.val (.int p0), .val (.int p1), .val (.int p2), .val (.int p3), .val (.int v3), .val (.int v9), .val (.int v75), .val (.int v80), .val (.int v84), .val (.ref b88), .val (.int (4 : Int32)), .unset, .unset, .unset, .unset, .unset, .unset] [])) target
          refine XS.iload Xg140.here hx rfl (hb hby at_157) rfl ?_
          show Steps p.tables e below (Tg140.setTop (mkF m 159 #[.val (.int p0), .val (.int p1), .val (.int p2), .val (.int p3), .val (.int v3), .val (.int v9), .val (.int v75), .val (.int v80), .val (.int v84), .val (.ref b88), .val (.int (4 : Int32)), .unset, .unset, .unset, .unset, .unset, .unset] [(.int v75)])) target
          refine XS.sipush Xg140.here hx rfl (hb hby at_159) ?_
          exact kt
        have c162 : ¬ (v75 < (2048 : Int32)) := by
          exact hR2
        refine own_st (B := Tg140.setTop (mkF m 173 #[.val (.int p0), .val (.int p1), .val (.int p2), .val (.int p3), .val (.int v3), .val (.int v9), .val (.int v75), .val (.int v80), .val (.int v84), .val (.ref b88), .val (.int (4 : Int32)), .unset, .unset, .unset, .unset, .unset, .unset] [(.int (65536 : Int32)), (.int v75)])) (fun target kt => ?_) ?_
        · show Steps p.tables e below (Tg140.setTop (mkF m 162 #[.val (.int p0), .val (.int p1), .val (.int p2), .val (.int p3), .val (.int v3), .val (.int v9), .val (.int v75), .val (.int v80), .val (.int v84), .val (.ref b88), .val (.int (4 : Int32)), .unset, .unset, .unset, .unset, .unset, .unset] [(.int (2048 : Int32)), (.int v75)])) target
          refine XS.icmpYes Xg140.here hx rfl (pc0 := 162) (pc' := 169) rfl (hb hby at_162) rfl (flt c162).2.1 (by decide) (by decide) ?_
          show Steps p.tables e below (Tg140.setTop (mkF m 169 #[.val (.int p0), .val (.int p1), .val (.int p2), .val (.int p3), .val (.int v3), .val (.int v9), .val (.int v75), .val (.int v80), .val (.int v84), .val (.ref b88), .val (.int (4 : Int32)), .unset, .unset, .unset, .unset, .unset, .unset] [])) target
          refine XS.iload Xg140.here hx rfl (hb hby at_169) rfl ?_
          show Steps p.tables e below (Tg140.setTop (mkF m 171 #[.val (.int p0), .val (.int p1), .val (.int p2), .val (.int p3), .val (.int v3), .val (.int v9), .val (.int v75), .val (.int v80), .val (.int v84), .val (.ref b88), .val (.int (4 : Int32)), .unset, .unset, .unset, .unset, .unset, .unset] [(.int v75)])) target
          refine Xg140.ldcInt hx hown (mvT hZ (hw _ (List.mem_of_getElem? (i := 1) rfl))) (g := (mkF m 171 #[.val (.int p0), .val (.int p1), .val (.int p2), .val (.int p3), .val (.int v3), .val (.int v9), .val (.int v75), .val (.int v80), .val (.int v84), .val (.ref b88), .val (.int (4 : Int32)), .unset, .unset, .unset, .unset, .unset, .unset] [(.int v75)])) rfl (hb hby at_171) _ ?_
          exact kt
        have c173 : ¬ (v75 < (65536 : Int32)) := by
          exact hR3
        refine own_st (B := Tg140.setTop (mkF m 192 #[.val (.int p0), .val (.int p1), .val (.int p2), .val (.int p3), .val (.int v3), .val (.int v9), .val (.int v75), .val (.int v80), .val (.int v84), .val (.ref b88), .val (.int (4 : Int32)), .val (.int (4 : Int32)), .unset, .unset, .unset, .unset, .unset] [])) (fun target kt => ?_) ?_
        · show Steps p.tables e below (Tg140.setTop (mkF m 173 #[.val (.int p0), .val (.int p1), .val (.int p2), .val (.int p3), .val (.int v3), .val (.int v9), .val (.int v75), .val (.int v80), .val (.int v84), .val (.ref b88), .val (.int (4 : Int32)), .unset, .unset, .unset, .unset, .unset, .unset] [(.int (65536 : Int32)), (.int v75)])) target
          refine XS.icmpYes Xg140.here hx rfl (pc0 := 173) (pc' := 180) rfl (hb hby at_173) rfl (flt c173).2.1 (by decide) (by decide) ?_
          show Steps p.tables e below (Tg140.setTop (mkF m 180 #[.val (.int p0), .val (.int p1), .val (.int p2), .val (.int p3), .val (.int v3), .val (.int v9), .val (.int v75), .val (.int v80), .val (.int v84), .val (.ref b88), .val (.int (4 : Int32)), .unset, .unset, .unset, .unset, .unset, .unset] [])) target
          refine XS.iconst Xg140.here hx rfl (hb hby at_180) ?_
          show Steps p.tables e below (Tg140.setTop (mkF m 181 #[.val (.int p0), .val (.int p1), .val (.int p2), .val (.int p3), .val (.int v3), .val (.int v9), .val (.int v75), .val (.int v80), .val (.int v84), .val (.ref b88), .val (.int (4 : Int32)), .unset, .unset, .unset, .unset, .unset, .unset] [(.int (4 : Int32))])) target
          refine XS.istore Xg140.here hx rfl (hb hby at_181) rfl (l' := #[.val (.int p0), .val (.int p1), .val (.int p2), .val (.int p3), .val (.int v3), .val (.int v9), .val (.int v75), .val (.int v80), .val (.int v84), .val (.ref b88), .val (.int (4 : Int32)), .val (.int (4 : Int32)), .unset, .unset, .unset, .unset, .unset]) rfl ?_
          show Steps p.tables e below (Tg140.setTop (mkF m 183 #[.val (.int p0), .val (.int p1), .val (.int p2), .val (.int p3), .val (.int v3), .val (.int v9), .val (.int v75), .val (.int v80), .val (.int v84), .val (.ref b88), .val (.int (4 : Int32)), .val (.int (4 : Int32)), .unset, .unset, .unset, .unset, .unset] [])) target
          refine XS.iload Xg140.here hx rfl (hb hby at_183) rfl ?_
          show Steps p.tables e below (Tg140.setTop (mkF m 185 #[.val (.int p0), .val (.int p1), .val (.int p2), .val (.int p3), .val (.int v3), .val (.int v9), .val (.int v75), .val (.int v80), .val (.int v84), .val (.ref b88), .val (.int (4 : Int32)), .val (.int (4 : Int32)), .unset, .unset, .unset, .unset, .unset] [(.int (4 : Int32))])) target
          refine XS.iload Xg140.here hx rfl (hb hby at_185) rfl ?_
          show Steps p.tables e below (Tg140.setTop (mkF m 187 #[.val (.int p0), .val (.int p1), .val (.int p2), .val (.int p3), .val (.int v3), .val (.int v9), .val (.int v75), .val (.int v80), .val (.int v84), .val (.ref b88), .val (.int (4 : Int32)), .val (.int (4 : Int32)), .unset, .unset, .unset, .unset, .unset] [(.int (4 : Int32)), (.int (4 : Int32))])) target
          refine XS.icmpYes Xg140.here hx rfl (pc0 := 187) (pc' := 192) rfl (hb hby at_187) rfl (teq (by decide : (4 : Int32) = (4 : Int32))).1 (by decide) (by decide) ?_
          exact kt
        have hat := own_at p2 v80 hv80
        have hn84 : nar .byte v84 = v84 := by rw [hv84]; exact own_nb8 p3
        have hfill : ∀ i, i < 8 → a131 i = v84 := by
          intro i hi
          have : i = 0 ∨ i = 1 ∨ i = 2 ∨ i = 3 ∨ i = 4 ∨ i = 5 ∨ i = 6 ∨ i = 7 := by omega
          rcases this with rfl | rfl | rfl | rfl | rfl | rfl | rfl | rfl <;> simp [ha131, ha125, ha119, ha114, ha109, ha104, ha99, ha94, hn84]
        refine own_st (B := Tg140.setTop (mkF m 201 #[.val (.int p0), .val (.int p1), .val (.int p2), .val (.int p3), .val (.int v3), .val (.int v9), .val (.int v75), .val (.int v80), .val (.int v84), .val (.ref b88), .val (.int (4 : Int32)), .val (.int (4 : Int32)), .unset, .unset, .unset, .unset, .unset] [(.int v84), (.int (4 : Int32)), (.int v80), (.int (0 : Int32)), (.ref b88)])) (fun target kt => ?_) ?_
        · show Steps p.tables e below (Tg140.setTop (mkF m 192 #[.val (.int p0), .val (.int p1), .val (.int p2), .val (.int p3), .val (.int v3), .val (.int v9), .val (.int v75), .val (.int v80), .val (.int v84), .val (.ref b88), .val (.int (4 : Int32)), .val (.int (4 : Int32)), .unset, .unset, .unset, .unset, .unset] [])) target
          refine XS.aload Xg140.here hx rfl (hb hby at_192) rfl rfl ?_
          show Steps p.tables e below (Tg140.setTop (mkF m 194 #[.val (.int p0), .val (.int p1), .val (.int p2), .val (.int p3), .val (.int v3), .val (.int v9), .val (.int v75), .val (.int v80), .val (.int v84), .val (.ref b88), .val (.int (4 : Int32)), .val (.int (4 : Int32)), .unset, .unset, .unset, .unset, .unset] [(.ref b88)])) target
          refine XS.iconst Xg140.here hx rfl (hb hby at_194) ?_
          show Steps p.tables e below (Tg140.setTop (mkF m 195 #[.val (.int p0), .val (.int p1), .val (.int p2), .val (.int p3), .val (.int v3), .val (.int v9), .val (.int v75), .val (.int v80), .val (.int v84), .val (.ref b88), .val (.int (4 : Int32)), .val (.int (4 : Int32)), .unset, .unset, .unset, .unset, .unset] [(.int (0 : Int32)), (.ref b88)])) target
          refine XS.iload Xg140.here hx rfl (hb hby at_195) rfl ?_
          show Steps p.tables e below (Tg140.setTop (mkF m 197 #[.val (.int p0), .val (.int p1), .val (.int p2), .val (.int p3), .val (.int v3), .val (.int v9), .val (.int v75), .val (.int v80), .val (.int v84), .val (.ref b88), .val (.int (4 : Int32)), .val (.int (4 : Int32)), .unset, .unset, .unset, .unset, .unset] [(.int v80), (.int (0 : Int32)), (.ref b88)])) target
          refine XS.iload Xg140.here hx rfl (hb hby at_197) rfl ?_
          show Steps p.tables e below (Tg140.setTop (mkF m 199 #[.val (.int p0), .val (.int p1), .val (.int p2), .val (.int p3), .val (.int v3), .val (.int v9), .val (.int v75), .val (.int v80), .val (.int v84), .val (.ref b88), .val (.int (4 : Int32)), .val (.int (4 : Int32)), .unset, .unset, .unset, .unset, .unset] [(.int (4 : Int32)), (.int v80), (.int (0 : Int32)), (.ref b88)])) target
          refine XS.iload Xg140.here hx rfl (hb hby at_199) rfl ?_
          exact kt
        obtain ⟨_, _, ⟨Tg201, Lg201, kg201, ng201⟩, -, Xg201, ⟨Lcg201, hQg201, lg201, yg201, zg201⟩, stg201⟩ := Jvm.LawKit.callS Xg140 hx (y := (⟨"com/example/psyche/psyche/XmlCharsEncodePinLaw", "same", "([BIIIB)Z"⟩ : MethodName)) hown (mvT hZ (hw _ (List.mem_of_getElem? (i := 9) rfl))) (mvT hZ (hw _ (List.mem_of_getElem? (i := 10) rfl))) (mvT hZ (hw _ (List.mem_of_getElem? (i := 11) rfl))) (mvT hZ (hw _ (List.mem_of_getElem? (i := 12) rfl))) (by decide) (backOf (W := 0) (own_rm2 l Z a0 hw [] b88 (0 : Int32) v80 (4 : Int32) v84 a140 Tg140.heap n0 Zz_9 F_18 (show ¬ (0 : Int32) < 0 ∧ (0 : Int32).toNatClampNeg < 8 from (by decide))) hZ (hw _ (List.mem_of_getElem? (i := 12) rfl)) (hw _ (List.mem_of_getElem? (i := 11) rfl)) (by decide) (by decide)) (g := (mkF m 201 #[.val (.int p0), .val (.int p1), .val (.int p2), .val (.int p3), .val (.int v3), .val (.int v9), .val (.int v75), .val (.int v80), .val (.int v84), .val (.ref b88), .val (.int (4 : Int32)), .val (.int (4 : Int32)), .unset, .unset, .unset, .unset, .unset] [(.int v84), (.int (4 : Int32)), (.int v80), (.int (0 : Int32)), (.ref b88)])) rfl (by rw [hml]; rfl) (argsL := [(.ref b88), (.int (0 : Int32)), (.int v80), (.int (4 : Int32)), (.int v84)]) (rest := []) (lenOf own_pd1 rfl) rfl (by show 2 * 0 + _ ≤ _; exact Nat.le_of_eq rfl) (hb hby at_201) (fun _ _ => ⟨rfl, rfl, (by decide : 1 + 0 ≤ _), (by decide : 8 + 0 ≤ _)⟩)
        dsimp only [Pt.U, Pt.locs, Pt.cells, Pt.slots] at Xg201 lg201 yg201 zg201 stg201 hQg201
        subst lg201 yg201 zg201
        obtain ⟨rfl, Ng201q, eg201⟩ := hQg201
        have Ng201 := Fr.app Ng140 Ng201q
        refine own_st (stg201) ?_
        have c204 : (((0 : Int32) < v80) ∧ ((a140 (0 : Int32).toNatClampNeg) = v84)) ∨ (¬ ((0 : Int32) < v80) ∧ (((0 : Int32) < (v80 + (4 : Int32))) ∨ ((a140 (0 : Int32).toNatClampNeg) = v84))) := by
          rcases hat with h | h | h | h <;> (rw [ha140, h]; first | exact Or.inr ⟨by decide, Or.inl (by decide)⟩ | (refine Or.inl ⟨by decide, ?_⟩; simp +decide [hfill]) | (refine Or.inr ⟨by decide, Or.inr ?_⟩; simp +decide [hfill]))
        refine own_st (B := Tg201.setTop (mkF m 216 #[.val (.int p0), .val (.int p1), .val (.int p2), .val (.int p3), .val (.int v3), .val (.int v9), .val (.int v75), .val (.int v80), .val (.int v84), .val (.ref b88), .val (.int (4 : Int32)), .val (.int (4 : Int32)), .unset, .unset, .unset, .unset, .unset] [(.int v84), (.int (4 : Int32)), (.int v80), (.int (1 : Int32)), (.ref b88)])) (fun target kt => ?_) ?_
        · show Steps p.tables e below (Tg201.setTop (mkF m 204 #[.val (.int p0), .val (.int p1), .val (.int p2), .val (.int p3), .val (.int v3), .val (.int v9), .val (.int v75), .val (.int v80), .val (.int v84), .val (.ref b88), .val (.int (4 : Int32)), .val (.int (4 : Int32)), .unset, .unset, .unset, .unset, .unset] [(.int (own_b ((((0 : Int32) < v80) ∧ ((a140 (0 : Int32).toNatClampNeg) = v84)) ∨ (¬ ((0 : Int32) < v80) ∧ (((0 : Int32) < (v80 + (4 : Int32))) ∨ ((a140 (0 : Int32).toNatClampNeg) = v84))))))])) target
          refine XS.ifNo Xg201.here hx rfl (hb hby at_204) rfl ((if0 _ _).trans (feq (own_bn0 rfl c204)).1) ?_
          show Steps p.tables e below (Tg201.setTop (mkF m 207 #[.val (.int p0), .val (.int p1), .val (.int p2), .val (.int p3), .val (.int v3), .val (.int v9), .val (.int v75), .val (.int v80), .val (.int v84), .val (.ref b88), .val (.int (4 : Int32)), .val (.int (4 : Int32)), .unset, .unset, .unset, .unset, .unset] [])) target
          refine XS.aload Xg201.here hx rfl (hb hby at_207) rfl rfl ?_
          show Steps p.tables e below (Tg201.setTop (mkF m 209 #[.val (.int p0), .val (.int p1), .val (.int p2), .val (.int p3), .val (.int v3), .val (.int v9), .val (.int v75), .val (.int v80), .val (.int v84), .val (.ref b88), .val (.int (4 : Int32)), .val (.int (4 : Int32)), .unset, .unset, .unset, .unset, .unset] [(.ref b88)])) target
          refine XS.iconst Xg201.here hx rfl (hb hby at_209) ?_
          show Steps p.tables e below (Tg201.setTop (mkF m 210 #[.val (.int p0), .val (.int p1), .val (.int p2), .val (.int p3), .val (.int v3), .val (.int v9), .val (.int v75), .val (.int v80), .val (.int v84), .val (.ref b88), .val (.int (4 : Int32)), .val (.int (4 : Int32)), .unset, .unset, .unset, .unset, .unset] [(.int (1 : Int32)), (.ref b88)])) target
          refine XS.iload Xg201.here hx rfl (hb hby at_210) rfl ?_
          show Steps p.tables e below (Tg201.setTop (mkF m 212 #[.val (.int p0), .val (.int p1), .val (.int p2), .val (.int p3), .val (.int v3), .val (.int v9), .val (.int v75), .val (.int v80), .val (.int v84), .val (.ref b88), .val (.int (4 : Int32)), .val (.int (4 : Int32)), .unset, .unset, .unset, .unset, .unset] [(.int v80), (.int (1 : Int32)), (.ref b88)])) target
          refine XS.iload Xg201.here hx rfl (hb hby at_212) rfl ?_
          show Steps p.tables e below (Tg201.setTop (mkF m 214 #[.val (.int p0), .val (.int p1), .val (.int p2), .val (.int p3), .val (.int v3), .val (.int v9), .val (.int v75), .val (.int v80), .val (.int v84), .val (.ref b88), .val (.int (4 : Int32)), .val (.int (4 : Int32)), .unset, .unset, .unset, .unset, .unset] [(.int (4 : Int32)), (.int v80), (.int (1 : Int32)), (.ref b88)])) target
          refine XS.iload Xg201.here hx rfl (hb hby at_214) rfl ?_
          exact kt
        obtain ⟨_, _, ⟨Tg216, Lg216, kg216, ng216⟩, -, Xg216, ⟨Lcg216, hQg216, lg216, yg216, zg216⟩, stg216⟩ := Jvm.LawKit.callS Xg201 hx (y := (⟨"com/example/psyche/psyche/XmlCharsEncodePinLaw", "same", "([BIIIB)Z"⟩ : MethodName)) hown (mvT hZ (hw _ (List.mem_of_getElem? (i := 9) rfl))) (mvT hZ (hw _ (List.mem_of_getElem? (i := 10) rfl))) (mvT hZ (hw _ (List.mem_of_getElem? (i := 11) rfl))) (mvT hZ (hw _ (List.mem_of_getElem? (i := 12) rfl))) (by decide) (backOf (W := 0) (own_rm2 l Z a0 hw [] b88 (1 : Int32) v80 (4 : Int32) v84 a140 Tg140.heap n0 Zz_9 F_18 (show ¬ (1 : Int32) < 0 ∧ (1 : Int32).toNatClampNeg < 8 from (by decide))) hZ (hw _ (List.mem_of_getElem? (i := 12) rfl)) (hw _ (List.mem_of_getElem? (i := 11) rfl)) (by decide) (by decide)) (g := (mkF m 216 #[.val (.int p0), .val (.int p1), .val (.int p2), .val (.int p3), .val (.int v3), .val (.int v9), .val (.int v75), .val (.int v80), .val (.int v84), .val (.ref b88), .val (.int (4 : Int32)), .val (.int (4 : Int32)), .unset, .unset, .unset, .unset, .unset] [(.int v84), (.int (4 : Int32)), (.int v80), (.int (1 : Int32)), (.ref b88)])) rfl (by rw [hml]; rfl) (argsL := [(.ref b88), (.int (1 : Int32)), (.int v80), (.int (4 : Int32)), (.int v84)]) (rest := []) (lenOf own_pd1 rfl) rfl (by show 2 * 0 + _ ≤ _; exact Nat.le_of_eq rfl) (hb hby at_216) (fun _ _ => ⟨rfl, eg201, (by decide : 1 + 0 ≤ _), (by decide : 8 + 0 ≤ _)⟩)
        dsimp only [Pt.U, Pt.locs, Pt.cells, Pt.slots] at Xg216 lg216 yg216 zg216 stg216 hQg216
        subst lg216 yg216 zg216
        obtain ⟨rfl, Ng216q, eg216⟩ := hQg216
        have Ng216 := Fr.app Ng201 Ng216q
        refine own_st (stg216) ?_
        have c219 : (((1 : Int32) < v80) ∧ ((a140 (1 : Int32).toNatClampNeg) = v84)) ∨ (¬ ((1 : Int32) < v80) ∧ (((1 : Int32) < (v80 + (4 : Int32))) ∨ ((a140 (1 : Int32).toNatClampNeg) = v84))) := by
          rcases hat with h | h | h | h <;> (rw [ha140, h]; first | exact Or.inr ⟨by decide, Or.inl (by decide)⟩ | (refine Or.inl ⟨by decide, ?_⟩; simp +decide [hfill]) | (refine Or.inr ⟨by decide, Or.inr ?_⟩; simp +decide [hfill]))
        refine own_st (B := Tg216.setTop (mkF m 231 #[.val (.int p0), .val (.int p1), .val (.int p2), .val (.int p3), .val (.int v3), .val (.int v9), .val (.int v75), .val (.int v80), .val (.int v84), .val (.ref b88), .val (.int (4 : Int32)), .val (.int (4 : Int32)), .unset, .unset, .unset, .unset, .unset] [(.int v84), (.int (4 : Int32)), (.int v80), (.int (2 : Int32)), (.ref b88)])) (fun target kt => ?_) ?_
        · show Steps p.tables e below (Tg216.setTop (mkF m 219 #[.val (.int p0), .val (.int p1), .val (.int p2), .val (.int p3), .val (.int v3), .val (.int v9), .val (.int v75), .val (.int v80), .val (.int v84), .val (.ref b88), .val (.int (4 : Int32)), .val (.int (4 : Int32)), .unset, .unset, .unset, .unset, .unset] [(.int (own_b ((((1 : Int32) < v80) ∧ ((a140 (1 : Int32).toNatClampNeg) = v84)) ∨ (¬ ((1 : Int32) < v80) ∧ (((1 : Int32) < (v80 + (4 : Int32))) ∨ ((a140 (1 : Int32).toNatClampNeg) = v84))))))])) target
          refine XS.ifNo Xg216.here hx rfl (hb hby at_219) rfl ((if0 _ _).trans (feq (own_bn0 rfl c219)).1) ?_
          show Steps p.tables e below (Tg216.setTop (mkF m 222 #[.val (.int p0), .val (.int p1), .val (.int p2), .val (.int p3), .val (.int v3), .val (.int v9), .val (.int v75), .val (.int v80), .val (.int v84), .val (.ref b88), .val (.int (4 : Int32)), .val (.int (4 : Int32)), .unset, .unset, .unset, .unset, .unset] [])) target
          refine XS.aload Xg216.here hx rfl (hb hby at_222) rfl rfl ?_
          show Steps p.tables e below (Tg216.setTop (mkF m 224 #[.val (.int p0), .val (.int p1), .val (.int p2), .val (.int p3), .val (.int v3), .val (.int v9), .val (.int v75), .val (.int v80), .val (.int v84), .val (.ref b88), .val (.int (4 : Int32)), .val (.int (4 : Int32)), .unset, .unset, .unset, .unset, .unset] [(.ref b88)])) target
          refine XS.iconst Xg216.here hx rfl (hb hby at_224) ?_
          show Steps p.tables e below (Tg216.setTop (mkF m 225 #[.val (.int p0), .val (.int p1), .val (.int p2), .val (.int p3), .val (.int v3), .val (.int v9), .val (.int v75), .val (.int v80), .val (.int v84), .val (.ref b88), .val (.int (4 : Int32)), .val (.int (4 : Int32)), .unset, .unset, .unset, .unset, .unset] [(.int (2 : Int32)), (.ref b88)])) target
          refine XS.iload Xg216.here hx rfl (hb hby at_225) rfl ?_
          show Steps p.tables e below (Tg216.setTop (mkF m 227 #[.val (.int p0), .val (.int p1), .val (.int p2), .val (.int p3), .val (.int v3), .val (.int v9), .val (.int v75), .val (.int v80), .val (.int v84), .val (.ref b88), .val (.int (4 : Int32)), .val (.int (4 : Int32)), .unset, .unset, .unset, .unset, .unset] [(.int v80), (.int (2 : Int32)), (.ref b88)])) target
          refine XS.iload Xg216.here hx rfl (hb hby at_227) rfl ?_
          show Steps p.tables e below (Tg216.setTop (mkF m 229 #[.val (.int p0), .val (.int p1), .val (.int p2), .val (.int p3), .val (.int v3), .val (.int v9), .val (.int v75), .val (.int v80), .val (.int v84), .val (.ref b88), .val (.int (4 : Int32)), .val (.int (4 : Int32)), .unset, .unset, .unset, .unset, .unset] [(.int (4 : Int32)), (.int v80), (.int (2 : Int32)), (.ref b88)])) target
          refine XS.iload Xg216.here hx rfl (hb hby at_229) rfl ?_
          exact kt
        obtain ⟨_, _, ⟨Tg231, Lg231, kg231, ng231⟩, -, Xg231, ⟨Lcg231, hQg231, lg231, yg231, zg231⟩, stg231⟩ := Jvm.LawKit.callS Xg216 hx (y := (⟨"com/example/psyche/psyche/XmlCharsEncodePinLaw", "same", "([BIIIB)Z"⟩ : MethodName)) hown (mvT hZ (hw _ (List.mem_of_getElem? (i := 9) rfl))) (mvT hZ (hw _ (List.mem_of_getElem? (i := 10) rfl))) (mvT hZ (hw _ (List.mem_of_getElem? (i := 11) rfl))) (mvT hZ (hw _ (List.mem_of_getElem? (i := 12) rfl))) (by decide) (backOf (W := 0) (own_rm2 l Z a0 hw [] b88 (2 : Int32) v80 (4 : Int32) v84 a140 Tg140.heap n0 Zz_9 F_18 (show ¬ (2 : Int32) < 0 ∧ (2 : Int32).toNatClampNeg < 8 from (by decide))) hZ (hw _ (List.mem_of_getElem? (i := 12) rfl)) (hw _ (List.mem_of_getElem? (i := 11) rfl)) (by decide) (by decide)) (g := (mkF m 231 #[.val (.int p0), .val (.int p1), .val (.int p2), .val (.int p3), .val (.int v3), .val (.int v9), .val (.int v75), .val (.int v80), .val (.int v84), .val (.ref b88), .val (.int (4 : Int32)), .val (.int (4 : Int32)), .unset, .unset, .unset, .unset, .unset] [(.int v84), (.int (4 : Int32)), (.int v80), (.int (2 : Int32)), (.ref b88)])) rfl (by rw [hml]; rfl) (argsL := [(.ref b88), (.int (2 : Int32)), (.int v80), (.int (4 : Int32)), (.int v84)]) (rest := []) (lenOf own_pd1 rfl) rfl (by show 2 * 0 + _ ≤ _; exact Nat.le_of_eq rfl) (hb hby at_231) (fun _ _ => ⟨rfl, eg216, (by decide : 1 + 0 ≤ _), (by decide : 8 + 0 ≤ _)⟩)
        dsimp only [Pt.U, Pt.locs, Pt.cells, Pt.slots] at Xg231 lg231 yg231 zg231 stg231 hQg231
        subst lg231 yg231 zg231
        obtain ⟨rfl, Ng231q, eg231⟩ := hQg231
        have Ng231 := Fr.app Ng216 Ng231q
        refine own_st (stg231) ?_
        have c234 : (((2 : Int32) < v80) ∧ ((a140 (2 : Int32).toNatClampNeg) = v84)) ∨ (¬ ((2 : Int32) < v80) ∧ (((2 : Int32) < (v80 + (4 : Int32))) ∨ ((a140 (2 : Int32).toNatClampNeg) = v84))) := by
          rcases hat with h | h | h | h <;> (rw [ha140, h]; first | exact Or.inr ⟨by decide, Or.inl (by decide)⟩ | (refine Or.inl ⟨by decide, ?_⟩; simp +decide [hfill]) | (refine Or.inr ⟨by decide, Or.inr ?_⟩; simp +decide [hfill]))
        refine own_st (B := Tg231.setTop (mkF m 246 #[.val (.int p0), .val (.int p1), .val (.int p2), .val (.int p3), .val (.int v3), .val (.int v9), .val (.int v75), .val (.int v80), .val (.int v84), .val (.ref b88), .val (.int (4 : Int32)), .val (.int (4 : Int32)), .unset, .unset, .unset, .unset, .unset] [(.int v84), (.int (4 : Int32)), (.int v80), (.int (3 : Int32)), (.ref b88)])) (fun target kt => ?_) ?_
        · show Steps p.tables e below (Tg231.setTop (mkF m 234 #[.val (.int p0), .val (.int p1), .val (.int p2), .val (.int p3), .val (.int v3), .val (.int v9), .val (.int v75), .val (.int v80), .val (.int v84), .val (.ref b88), .val (.int (4 : Int32)), .val (.int (4 : Int32)), .unset, .unset, .unset, .unset, .unset] [(.int (own_b ((((2 : Int32) < v80) ∧ ((a140 (2 : Int32).toNatClampNeg) = v84)) ∨ (¬ ((2 : Int32) < v80) ∧ (((2 : Int32) < (v80 + (4 : Int32))) ∨ ((a140 (2 : Int32).toNatClampNeg) = v84))))))])) target
          refine XS.ifNo Xg231.here hx rfl (hb hby at_234) rfl ((if0 _ _).trans (feq (own_bn0 rfl c234)).1) ?_
          show Steps p.tables e below (Tg231.setTop (mkF m 237 #[.val (.int p0), .val (.int p1), .val (.int p2), .val (.int p3), .val (.int v3), .val (.int v9), .val (.int v75), .val (.int v80), .val (.int v84), .val (.ref b88), .val (.int (4 : Int32)), .val (.int (4 : Int32)), .unset, .unset, .unset, .unset, .unset] [])) target
          refine XS.aload Xg231.here hx rfl (hb hby at_237) rfl rfl ?_
          show Steps p.tables e below (Tg231.setTop (mkF m 239 #[.val (.int p0), .val (.int p1), .val (.int p2), .val (.int p3), .val (.int v3), .val (.int v9), .val (.int v75), .val (.int v80), .val (.int v84), .val (.ref b88), .val (.int (4 : Int32)), .val (.int (4 : Int32)), .unset, .unset, .unset, .unset, .unset] [(.ref b88)])) target
          refine XS.iconst Xg231.here hx rfl (hb hby at_239) ?_
          show Steps p.tables e below (Tg231.setTop (mkF m 240 #[.val (.int p0), .val (.int p1), .val (.int p2), .val (.int p3), .val (.int v3), .val (.int v9), .val (.int v75), .val (.int v80), .val (.int v84), .val (.ref b88), .val (.int (4 : Int32)), .val (.int (4 : Int32)), .unset, .unset, .unset, .unset, .unset] [(.int (3 : Int32)), (.ref b88)])) target
          refine XS.iload Xg231.here hx rfl (hb hby at_240) rfl ?_
          show Steps p.tables e below (Tg231.setTop (mkF m 242 #[.val (.int p0), .val (.int p1), .val (.int p2), .val (.int p3), .val (.int v3), .val (.int v9), .val (.int v75), .val (.int v80), .val (.int v84), .val (.ref b88), .val (.int (4 : Int32)), .val (.int (4 : Int32)), .unset, .unset, .unset, .unset, .unset] [(.int v80), (.int (3 : Int32)), (.ref b88)])) target
          refine XS.iload Xg231.here hx rfl (hb hby at_242) rfl ?_
          show Steps p.tables e below (Tg231.setTop (mkF m 244 #[.val (.int p0), .val (.int p1), .val (.int p2), .val (.int p3), .val (.int v3), .val (.int v9), .val (.int v75), .val (.int v80), .val (.int v84), .val (.ref b88), .val (.int (4 : Int32)), .val (.int (4 : Int32)), .unset, .unset, .unset, .unset, .unset] [(.int (4 : Int32)), (.int v80), (.int (3 : Int32)), (.ref b88)])) target
          refine XS.iload Xg231.here hx rfl (hb hby at_244) rfl ?_
          exact kt
        obtain ⟨_, _, ⟨Tg246, Lg246, kg246, ng246⟩, -, Xg246, ⟨Lcg246, hQg246, lg246, yg246, zg246⟩, stg246⟩ := Jvm.LawKit.callS Xg231 hx (y := (⟨"com/example/psyche/psyche/XmlCharsEncodePinLaw", "same", "([BIIIB)Z"⟩ : MethodName)) hown (mvT hZ (hw _ (List.mem_of_getElem? (i := 9) rfl))) (mvT hZ (hw _ (List.mem_of_getElem? (i := 10) rfl))) (mvT hZ (hw _ (List.mem_of_getElem? (i := 11) rfl))) (mvT hZ (hw _ (List.mem_of_getElem? (i := 12) rfl))) (by decide) (backOf (W := 0) (own_rm2 l Z a0 hw [] b88 (3 : Int32) v80 (4 : Int32) v84 a140 Tg140.heap n0 Zz_9 F_18 (show ¬ (3 : Int32) < 0 ∧ (3 : Int32).toNatClampNeg < 8 from (by decide))) hZ (hw _ (List.mem_of_getElem? (i := 12) rfl)) (hw _ (List.mem_of_getElem? (i := 11) rfl)) (by decide) (by decide)) (g := (mkF m 246 #[.val (.int p0), .val (.int p1), .val (.int p2), .val (.int p3), .val (.int v3), .val (.int v9), .val (.int v75), .val (.int v80), .val (.int v84), .val (.ref b88), .val (.int (4 : Int32)), .val (.int (4 : Int32)), .unset, .unset, .unset, .unset, .unset] [(.int v84), (.int (4 : Int32)), (.int v80), (.int (3 : Int32)), (.ref b88)])) rfl (by rw [hml]; rfl) (argsL := [(.ref b88), (.int (3 : Int32)), (.int v80), (.int (4 : Int32)), (.int v84)]) (rest := []) (lenOf own_pd1 rfl) rfl (by show 2 * 0 + _ ≤ _; exact Nat.le_of_eq rfl) (hb hby at_246) (fun _ _ => ⟨rfl, eg231, (by decide : 1 + 0 ≤ _), (by decide : 8 + 0 ≤ _)⟩)
        dsimp only [Pt.U, Pt.locs, Pt.cells, Pt.slots] at Xg246 lg246 yg246 zg246 stg246 hQg246
        subst lg246 yg246 zg246
        obtain ⟨rfl, Ng246q, eg246⟩ := hQg246
        have Ng246 := Fr.app Ng231 Ng246q
        refine own_st (stg246) ?_
        have c249 : (((3 : Int32) < v80) ∧ ((a140 (3 : Int32).toNatClampNeg) = v84)) ∨ (¬ ((3 : Int32) < v80) ∧ (((3 : Int32) < (v80 + (4 : Int32))) ∨ ((a140 (3 : Int32).toNatClampNeg) = v84))) := by
          rcases hat with h | h | h | h <;> (rw [ha140, h]; first | exact Or.inr ⟨by decide, Or.inl (by decide)⟩ | (refine Or.inl ⟨by decide, ?_⟩; simp +decide [hfill]) | (refine Or.inr ⟨by decide, Or.inr ?_⟩; simp +decide [hfill]))
        refine own_st (B := Tg246.setTop (mkF m 261 #[.val (.int p0), .val (.int p1), .val (.int p2), .val (.int p3), .val (.int v3), .val (.int v9), .val (.int v75), .val (.int v80), .val (.int v84), .val (.ref b88), .val (.int (4 : Int32)), .val (.int (4 : Int32)), .unset, .unset, .unset, .unset, .unset] [(.int v84), (.int (4 : Int32)), (.int v80), (.int (4 : Int32)), (.ref b88)])) (fun target kt => ?_) ?_
        · show Steps p.tables e below (Tg246.setTop (mkF m 249 #[.val (.int p0), .val (.int p1), .val (.int p2), .val (.int p3), .val (.int v3), .val (.int v9), .val (.int v75), .val (.int v80), .val (.int v84), .val (.ref b88), .val (.int (4 : Int32)), .val (.int (4 : Int32)), .unset, .unset, .unset, .unset, .unset] [(.int (own_b ((((3 : Int32) < v80) ∧ ((a140 (3 : Int32).toNatClampNeg) = v84)) ∨ (¬ ((3 : Int32) < v80) ∧ (((3 : Int32) < (v80 + (4 : Int32))) ∨ ((a140 (3 : Int32).toNatClampNeg) = v84))))))])) target
          refine XS.ifNo Xg246.here hx rfl (hb hby at_249) rfl ((if0 _ _).trans (feq (own_bn0 rfl c249)).1) ?_
          show Steps p.tables e below (Tg246.setTop (mkF m 252 #[.val (.int p0), .val (.int p1), .val (.int p2), .val (.int p3), .val (.int v3), .val (.int v9), .val (.int v75), .val (.int v80), .val (.int v84), .val (.ref b88), .val (.int (4 : Int32)), .val (.int (4 : Int32)), .unset, .unset, .unset, .unset, .unset] [])) target
          refine XS.aload Xg246.here hx rfl (hb hby at_252) rfl rfl ?_
          show Steps p.tables e below (Tg246.setTop (mkF m 254 #[.val (.int p0), .val (.int p1), .val (.int p2), .val (.int p3), .val (.int v3), .val (.int v9), .val (.int v75), .val (.int v80), .val (.int v84), .val (.ref b88), .val (.int (4 : Int32)), .val (.int (4 : Int32)), .unset, .unset, .unset, .unset, .unset] [(.ref b88)])) target
          refine XS.iconst Xg246.here hx rfl (hb hby at_254) ?_
          show Steps p.tables e below (Tg246.setTop (mkF m 255 #[.val (.int p0), .val (.int p1), .val (.int p2), .val (.int p3), .val (.int v3), .val (.int v9), .val (.int v75), .val (.int v80), .val (.int v84), .val (.ref b88), .val (.int (4 : Int32)), .val (.int (4 : Int32)), .unset, .unset, .unset, .unset, .unset] [(.int (4 : Int32)), (.ref b88)])) target
          refine XS.iload Xg246.here hx rfl (hb hby at_255) rfl ?_
          show Steps p.tables e below (Tg246.setTop (mkF m 257 #[.val (.int p0), .val (.int p1), .val (.int p2), .val (.int p3), .val (.int v3), .val (.int v9), .val (.int v75), .val (.int v80), .val (.int v84), .val (.ref b88), .val (.int (4 : Int32)), .val (.int (4 : Int32)), .unset, .unset, .unset, .unset, .unset] [(.int v80), (.int (4 : Int32)), (.ref b88)])) target
          refine XS.iload Xg246.here hx rfl (hb hby at_257) rfl ?_
          show Steps p.tables e below (Tg246.setTop (mkF m 259 #[.val (.int p0), .val (.int p1), .val (.int p2), .val (.int p3), .val (.int v3), .val (.int v9), .val (.int v75), .val (.int v80), .val (.int v84), .val (.ref b88), .val (.int (4 : Int32)), .val (.int (4 : Int32)), .unset, .unset, .unset, .unset, .unset] [(.int (4 : Int32)), (.int v80), (.int (4 : Int32)), (.ref b88)])) target
          refine XS.iload Xg246.here hx rfl (hb hby at_259) rfl ?_
          exact kt
        obtain ⟨_, _, ⟨Tg261, Lg261, kg261, ng261⟩, -, Xg261, ⟨Lcg261, hQg261, lg261, yg261, zg261⟩, stg261⟩ := Jvm.LawKit.callS Xg246 hx (y := (⟨"com/example/psyche/psyche/XmlCharsEncodePinLaw", "same", "([BIIIB)Z"⟩ : MethodName)) hown (mvT hZ (hw _ (List.mem_of_getElem? (i := 9) rfl))) (mvT hZ (hw _ (List.mem_of_getElem? (i := 10) rfl))) (mvT hZ (hw _ (List.mem_of_getElem? (i := 11) rfl))) (mvT hZ (hw _ (List.mem_of_getElem? (i := 12) rfl))) (by decide) (backOf (W := 0) (own_rm2 l Z a0 hw [] b88 (4 : Int32) v80 (4 : Int32) v84 a140 Tg140.heap n0 Zz_9 F_18 (show ¬ (4 : Int32) < 0 ∧ (4 : Int32).toNatClampNeg < 8 from (by decide))) hZ (hw _ (List.mem_of_getElem? (i := 12) rfl)) (hw _ (List.mem_of_getElem? (i := 11) rfl)) (by decide) (by decide)) (g := (mkF m 261 #[.val (.int p0), .val (.int p1), .val (.int p2), .val (.int p3), .val (.int v3), .val (.int v9), .val (.int v75), .val (.int v80), .val (.int v84), .val (.ref b88), .val (.int (4 : Int32)), .val (.int (4 : Int32)), .unset, .unset, .unset, .unset, .unset] [(.int v84), (.int (4 : Int32)), (.int v80), (.int (4 : Int32)), (.ref b88)])) rfl (by rw [hml]; rfl) (argsL := [(.ref b88), (.int (4 : Int32)), (.int v80), (.int (4 : Int32)), (.int v84)]) (rest := []) (lenOf own_pd1 rfl) rfl (by show 2 * 0 + _ ≤ _; exact Nat.le_of_eq rfl) (hb hby at_261) (fun _ _ => ⟨rfl, eg246, (by decide : 1 + 0 ≤ _), (by decide : 8 + 0 ≤ _)⟩)
        dsimp only [Pt.U, Pt.locs, Pt.cells, Pt.slots] at Xg261 lg261 yg261 zg261 stg261 hQg261
        subst lg261 yg261 zg261
        obtain ⟨rfl, Ng261q, eg261⟩ := hQg261
        have Ng261 := Fr.app Ng246 Ng261q
        refine own_st (stg261) ?_
        have c264 : (((4 : Int32) < v80) ∧ ((a140 (4 : Int32).toNatClampNeg) = v84)) ∨ (¬ ((4 : Int32) < v80) ∧ (((4 : Int32) < (v80 + (4 : Int32))) ∨ ((a140 (4 : Int32).toNatClampNeg) = v84))) := by
          rcases hat with h | h | h | h <;> (rw [ha140, h]; first | exact Or.inr ⟨by decide, Or.inl (by decide)⟩ | (refine Or.inl ⟨by decide, ?_⟩; simp +decide [hfill]) | (refine Or.inr ⟨by decide, Or.inr ?_⟩; simp +decide [hfill]))
        refine own_st (B := Tg261.setTop (mkF m 276 #[.val (.int p0), .val (.int p1), .val (.int p2), .val (.int p3), .val (.int v3), .val (.int v9), .val (.int v75), .val (.int v80), .val (.int v84), .val (.ref b88), .val (.int (4 : Int32)), .val (.int (4 : Int32)), .unset, .unset, .unset, .unset, .unset] [(.int v84), (.int (4 : Int32)), (.int v80), (.int (5 : Int32)), (.ref b88)])) (fun target kt => ?_) ?_
        · show Steps p.tables e below (Tg261.setTop (mkF m 264 #[.val (.int p0), .val (.int p1), .val (.int p2), .val (.int p3), .val (.int v3), .val (.int v9), .val (.int v75), .val (.int v80), .val (.int v84), .val (.ref b88), .val (.int (4 : Int32)), .val (.int (4 : Int32)), .unset, .unset, .unset, .unset, .unset] [(.int (own_b ((((4 : Int32) < v80) ∧ ((a140 (4 : Int32).toNatClampNeg) = v84)) ∨ (¬ ((4 : Int32) < v80) ∧ (((4 : Int32) < (v80 + (4 : Int32))) ∨ ((a140 (4 : Int32).toNatClampNeg) = v84))))))])) target
          refine XS.ifNo Xg261.here hx rfl (hb hby at_264) rfl ((if0 _ _).trans (feq (own_bn0 rfl c264)).1) ?_
          show Steps p.tables e below (Tg261.setTop (mkF m 267 #[.val (.int p0), .val (.int p1), .val (.int p2), .val (.int p3), .val (.int v3), .val (.int v9), .val (.int v75), .val (.int v80), .val (.int v84), .val (.ref b88), .val (.int (4 : Int32)), .val (.int (4 : Int32)), .unset, .unset, .unset, .unset, .unset] [])) target
          refine XS.aload Xg261.here hx rfl (hb hby at_267) rfl rfl ?_
          show Steps p.tables e below (Tg261.setTop (mkF m 269 #[.val (.int p0), .val (.int p1), .val (.int p2), .val (.int p3), .val (.int v3), .val (.int v9), .val (.int v75), .val (.int v80), .val (.int v84), .val (.ref b88), .val (.int (4 : Int32)), .val (.int (4 : Int32)), .unset, .unset, .unset, .unset, .unset] [(.ref b88)])) target
          refine XS.iconst Xg261.here hx rfl (hb hby at_269) ?_
          show Steps p.tables e below (Tg261.setTop (mkF m 270 #[.val (.int p0), .val (.int p1), .val (.int p2), .val (.int p3), .val (.int v3), .val (.int v9), .val (.int v75), .val (.int v80), .val (.int v84), .val (.ref b88), .val (.int (4 : Int32)), .val (.int (4 : Int32)), .unset, .unset, .unset, .unset, .unset] [(.int (5 : Int32)), (.ref b88)])) target
          refine XS.iload Xg261.here hx rfl (hb hby at_270) rfl ?_
          show Steps p.tables e below (Tg261.setTop (mkF m 272 #[.val (.int p0), .val (.int p1), .val (.int p2), .val (.int p3), .val (.int v3), .val (.int v9), .val (.int v75), .val (.int v80), .val (.int v84), .val (.ref b88), .val (.int (4 : Int32)), .val (.int (4 : Int32)), .unset, .unset, .unset, .unset, .unset] [(.int v80), (.int (5 : Int32)), (.ref b88)])) target
          refine XS.iload Xg261.here hx rfl (hb hby at_272) rfl ?_
          show Steps p.tables e below (Tg261.setTop (mkF m 274 #[.val (.int p0), .val (.int p1), .val (.int p2), .val (.int p3), .val (.int v3), .val (.int v9), .val (.int v75), .val (.int v80), .val (.int v84), .val (.ref b88), .val (.int (4 : Int32)), .val (.int (4 : Int32)), .unset, .unset, .unset, .unset, .unset] [(.int (4 : Int32)), (.int v80), (.int (5 : Int32)), (.ref b88)])) target
          refine XS.iload Xg261.here hx rfl (hb hby at_274) rfl ?_
          exact kt
        obtain ⟨_, _, ⟨Tg276, Lg276, kg276, ng276⟩, -, Xg276, ⟨Lcg276, hQg276, lg276, yg276, zg276⟩, stg276⟩ := Jvm.LawKit.callS Xg261 hx (y := (⟨"com/example/psyche/psyche/XmlCharsEncodePinLaw", "same", "([BIIIB)Z"⟩ : MethodName)) hown (mvT hZ (hw _ (List.mem_of_getElem? (i := 9) rfl))) (mvT hZ (hw _ (List.mem_of_getElem? (i := 10) rfl))) (mvT hZ (hw _ (List.mem_of_getElem? (i := 11) rfl))) (mvT hZ (hw _ (List.mem_of_getElem? (i := 12) rfl))) (by decide) (backOf (W := 0) (own_rm2 l Z a0 hw [] b88 (5 : Int32) v80 (4 : Int32) v84 a140 Tg140.heap n0 Zz_9 F_18 (show ¬ (5 : Int32) < 0 ∧ (5 : Int32).toNatClampNeg < 8 from (by decide))) hZ (hw _ (List.mem_of_getElem? (i := 12) rfl)) (hw _ (List.mem_of_getElem? (i := 11) rfl)) (by decide) (by decide)) (g := (mkF m 276 #[.val (.int p0), .val (.int p1), .val (.int p2), .val (.int p3), .val (.int v3), .val (.int v9), .val (.int v75), .val (.int v80), .val (.int v84), .val (.ref b88), .val (.int (4 : Int32)), .val (.int (4 : Int32)), .unset, .unset, .unset, .unset, .unset] [(.int v84), (.int (4 : Int32)), (.int v80), (.int (5 : Int32)), (.ref b88)])) rfl (by rw [hml]; rfl) (argsL := [(.ref b88), (.int (5 : Int32)), (.int v80), (.int (4 : Int32)), (.int v84)]) (rest := []) (lenOf own_pd1 rfl) rfl (by show 2 * 0 + _ ≤ _; exact Nat.le_of_eq rfl) (hb hby at_276) (fun _ _ => ⟨rfl, eg261, (by decide : 1 + 0 ≤ _), (by decide : 8 + 0 ≤ _)⟩)
        dsimp only [Pt.U, Pt.locs, Pt.cells, Pt.slots] at Xg276 lg276 yg276 zg276 stg276 hQg276
        subst lg276 yg276 zg276
        obtain ⟨rfl, Ng276q, eg276⟩ := hQg276
        have Ng276 := Fr.app Ng261 Ng276q
        refine own_st (stg276) ?_
        have c279 : (((5 : Int32) < v80) ∧ ((a140 (5 : Int32).toNatClampNeg) = v84)) ∨ (¬ ((5 : Int32) < v80) ∧ (((5 : Int32) < (v80 + (4 : Int32))) ∨ ((a140 (5 : Int32).toNatClampNeg) = v84))) := by
          rcases hat with h | h | h | h <;> (rw [ha140, h]; first | exact Or.inr ⟨by decide, Or.inl (by decide)⟩ | (refine Or.inl ⟨by decide, ?_⟩; simp +decide [hfill]) | (refine Or.inr ⟨by decide, Or.inr ?_⟩; simp +decide [hfill]))
        refine own_st (B := Tg276.setTop (mkF m 292 #[.val (.int p0), .val (.int p1), .val (.int p2), .val (.int p3), .val (.int v3), .val (.int v9), .val (.int v75), .val (.int v80), .val (.int v84), .val (.ref b88), .val (.int (4 : Int32)), .val (.int (4 : Int32)), .unset, .unset, .unset, .unset, .unset] [(.int v84), (.int (4 : Int32)), (.int v80), (.int (6 : Int32)), (.ref b88)])) (fun target kt => ?_) ?_
        · show Steps p.tables e below (Tg276.setTop (mkF m 279 #[.val (.int p0), .val (.int p1), .val (.int p2), .val (.int p3), .val (.int v3), .val (.int v9), .val (.int v75), .val (.int v80), .val (.int v84), .val (.ref b88), .val (.int (4 : Int32)), .val (.int (4 : Int32)), .unset, .unset, .unset, .unset, .unset] [(.int (own_b ((((5 : Int32) < v80) ∧ ((a140 (5 : Int32).toNatClampNeg) = v84)) ∨ (¬ ((5 : Int32) < v80) ∧ (((5 : Int32) < (v80 + (4 : Int32))) ∨ ((a140 (5 : Int32).toNatClampNeg) = v84))))))])) target
          refine XS.ifNo Xg276.here hx rfl (hb hby at_279) rfl ((if0 _ _).trans (feq (own_bn0 rfl c279)).1) ?_
          show Steps p.tables e below (Tg276.setTop (mkF m 282 #[.val (.int p0), .val (.int p1), .val (.int p2), .val (.int p3), .val (.int v3), .val (.int v9), .val (.int v75), .val (.int v80), .val (.int v84), .val (.ref b88), .val (.int (4 : Int32)), .val (.int (4 : Int32)), .unset, .unset, .unset, .unset, .unset] [])) target
          refine XS.aload Xg276.here hx rfl (hb hby at_282) rfl rfl ?_
          show Steps p.tables e below (Tg276.setTop (mkF m 284 #[.val (.int p0), .val (.int p1), .val (.int p2), .val (.int p3), .val (.int v3), .val (.int v9), .val (.int v75), .val (.int v80), .val (.int v84), .val (.ref b88), .val (.int (4 : Int32)), .val (.int (4 : Int32)), .unset, .unset, .unset, .unset, .unset] [(.ref b88)])) target
          refine XS.bipush Xg276.here hx rfl (hb hby at_284) ?_
          show Steps p.tables e below (Tg276.setTop (mkF m 286 #[.val (.int p0), .val (.int p1), .val (.int p2), .val (.int p3), .val (.int v3), .val (.int v9), .val (.int v75), .val (.int v80), .val (.int v84), .val (.ref b88), .val (.int (4 : Int32)), .val (.int (4 : Int32)), .unset, .unset, .unset, .unset, .unset] [(.int (6 : Int32)), (.ref b88)])) target
          refine XS.iload Xg276.here hx rfl (hb hby at_286) rfl ?_
          show Steps p.tables e below (Tg276.setTop (mkF m 288 #[.val (.int p0), .val (.int p1), .val (.int p2), .val (.int p3), .val (.int v3), .val (.int v9), .val (.int v75), .val (.int v80), .val (.int v84), .val (.ref b88), .val (.int (4 : Int32)), .val (.int (4 : Int32)), .unset, .unset, .unset, .unset, .unset] [(.int v80), (.int (6 : Int32)), (.ref b88)])) target
          refine XS.iload Xg276.here hx rfl (hb hby at_288) rfl ?_
          show Steps p.tables e below (Tg276.setTop (mkF m 290 #[.val (.int p0), .val (.int p1), .val (.int p2), .val (.int p3), .val (.int v3), .val (.int v9), .val (.int v75), .val (.int v80), .val (.int v84), .val (.ref b88), .val (.int (4 : Int32)), .val (.int (4 : Int32)), .unset, .unset, .unset, .unset, .unset] [(.int (4 : Int32)), (.int v80), (.int (6 : Int32)), (.ref b88)])) target
          refine XS.iload Xg276.here hx rfl (hb hby at_290) rfl ?_
          exact kt
        obtain ⟨_, _, ⟨Tg292, Lg292, kg292, ng292⟩, -, Xg292, ⟨Lcg292, hQg292, lg292, yg292, zg292⟩, stg292⟩ := Jvm.LawKit.callS Xg276 hx (y := (⟨"com/example/psyche/psyche/XmlCharsEncodePinLaw", "same", "([BIIIB)Z"⟩ : MethodName)) hown (mvT hZ (hw _ (List.mem_of_getElem? (i := 9) rfl))) (mvT hZ (hw _ (List.mem_of_getElem? (i := 10) rfl))) (mvT hZ (hw _ (List.mem_of_getElem? (i := 11) rfl))) (mvT hZ (hw _ (List.mem_of_getElem? (i := 12) rfl))) (by decide) (backOf (W := 0) (own_rm2 l Z a0 hw [] b88 (6 : Int32) v80 (4 : Int32) v84 a140 Tg140.heap n0 Zz_9 F_18 (show ¬ (6 : Int32) < 0 ∧ (6 : Int32).toNatClampNeg < 8 from (by decide))) hZ (hw _ (List.mem_of_getElem? (i := 12) rfl)) (hw _ (List.mem_of_getElem? (i := 11) rfl)) (by decide) (by decide)) (g := (mkF m 292 #[.val (.int p0), .val (.int p1), .val (.int p2), .val (.int p3), .val (.int v3), .val (.int v9), .val (.int v75), .val (.int v80), .val (.int v84), .val (.ref b88), .val (.int (4 : Int32)), .val (.int (4 : Int32)), .unset, .unset, .unset, .unset, .unset] [(.int v84), (.int (4 : Int32)), (.int v80), (.int (6 : Int32)), (.ref b88)])) rfl (by rw [hml]; rfl) (argsL := [(.ref b88), (.int (6 : Int32)), (.int v80), (.int (4 : Int32)), (.int v84)]) (rest := []) (lenOf own_pd1 rfl) rfl (by show 2 * 0 + _ ≤ _; exact Nat.le_of_eq rfl) (hb hby at_292) (fun _ _ => ⟨rfl, eg276, (by decide : 1 + 0 ≤ _), (by decide : 8 + 0 ≤ _)⟩)
        dsimp only [Pt.U, Pt.locs, Pt.cells, Pt.slots] at Xg292 lg292 yg292 zg292 stg292 hQg292
        subst lg292 yg292 zg292
        obtain ⟨rfl, Ng292q, eg292⟩ := hQg292
        have Ng292 := Fr.app Ng276 Ng292q
        refine own_st (stg292) ?_
        have c295 : (((6 : Int32) < v80) ∧ ((a140 (6 : Int32).toNatClampNeg) = v84)) ∨ (¬ ((6 : Int32) < v80) ∧ (((6 : Int32) < (v80 + (4 : Int32))) ∨ ((a140 (6 : Int32).toNatClampNeg) = v84))) := by
          rcases hat with h | h | h | h <;> (rw [ha140, h]; first | exact Or.inr ⟨by decide, Or.inl (by decide)⟩ | (refine Or.inl ⟨by decide, ?_⟩; simp +decide [hfill]) | (refine Or.inr ⟨by decide, Or.inr ?_⟩; simp +decide [hfill]))
        refine own_st (B := Tg292.setTop (mkF m 308 #[.val (.int p0), .val (.int p1), .val (.int p2), .val (.int p3), .val (.int v3), .val (.int v9), .val (.int v75), .val (.int v80), .val (.int v84), .val (.ref b88), .val (.int (4 : Int32)), .val (.int (4 : Int32)), .unset, .unset, .unset, .unset, .unset] [(.int v84), (.int (4 : Int32)), (.int v80), (.int (7 : Int32)), (.ref b88)])) (fun target kt => ?_) ?_
        · show Steps p.tables e below (Tg292.setTop (mkF m 295 #[.val (.int p0), .val (.int p1), .val (.int p2), .val (.int p3), .val (.int v3), .val (.int v9), .val (.int v75), .val (.int v80), .val (.int v84), .val (.ref b88), .val (.int (4 : Int32)), .val (.int (4 : Int32)), .unset, .unset, .unset, .unset, .unset] [(.int (own_b ((((6 : Int32) < v80) ∧ ((a140 (6 : Int32).toNatClampNeg) = v84)) ∨ (¬ ((6 : Int32) < v80) ∧ (((6 : Int32) < (v80 + (4 : Int32))) ∨ ((a140 (6 : Int32).toNatClampNeg) = v84))))))])) target
          refine XS.ifNo Xg292.here hx rfl (hb hby at_295) rfl ((if0 _ _).trans (feq (own_bn0 rfl c295)).1) ?_
          show Steps p.tables e below (Tg292.setTop (mkF m 298 #[.val (.int p0), .val (.int p1), .val (.int p2), .val (.int p3), .val (.int v3), .val (.int v9), .val (.int v75), .val (.int v80), .val (.int v84), .val (.ref b88), .val (.int (4 : Int32)), .val (.int (4 : Int32)), .unset, .unset, .unset, .unset, .unset] [])) target
          refine XS.aload Xg292.here hx rfl (hb hby at_298) rfl rfl ?_
          show Steps p.tables e below (Tg292.setTop (mkF m 300 #[.val (.int p0), .val (.int p1), .val (.int p2), .val (.int p3), .val (.int v3), .val (.int v9), .val (.int v75), .val (.int v80), .val (.int v84), .val (.ref b88), .val (.int (4 : Int32)), .val (.int (4 : Int32)), .unset, .unset, .unset, .unset, .unset] [(.ref b88)])) target
          refine XS.bipush Xg292.here hx rfl (hb hby at_300) ?_
          show Steps p.tables e below (Tg292.setTop (mkF m 302 #[.val (.int p0), .val (.int p1), .val (.int p2), .val (.int p3), .val (.int v3), .val (.int v9), .val (.int v75), .val (.int v80), .val (.int v84), .val (.ref b88), .val (.int (4 : Int32)), .val (.int (4 : Int32)), .unset, .unset, .unset, .unset, .unset] [(.int (7 : Int32)), (.ref b88)])) target
          refine XS.iload Xg292.here hx rfl (hb hby at_302) rfl ?_
          show Steps p.tables e below (Tg292.setTop (mkF m 304 #[.val (.int p0), .val (.int p1), .val (.int p2), .val (.int p3), .val (.int v3), .val (.int v9), .val (.int v75), .val (.int v80), .val (.int v84), .val (.ref b88), .val (.int (4 : Int32)), .val (.int (4 : Int32)), .unset, .unset, .unset, .unset, .unset] [(.int v80), (.int (7 : Int32)), (.ref b88)])) target
          refine XS.iload Xg292.here hx rfl (hb hby at_304) rfl ?_
          show Steps p.tables e below (Tg292.setTop (mkF m 306 #[.val (.int p0), .val (.int p1), .val (.int p2), .val (.int p3), .val (.int v3), .val (.int v9), .val (.int v75), .val (.int v80), .val (.int v84), .val (.ref b88), .val (.int (4 : Int32)), .val (.int (4 : Int32)), .unset, .unset, .unset, .unset, .unset] [(.int (4 : Int32)), (.int v80), (.int (7 : Int32)), (.ref b88)])) target
          refine XS.iload Xg292.here hx rfl (hb hby at_306) rfl ?_
          exact kt
        obtain ⟨_, _, ⟨Tg308, Lg308, kg308, ng308⟩, -, Xg308, ⟨Lcg308, hQg308, lg308, yg308, zg308⟩, stg308⟩ := Jvm.LawKit.callS Xg292 hx (y := (⟨"com/example/psyche/psyche/XmlCharsEncodePinLaw", "same", "([BIIIB)Z"⟩ : MethodName)) hown (mvT hZ (hw _ (List.mem_of_getElem? (i := 9) rfl))) (mvT hZ (hw _ (List.mem_of_getElem? (i := 10) rfl))) (mvT hZ (hw _ (List.mem_of_getElem? (i := 11) rfl))) (mvT hZ (hw _ (List.mem_of_getElem? (i := 12) rfl))) (by decide) (backOf (W := 0) (own_rm2 l Z a0 hw [] b88 (7 : Int32) v80 (4 : Int32) v84 a140 Tg140.heap n0 Zz_9 F_18 (show ¬ (7 : Int32) < 0 ∧ (7 : Int32).toNatClampNeg < 8 from (by decide))) hZ (hw _ (List.mem_of_getElem? (i := 12) rfl)) (hw _ (List.mem_of_getElem? (i := 11) rfl)) (by decide) (by decide)) (g := (mkF m 308 #[.val (.int p0), .val (.int p1), .val (.int p2), .val (.int p3), .val (.int v3), .val (.int v9), .val (.int v75), .val (.int v80), .val (.int v84), .val (.ref b88), .val (.int (4 : Int32)), .val (.int (4 : Int32)), .unset, .unset, .unset, .unset, .unset] [(.int v84), (.int (4 : Int32)), (.int v80), (.int (7 : Int32)), (.ref b88)])) rfl (by rw [hml]; rfl) (argsL := [(.ref b88), (.int (7 : Int32)), (.int v80), (.int (4 : Int32)), (.int v84)]) (rest := []) (lenOf own_pd1 rfl) rfl (by show 2 * 0 + _ ≤ _; exact Nat.le_of_eq rfl) (hb hby at_308) (fun _ _ => ⟨rfl, eg292, (by decide : 1 + 0 ≤ _), (by decide : 8 + 0 ≤ _)⟩)
        dsimp only [Pt.U, Pt.locs, Pt.cells, Pt.slots] at Xg308 lg308 yg308 zg308 stg308 hQg308
        subst lg308 yg308 zg308
        obtain ⟨rfl, Ng308q, eg308⟩ := hQg308
        have Ng308 := Fr.app Ng292 Ng308q
        refine own_st (stg308) ?_
        have c311 : (((7 : Int32) < v80) ∧ ((a140 (7 : Int32).toNatClampNeg) = v84)) ∨ (¬ ((7 : Int32) < v80) ∧ (((7 : Int32) < (v80 + (4 : Int32))) ∨ ((a140 (7 : Int32).toNatClampNeg) = v84))) := by
          rcases hat with h | h | h | h <;> (rw [ha140, h]; first | exact Or.inr ⟨by decide, Or.inl (by decide)⟩ | (refine Or.inl ⟨by decide, ?_⟩; simp +decide [hfill]) | (refine Or.inr ⟨by decide, Or.inr ?_⟩; simp +decide [hfill]))
        refine own_st (B := Tg308.setTop (mkF m 328 #[.val (.int p0), .val (.int p1), .val (.int p2), .val (.int p3), .val (.int v3), .val (.int v9), .val (.int v75), .val (.int v80), .val (.int v84), .val (.ref b88), .val (.int (4 : Int32)), .val (.int (4 : Int32)), .val (.int (1 : Int32)), .unset, .unset, .unset, .unset] [])) (fun target kt => ?_) ?_
        · show Steps p.tables e below (Tg308.setTop (mkF m 311 #[.val (.int p0), .val (.int p1), .val (.int p2), .val (.int p3), .val (.int v3), .val (.int v9), .val (.int v75), .val (.int v80), .val (.int v84), .val (.ref b88), .val (.int (4 : Int32)), .val (.int (4 : Int32)), .unset, .unset, .unset, .unset, .unset] [(.int (own_b ((((7 : Int32) < v80) ∧ ((a140 (7 : Int32).toNatClampNeg) = v84)) ∨ (¬ ((7 : Int32) < v80) ∧ (((7 : Int32) < (v80 + (4 : Int32))) ∨ ((a140 (7 : Int32).toNatClampNeg) = v84))))))])) target
          refine XS.ifNo Xg308.here hx rfl (hb hby at_311) rfl ((if0 _ _).trans (feq (own_bn0 rfl c311)).1) ?_
          show Steps p.tables e below (Tg308.setTop (mkF m 314 #[.val (.int p0), .val (.int p1), .val (.int p2), .val (.int p3), .val (.int v3), .val (.int v9), .val (.int v75), .val (.int v80), .val (.int v84), .val (.ref b88), .val (.int (4 : Int32)), .val (.int (4 : Int32)), .unset, .unset, .unset, .unset, .unset] [])) target
          refine XS.iconst Xg308.here hx rfl (hb hby at_314) ?_
          show Steps p.tables e below (Tg308.setTop (mkF m 315 #[.val (.int p0), .val (.int p1), .val (.int p2), .val (.int p3), .val (.int v3), .val (.int v9), .val (.int v75), .val (.int v80), .val (.int v84), .val (.ref b88), .val (.int (4 : Int32)), .val (.int (4 : Int32)), .unset, .unset, .unset, .unset, .unset] [(.int (1 : Int32))])) target
          refine XS.goto Xg308.here hx rfl (pc0 := 315) (pc' := 319) rfl (hb hby at_315) (by decide) (by decide) ?_
          show Steps p.tables e below (Tg308.setTop (mkF m 319 #[.val (.int p0), .val (.int p1), .val (.int p2), .val (.int p3), .val (.int v3), .val (.int v9), .val (.int v75), .val (.int v80), .val (.int v84), .val (.ref b88), .val (.int (4 : Int32)), .val (.int (4 : Int32)), .unset, .unset, .unset, .unset, .unset] [(.int (1 : Int32))])) target
          refine XS.istore Xg308.here hx rfl (hb hby at_319) rfl (l' := #[.val (.int p0), .val (.int p1), .val (.int p2), .val (.int p3), .val (.int v3), .val (.int v9), .val (.int v75), .val (.int v80), .val (.int v84), .val (.ref b88), .val (.int (4 : Int32)), .val (.int (4 : Int32)), .val (.int (1 : Int32)), .unset, .unset, .unset, .unset]) rfl ?_
          show Steps p.tables e below (Tg308.setTop (mkF m 321 #[.val (.int p0), .val (.int p1), .val (.int p2), .val (.int p3), .val (.int v3), .val (.int v9), .val (.int v75), .val (.int v80), .val (.int v84), .val (.ref b88), .val (.int (4 : Int32)), .val (.int (4 : Int32)), .val (.int (1 : Int32)), .unset, .unset, .unset, .unset] [])) target
          refine XS.iload Xg308.here hx rfl (hb hby at_321) rfl ?_
          show Steps p.tables e below (Tg308.setTop (mkF m 323 #[.val (.int p0), .val (.int p1), .val (.int p2), .val (.int p3), .val (.int v3), .val (.int v9), .val (.int v75), .val (.int v80), .val (.int v84), .val (.ref b88), .val (.int (4 : Int32)), .val (.int (4 : Int32)), .val (.int (1 : Int32)), .unset, .unset, .unset, .unset] [(.int (1 : Int32))])) target
          refine XS.ifYes Xg308.here hx rfl (pc0 := 323) (pc' := 328) rfl (hb hby at_323) rfl ((if0 _ _).trans (feq (by decide : ¬ ((1 : Int32) = (0 : Int32)))).2) (by decide) (by decide) ?_
          exact kt
        have hin := own_in v80 hat
        have hb0 : a140 (v80).toNatClampNeg = nar .byte (((240 : Int32) ||| (v75 >>> ((18 : Int32) &&& 31))).toInt8.toInt32) := by
          rw [ha140]
          rcases hat with h | h | h | h <;> (rw [h]; simp +decide)
        have hb1 : a140 (v80 + (1 : Int32)).toNatClampNeg = nar .byte (((128 : Int32) ||| ((v75 >>> ((12 : Int32) &&& 31)) &&& (63 : Int32))).toInt8.toInt32) := by
          rw [ha140]
          rcases hat with h | h | h | h <;> (rw [h]; simp +decide)
        have hb2 : a140 (v80 + (2 : Int32)).toNatClampNeg = nar .byte (((128 : Int32) ||| ((v75 >>> ((6 : Int32) &&& 31)) &&& (63 : Int32))).toInt8.toInt32) := by
          rw [ha140]
          rcases hat with h | h | h | h <;> (rw [h]; simp +decide)
        have hb3 : a140 (v80 + (3 : Int32)).toNatClampNeg = nar .byte (((128 : Int32) ||| (v75 &&& (63 : Int32))).toInt8.toInt32) := by
          rw [ha140]
          rcases hat with h | h | h | h <;> (rw [h]; simp +decide)
        refine own_st (B := Tg308.setTop (mkF m 332 #[.val (.int p0), .val (.int p1), .val (.int p2), .val (.int p3), .val (.int v3), .val (.int v9), .val (.int v75), .val (.int v80), .val (.int v84), .val (.ref b88), .val (.int (4 : Int32)), .val (.int (4 : Int32)), .val (.int (1 : Int32)), .unset, .unset, .unset, .unset] [(.int v80), (.ref b88)])) (fun target kt => ?_) ?_
        · show Steps p.tables e below (Tg308.setTop (mkF m 328 #[.val (.int p0), .val (.int p1), .val (.int p2), .val (.int p3), .val (.int v3), .val (.int v9), .val (.int v75), .val (.int v80), .val (.int v84), .val (.ref b88), .val (.int (4 : Int32)), .val (.int (4 : Int32)), .val (.int (1 : Int32)), .unset, .unset, .unset, .unset] [])) target
          refine XS.aload Xg308.here hx rfl (hb hby at_328) rfl rfl ?_
          show Steps p.tables e below (Tg308.setTop (mkF m 330 #[.val (.int p0), .val (.int p1), .val (.int p2), .val (.int p3), .val (.int v3), .val (.int v9), .val (.int v75), .val (.int v80), .val (.int v84), .val (.ref b88), .val (.int (4 : Int32)), .val (.int (4 : Int32)), .val (.int (1 : Int32)), .unset, .unset, .unset, .unset] [(.ref b88)])) target
          refine XS.iload Xg308.here hx rfl (hb hby at_330) rfl ?_
          exact kt
        obtain ⟨clg332, Arg332, Szg332, Atg332⟩ := id F_18
        have hing332 : ¬ (v80 < 0 ∨ clg332.slots.size ≤ (v80).toNatClampNeg) := own_inb Szg332 hin.1
        have hatg332 : clg332.slots[(v80).toNatClampNeg]? = some (.int (a140 (v80).toNatClampNeg)) := own_RayB_nth Atg332 Szg332 hing332
        refine own_st (B := Tg308.setTop (mkF m 333 #[.val (.int p0), .val (.int p1), .val (.int p2), .val (.int p3), .val (.int v3), .val (.int v9), .val (.int v75), .val (.int v80), .val (.int v84), .val (.ref b88), .val (.int (4 : Int32)), .val (.int (4 : Int32)), .val (.int (1 : Int32)), .unset, .unset, .unset, .unset] [(.int (a140 (v80).toNatClampNeg))])) (fun target kt => ?_) ?_
        · refine Xg308.baloadBytes hx (j := v80) (v := (.int (a140 (v80).toNatClampNeg))) (by first | exact Arg332.1 | (rw [eg308]; exact Arg332.1)) (State.isArrayOf_alike hZ.alike Arg332.2.1) Arg332.2.2 hing332 hatg332 (g := (mkF m 332 #[.val (.int p0), .val (.int p1), .val (.int p2), .val (.int p3), .val (.int v3), .val (.int v9), .val (.int v75), .val (.int v80), .val (.int v84), .val (.ref b88), .val (.int (4 : Int32)), .val (.int (4 : Int32)), .val (.int (1 : Int32)), .unset, .unset, .unset, .unset] [(.int v80), (.ref b88)])) rfl rfl (hb hby at_332) _ ?_
          exact kt
        obtain ⟨v337, hv337⟩ : ∃ z : Int32, z = ((a140 (v80).toNatClampNeg) &&& (255 : Int32)) := ⟨_, rfl⟩
        refine own_st (B := Tg308.setTop (mkF m 339 #[.val (.int p0), .val (.int p1), .val (.int p2), .val (.int p3), .val (.int v3), .val (.int v9), .val (.int v75), .val (.int v80), .val (.int v84), .val (.ref b88), .val (.int (4 : Int32)), .val (.int (4 : Int32)), .val (.int (1 : Int32)), .val (.int v337), .unset, .unset, .unset] [])) (fun target kt => ?_) ?_
        · show Steps p.tables e below (Tg308.setTop (mkF m 333 #[.val (.int p0), .val (.int p1), .val (.int p2), .val (.int p3), .val (.int v3), .val (.int v9), .val (.int v75), .val (.int v80), .val (.int v84), .val (.ref b88), .val (.int (4 : Int32)), .val (.int (4 : Int32)), .val (.int (1 : Int32)), .unset, .unset, .unset, .unset] [(.int (a140 (v80).toNatClampNeg))])) target
          refine XS.sipush Xg308.here hx rfl (hb hby at_333) ?_
          show Steps p.tables e below (Tg308.setTop (mkF m 336 #[.val (.int p0), .val (.int p1), .val (.int p2), .val (.int p3), .val (.int v3), .val (.int v9), .val (.int v75), .val (.int v80), .val (.int v84), .val (.ref b88), .val (.int (4 : Int32)), .val (.int (4 : Int32)), .val (.int (1 : Int32)), .unset, .unset, .unset, .unset] [(.int (255 : Int32)), (.int (a140 (v80).toNatClampNeg))])) target
          refine XS.iand Xg308.here hx rfl (hb hby at_336) rfl ?_
          show Steps p.tables e below (Tg308.setTop (mkF m 337 #[.val (.int p0), .val (.int p1), .val (.int p2), .val (.int p3), .val (.int v3), .val (.int v9), .val (.int v75), .val (.int v80), .val (.int v84), .val (.ref b88), .val (.int (4 : Int32)), .val (.int (4 : Int32)), .val (.int (1 : Int32)), .unset, .unset, .unset, .unset] [(.int ((a140 (v80).toNatClampNeg) &&& (255 : Int32)))])) target
          refine XS.istore Xg308.here hx rfl (hb hby at_337) rfl (l' := #[.val (.int p0), .val (.int p1), .val (.int p2), .val (.int p3), .val (.int v3), .val (.int v9), .val (.int v75), .val (.int v80), .val (.int v84), .val (.ref b88), .val (.int (4 : Int32)), .val (.int (4 : Int32)), .val (.int (1 : Int32)), .val (.int v337), .unset, .unset, .unset]) (by subst hv337; rfl) ?_
          exact kt
        have hx0 : v337.toInt = 240 + v75.toInt / 262144 := by
          have h1 := own_r18 v75
          have h2 := own_ld8 (v75 >>> ((18 : Int32) &&& 31)) (by omega) (by omega)
          rw [hv337, hb0, own_byte _ (by omega) (by omega)]
          omega
        refine own_st (B := Tg308.setTop (mkF m 364 #[.val (.int p0), .val (.int p1), .val (.int p2), .val (.int p3), .val (.int v3), .val (.int v9), .val (.int v75), .val (.int v80), .val (.int v84), .val (.ref b88), .val (.int (4 : Int32)), .val (.int (4 : Int32)), .val (.int (1 : Int32)), .val (.int v337), .unset, .unset, .unset] [(.int (v80 + (1 : Int32))), (.ref b88)])) (fun target kt => ?_) ?_
        · show Steps p.tables e below (Tg308.setTop (mkF m 339 #[.val (.int p0), .val (.int p1), .val (.int p2), .val (.int p3), .val (.int v3), .val (.int v9), .val (.int v75), .val (.int v80), .val (.int v84), .val (.ref b88), .val (.int (4 : Int32)), .val (.int (4 : Int32)), .val (.int (1 : Int32)), .val (.int v337), .unset, .unset, .unset] [])) target
          refine XS.iload Xg308.here hx rfl (hb hby at_339) rfl ?_
          show Steps p.tables e below (Tg308.setTop (mkF m 341 #[.val (.int p0), .val (.int p1), .val (.int p2), .val (.int p3), .val (.int v3), .val (.int v9), .val (.int v75), .val (.int v80), .val (.int v84), .val (.ref b88), .val (.int (4 : Int32)), .val (.int (4 : Int32)), .val (.int (1 : Int32)), .val (.int v337), .unset, .unset, .unset] [(.int (4 : Int32))])) target
          refine XS.iconst Xg308.here hx rfl (hb hby at_341) ?_
          show Steps p.tables e below (Tg308.setTop (mkF m 342 #[.val (.int p0), .val (.int p1), .val (.int p2), .val (.int p3), .val (.int v3), .val (.int v9), .val (.int v75), .val (.int v80), .val (.int v84), .val (.ref b88), .val (.int (4 : Int32)), .val (.int (4 : Int32)), .val (.int (1 : Int32)), .val (.int v337), .unset, .unset, .unset] [(.int (1 : Int32)), (.int (4 : Int32))])) target
          refine XS.icmpYes Xg308.here hx rfl (pc0 := 342) (pc' := 358) rfl (hb hby at_342) rfl (feq (by decide : ¬ ((4 : Int32) = (1 : Int32)))).2 (by decide) (by decide) ?_
          show Steps p.tables e below (Tg308.setTop (mkF m 358 #[.val (.int p0), .val (.int p1), .val (.int p2), .val (.int p3), .val (.int v3), .val (.int v9), .val (.int v75), .val (.int v80), .val (.int v84), .val (.ref b88), .val (.int (4 : Int32)), .val (.int (4 : Int32)), .val (.int (1 : Int32)), .val (.int v337), .unset, .unset, .unset] [])) target
          refine XS.aload Xg308.here hx rfl (hb hby at_358) rfl rfl ?_
          show Steps p.tables e below (Tg308.setTop (mkF m 360 #[.val (.int p0), .val (.int p1), .val (.int p2), .val (.int p3), .val (.int v3), .val (.int v9), .val (.int v75), .val (.int v80), .val (.int v84), .val (.ref b88), .val (.int (4 : Int32)), .val (.int (4 : Int32)), .val (.int (1 : Int32)), .val (.int v337), .unset, .unset, .unset] [(.ref b88)])) target
          refine XS.iload Xg308.here hx rfl (hb hby at_360) rfl ?_
          show Steps p.tables e below (Tg308.setTop (mkF m 362 #[.val (.int p0), .val (.int p1), .val (.int p2), .val (.int p3), .val (.int v3), .val (.int v9), .val (.int v75), .val (.int v80), .val (.int v84), .val (.ref b88), .val (.int (4 : Int32)), .val (.int (4 : Int32)), .val (.int (1 : Int32)), .val (.int v337), .unset, .unset, .unset] [(.int v80), (.ref b88)])) target
          refine XS.iconst Xg308.here hx rfl (hb hby at_362) ?_
          show Steps p.tables e below (Tg308.setTop (mkF m 363 #[.val (.int p0), .val (.int p1), .val (.int p2), .val (.int p3), .val (.int v3), .val (.int v9), .val (.int v75), .val (.int v80), .val (.int v84), .val (.ref b88), .val (.int (4 : Int32)), .val (.int (4 : Int32)), .val (.int (1 : Int32)), .val (.int v337), .unset, .unset, .unset] [(.int (1 : Int32)), (.int v80), (.ref b88)])) target
          refine XS.iadd Xg308.here hx rfl (hb hby at_363) rfl ?_
          exact kt
        obtain ⟨clg364, Arg364, Szg364, Atg364⟩ := id F_18
        have hing364 : ¬ ((v80 + (1 : Int32)) < 0 ∨ clg364.slots.size ≤ ((v80 + (1 : Int32))).toNatClampNeg) := own_inb Szg364 hin.2.1
        have hatg364 : clg364.slots[((v80 + (1 : Int32))).toNatClampNeg]? = some (.int (a140 ((v80 + (1 : Int32))).toNatClampNeg)) := own_RayB_nth Atg364 Szg364 hing364
        refine own_st (B := Tg308.setTop (mkF m 365 #[.val (.int p0), .val (.int p1), .val (.int p2), .val (.int p3), .val (.int v3), .val (.int v9), .val (.int v75), .val (.int v80), .val (.int v84), .val (.ref b88), .val (.int (4 : Int32)), .val (.int (4 : Int32)), .val (.int (1 : Int32)), .val (.int v337), .unset, .unset, .unset] [(.int (a140 ((v80 + (1 : Int32))).toNatClampNeg))])) (fun target kt => ?_) ?_
        · refine Xg308.baloadBytes hx (j := (v80 + (1 : Int32))) (v := (.int (a140 ((v80 + (1 : Int32))).toNatClampNeg))) (by first | exact Arg364.1 | (rw [eg308]; exact Arg364.1)) (State.isArrayOf_alike hZ.alike Arg364.2.1) Arg364.2.2 hing364 hatg364 (g := (mkF m 364 #[.val (.int p0), .val (.int p1), .val (.int p2), .val (.int p3), .val (.int v3), .val (.int v9), .val (.int v75), .val (.int v80), .val (.int v84), .val (.ref b88), .val (.int (4 : Int32)), .val (.int (4 : Int32)), .val (.int (1 : Int32)), .val (.int v337), .unset, .unset, .unset] [(.int (v80 + (1 : Int32))), (.ref b88)])) rfl rfl (hb hby at_364) _ ?_
          exact kt
        obtain ⟨v369, hv369⟩ : ∃ z : Int32, z = ((a140 ((v80 + (1 : Int32))).toNatClampNeg) &&& (255 : Int32)) := ⟨_, rfl⟩
        refine own_st (B := Tg308.setTop (mkF m 371 #[.val (.int p0), .val (.int p1), .val (.int p2), .val (.int p3), .val (.int v3), .val (.int v9), .val (.int v75), .val (.int v80), .val (.int v84), .val (.ref b88), .val (.int (4 : Int32)), .val (.int (4 : Int32)), .val (.int (1 : Int32)), .val (.int v337), .val (.int v369), .unset, .unset] [])) (fun target kt => ?_) ?_
        · show Steps p.tables e below (Tg308.setTop (mkF m 365 #[.val (.int p0), .val (.int p1), .val (.int p2), .val (.int p3), .val (.int v3), .val (.int v9), .val (.int v75), .val (.int v80), .val (.int v84), .val (.ref b88), .val (.int (4 : Int32)), .val (.int (4 : Int32)), .val (.int (1 : Int32)), .val (.int v337), .unset, .unset, .unset] [(.int (a140 ((v80 + (1 : Int32))).toNatClampNeg))])) target
          refine XS.sipush Xg308.here hx rfl (hb hby at_365) ?_
          show Steps p.tables e below (Tg308.setTop (mkF m 368 #[.val (.int p0), .val (.int p1), .val (.int p2), .val (.int p3), .val (.int v3), .val (.int v9), .val (.int v75), .val (.int v80), .val (.int v84), .val (.ref b88), .val (.int (4 : Int32)), .val (.int (4 : Int32)), .val (.int (1 : Int32)), .val (.int v337), .unset, .unset, .unset] [(.int (255 : Int32)), (.int (a140 ((v80 + (1 : Int32))).toNatClampNeg))])) target
          refine XS.iand Xg308.here hx rfl (hb hby at_368) rfl ?_
          show Steps p.tables e below (Tg308.setTop (mkF m 369 #[.val (.int p0), .val (.int p1), .val (.int p2), .val (.int p3), .val (.int v3), .val (.int v9), .val (.int v75), .val (.int v80), .val (.int v84), .val (.ref b88), .val (.int (4 : Int32)), .val (.int (4 : Int32)), .val (.int (1 : Int32)), .val (.int v337), .unset, .unset, .unset] [(.int ((a140 ((v80 + (1 : Int32))).toNatClampNeg) &&& (255 : Int32)))])) target
          refine XS.istore Xg308.here hx rfl (hb hby at_369) rfl (l' := #[.val (.int p0), .val (.int p1), .val (.int p2), .val (.int p3), .val (.int v3), .val (.int v9), .val (.int v75), .val (.int v80), .val (.int v84), .val (.ref b88), .val (.int (4 : Int32)), .val (.int (4 : Int32)), .val (.int (1 : Int32)), .val (.int v337), .val (.int v369), .unset, .unset]) (by subst hv369; rfl) ?_
          exact kt
        have hx1 : v369.toInt = 128 + (v75.toInt / 4096) % 64 := by
          have h1 := own_r12 v75
          have h3 := own_m63 (v75 >>> ((12 : Int32) &&& 31))
          have h2 := own_tr ((v75 >>> ((12 : Int32) &&& 31)) &&& (63 : Int32)) (by omega) (by omega)
          rw [hv369, hb1, own_byte _ (by omega) (by omega)]
          omega
        refine own_st (B := Tg308.setTop (mkF m 428 #[.val (.int p0), .val (.int p1), .val (.int p2), .val (.int p3), .val (.int v3), .val (.int v9), .val (.int v75), .val (.int v80), .val (.int v84), .val (.ref b88), .val (.int (4 : Int32)), .val (.int (4 : Int32)), .val (.int (1 : Int32)), .val (.int v337), .val (.int v369), .unset, .unset] [(.int (v80 + (2 : Int32))), (.ref b88)])) (fun target kt => ?_) ?_
        · show Steps p.tables e below (Tg308.setTop (mkF m 371 #[.val (.int p0), .val (.int p1), .val (.int p2), .val (.int p3), .val (.int v3), .val (.int v9), .val (.int v75), .val (.int v80), .val (.int v84), .val (.ref b88), .val (.int (4 : Int32)), .val (.int (4 : Int32)), .val (.int (1 : Int32)), .val (.int v337), .val (.int v369), .unset, .unset] [])) target
          refine XS.iload Xg308.here hx rfl (hb hby at_371) rfl ?_
          show Steps p.tables e below (Tg308.setTop (mkF m 373 #[.val (.int p0), .val (.int p1), .val (.int p2), .val (.int p3), .val (.int v3), .val (.int v9), .val (.int v75), .val (.int v80), .val (.int v84), .val (.ref b88), .val (.int (4 : Int32)), .val (.int (4 : Int32)), .val (.int (1 : Int32)), .val (.int v337), .val (.int v369), .unset, .unset] [(.int (4 : Int32))])) target
          refine XS.iconst Xg308.here hx rfl (hb hby at_373) ?_
          show Steps p.tables e below (Tg308.setTop (mkF m 374 #[.val (.int p0), .val (.int p1), .val (.int p2), .val (.int p3), .val (.int v3), .val (.int v9), .val (.int v75), .val (.int v80), .val (.int v84), .val (.ref b88), .val (.int (4 : Int32)), .val (.int (4 : Int32)), .val (.int (1 : Int32)), .val (.int v337), .val (.int v369), .unset, .unset] [(.int (2 : Int32)), (.int (4 : Int32))])) target
          refine XS.icmpYes Xg308.here hx rfl (pc0 := 374) (pc' := 422) rfl (hb hby at_374) rfl (feq (by decide : ¬ ((4 : Int32) = (2 : Int32)))).2 (by decide) (by decide) ?_
          show Steps p.tables e below (Tg308.setTop (mkF m 422 #[.val (.int p0), .val (.int p1), .val (.int p2), .val (.int p3), .val (.int v3), .val (.int v9), .val (.int v75), .val (.int v80), .val (.int v84), .val (.ref b88), .val (.int (4 : Int32)), .val (.int (4 : Int32)), .val (.int (1 : Int32)), .val (.int v337), .val (.int v369), .unset, .unset] [])) target
          refine XS.aload Xg308.here hx rfl (hb hby at_422) rfl rfl ?_
          show Steps p.tables e below (Tg308.setTop (mkF m 424 #[.val (.int p0), .val (.int p1), .val (.int p2), .val (.int p3), .val (.int v3), .val (.int v9), .val (.int v75), .val (.int v80), .val (.int v84), .val (.ref b88), .val (.int (4 : Int32)), .val (.int (4 : Int32)), .val (.int (1 : Int32)), .val (.int v337), .val (.int v369), .unset, .unset] [(.ref b88)])) target
          refine XS.iload Xg308.here hx rfl (hb hby at_424) rfl ?_
          show Steps p.tables e below (Tg308.setTop (mkF m 426 #[.val (.int p0), .val (.int p1), .val (.int p2), .val (.int p3), .val (.int v3), .val (.int v9), .val (.int v75), .val (.int v80), .val (.int v84), .val (.ref b88), .val (.int (4 : Int32)), .val (.int (4 : Int32)), .val (.int (1 : Int32)), .val (.int v337), .val (.int v369), .unset, .unset] [(.int v80), (.ref b88)])) target
          refine XS.iconst Xg308.here hx rfl (hb hby at_426) ?_
          show Steps p.tables e below (Tg308.setTop (mkF m 427 #[.val (.int p0), .val (.int p1), .val (.int p2), .val (.int p3), .val (.int v3), .val (.int v9), .val (.int v75), .val (.int v80), .val (.int v84), .val (.ref b88), .val (.int (4 : Int32)), .val (.int (4 : Int32)), .val (.int (1 : Int32)), .val (.int v337), .val (.int v369), .unset, .unset] [(.int (2 : Int32)), (.int v80), (.ref b88)])) target
          refine XS.iadd Xg308.here hx rfl (hb hby at_427) rfl ?_
          exact kt
        obtain ⟨clg428, Arg428, Szg428, Atg428⟩ := id F_18
        have hing428 : ¬ ((v80 + (2 : Int32)) < 0 ∨ clg428.slots.size ≤ ((v80 + (2 : Int32))).toNatClampNeg) := own_inb Szg428 hin.2.2.1
        have hatg428 : clg428.slots[((v80 + (2 : Int32))).toNatClampNeg]? = some (.int (a140 ((v80 + (2 : Int32))).toNatClampNeg)) := own_RayB_nth Atg428 Szg428 hing428
        refine own_st (B := Tg308.setTop (mkF m 429 #[.val (.int p0), .val (.int p1), .val (.int p2), .val (.int p3), .val (.int v3), .val (.int v9), .val (.int v75), .val (.int v80), .val (.int v84), .val (.ref b88), .val (.int (4 : Int32)), .val (.int (4 : Int32)), .val (.int (1 : Int32)), .val (.int v337), .val (.int v369), .unset, .unset] [(.int (a140 ((v80 + (2 : Int32))).toNatClampNeg))])) (fun target kt => ?_) ?_
        · refine Xg308.baloadBytes hx (j := (v80 + (2 : Int32))) (v := (.int (a140 ((v80 + (2 : Int32))).toNatClampNeg))) (by first | exact Arg428.1 | (rw [eg308]; exact Arg428.1)) (State.isArrayOf_alike hZ.alike Arg428.2.1) Arg428.2.2 hing428 hatg428 (g := (mkF m 428 #[.val (.int p0), .val (.int p1), .val (.int p2), .val (.int p3), .val (.int v3), .val (.int v9), .val (.int v75), .val (.int v80), .val (.int v84), .val (.ref b88), .val (.int (4 : Int32)), .val (.int (4 : Int32)), .val (.int (1 : Int32)), .val (.int v337), .val (.int v369), .unset, .unset] [(.int (v80 + (2 : Int32))), (.ref b88)])) rfl rfl (hb hby at_428) _ ?_
          exact kt
        obtain ⟨v433, hv433⟩ : ∃ z : Int32, z = ((a140 ((v80 + (2 : Int32))).toNatClampNeg) &&& (255 : Int32)) := ⟨_, rfl⟩
        refine own_st (B := Tg308.setTop (mkF m 435 #[.val (.int p0), .val (.int p1), .val (.int p2), .val (.int p3), .val (.int v3), .val (.int v9), .val (.int v75), .val (.int v80), .val (.int v84), .val (.ref b88), .val (.int (4 : Int32)), .val (.int (4 : Int32)), .val (.int (1 : Int32)), .val (.int v337), .val (.int v369), .val (.int v433), .unset] [])) (fun target kt => ?_) ?_
        · show Steps p.tables e below (Tg308.setTop (mkF m 429 #[.val (.int p0), .val (.int p1), .val (.int p2), .val (.int p3), .val (.int v3), .val (.int v9), .val (.int v75), .val (.int v80), .val (.int v84), .val (.ref b88), .val (.int (4 : Int32)), .val (.int (4 : Int32)), .val (.int (1 : Int32)), .val (.int v337), .val (.int v369), .unset, .unset] [(.int (a140 ((v80 + (2 : Int32))).toNatClampNeg))])) target
          refine XS.sipush Xg308.here hx rfl (hb hby at_429) ?_
          show Steps p.tables e below (Tg308.setTop (mkF m 432 #[.val (.int p0), .val (.int p1), .val (.int p2), .val (.int p3), .val (.int v3), .val (.int v9), .val (.int v75), .val (.int v80), .val (.int v84), .val (.ref b88), .val (.int (4 : Int32)), .val (.int (4 : Int32)), .val (.int (1 : Int32)), .val (.int v337), .val (.int v369), .unset, .unset] [(.int (255 : Int32)), (.int (a140 ((v80 + (2 : Int32))).toNatClampNeg))])) target
          refine XS.iand Xg308.here hx rfl (hb hby at_432) rfl ?_
          show Steps p.tables e below (Tg308.setTop (mkF m 433 #[.val (.int p0), .val (.int p1), .val (.int p2), .val (.int p3), .val (.int v3), .val (.int v9), .val (.int v75), .val (.int v80), .val (.int v84), .val (.ref b88), .val (.int (4 : Int32)), .val (.int (4 : Int32)), .val (.int (1 : Int32)), .val (.int v337), .val (.int v369), .unset, .unset] [(.int ((a140 ((v80 + (2 : Int32))).toNatClampNeg) &&& (255 : Int32)))])) target
          refine XS.istore Xg308.here hx rfl (hb hby at_433) rfl (l' := #[.val (.int p0), .val (.int p1), .val (.int p2), .val (.int p3), .val (.int v3), .val (.int v9), .val (.int v75), .val (.int v80), .val (.int v84), .val (.ref b88), .val (.int (4 : Int32)), .val (.int (4 : Int32)), .val (.int (1 : Int32)), .val (.int v337), .val (.int v369), .val (.int v433), .unset]) (by subst hv433; rfl) ?_
          exact kt
        have hx2 : v433.toInt = 128 + (v75.toInt / 64) % 64 := by
          have h1 := own_r6 v75
          have h3 := own_m63 (v75 >>> ((6 : Int32) &&& 31))
          have h2 := own_tr ((v75 >>> ((6 : Int32) &&& 31)) &&& (63 : Int32)) (by omega) (by omega)
          rw [hv433, hb2, own_byte _ (by omega) (by omega)]
          omega
        refine own_st (B := Tg308.setTop (mkF m 509 #[.val (.int p0), .val (.int p1), .val (.int p2), .val (.int p3), .val (.int v3), .val (.int v9), .val (.int v75), .val (.int v80), .val (.int v84), .val (.ref b88), .val (.int (4 : Int32)), .val (.int (4 : Int32)), .val (.int (1 : Int32)), .val (.int v337), .val (.int v369), .val (.int v433), .unset] [(.int (v80 + (3 : Int32))), (.ref b88)])) (fun target kt => ?_) ?_
        · show Steps p.tables e below (Tg308.setTop (mkF m 435 #[.val (.int p0), .val (.int p1), .val (.int p2), .val (.int p3), .val (.int v3), .val (.int v9), .val (.int v75), .val (.int v80), .val (.int v84), .val (.ref b88), .val (.int (4 : Int32)), .val (.int (4 : Int32)), .val (.int (1 : Int32)), .val (.int v337), .val (.int v369), .val (.int v433), .unset] [])) target
          refine XS.iload Xg308.here hx rfl (hb hby at_435) rfl ?_
          show Steps p.tables e below (Tg308.setTop (mkF m 437 #[.val (.int p0), .val (.int p1), .val (.int p2), .val (.int p3), .val (.int v3), .val (.int v9), .val (.int v75), .val (.int v80), .val (.int v84), .val (.ref b88), .val (.int (4 : Int32)), .val (.int (4 : Int32)), .val (.int (1 : Int32)), .val (.int v337), .val (.int v369), .val (.int v433), .unset] [(.int (4 : Int32))])) target
          refine XS.iconst Xg308.here hx rfl (hb hby at_437) ?_
          show Steps p.tables e below (Tg308.setTop (mkF m 438 #[.val (.int p0), .val (.int p1), .val (.int p2), .val (.int p3), .val (.int v3), .val (.int v9), .val (.int v75), .val (.int v80), .val (.int v84), .val (.ref b88), .val (.int (4 : Int32)), .val (.int (4 : Int32)), .val (.int (1 : Int32)), .val (.int v337), .val (.int v369), .val (.int v433), .unset] [(.int (3 : Int32)), (.int (4 : Int32))])) target
          refine XS.icmpYes Xg308.here hx rfl (pc0 := 438) (pc' := 503) rfl (hb hby at_438) rfl (feq (by decide : ¬ ((4 : Int32) = (3 : Int32)))).2 (by decide) (by decide) ?_
          show Steps p.tables e below (Tg308.setTop (mkF m 503 #[.val (.int p0), .val (.int p1), .val (.int p2), .val (.int p3), .val (.int v3), .val (.int v9), .val (.int v75), .val (.int v80), .val (.int v84), .val (.ref b88), .val (.int (4 : Int32)), .val (.int (4 : Int32)), .val (.int (1 : Int32)), .val (.int v337), .val (.int v369), .val (.int v433), .unset] [])) target
          refine XS.aload Xg308.here hx rfl (hb hby at_503) rfl rfl ?_
          show Steps p.tables e below (Tg308.setTop (mkF m 505 #[.val (.int p0), .val (.int p1), .val (.int p2), .val (.int p3), .val (.int v3), .val (.int v9), .val (.int v75), .val (.int v80), .val (.int v84), .val (.ref b88), .val (.int (4 : Int32)), .val (.int (4 : Int32)), .val (.int (1 : Int32)), .val (.int v337), .val (.int v369), .val (.int v433), .unset] [(.ref b88)])) target
          refine XS.iload Xg308.here hx rfl (hb hby at_505) rfl ?_
          show Steps p.tables e below (Tg308.setTop (mkF m 507 #[.val (.int p0), .val (.int p1), .val (.int p2), .val (.int p3), .val (.int v3), .val (.int v9), .val (.int v75), .val (.int v80), .val (.int v84), .val (.ref b88), .val (.int (4 : Int32)), .val (.int (4 : Int32)), .val (.int (1 : Int32)), .val (.int v337), .val (.int v369), .val (.int v433), .unset] [(.int v80), (.ref b88)])) target
          refine XS.iconst Xg308.here hx rfl (hb hby at_507) ?_
          show Steps p.tables e below (Tg308.setTop (mkF m 508 #[.val (.int p0), .val (.int p1), .val (.int p2), .val (.int p3), .val (.int v3), .val (.int v9), .val (.int v75), .val (.int v80), .val (.int v84), .val (.ref b88), .val (.int (4 : Int32)), .val (.int (4 : Int32)), .val (.int (1 : Int32)), .val (.int v337), .val (.int v369), .val (.int v433), .unset] [(.int (3 : Int32)), (.int v80), (.ref b88)])) target
          refine XS.iadd Xg308.here hx rfl (hb hby at_508) rfl ?_
          exact kt
        obtain ⟨clg509, Arg509, Szg509, Atg509⟩ := id F_18
        have hing509 : ¬ ((v80 + (3 : Int32)) < 0 ∨ clg509.slots.size ≤ ((v80 + (3 : Int32))).toNatClampNeg) := own_inb Szg509 hin.2.2.2
        have hatg509 : clg509.slots[((v80 + (3 : Int32))).toNatClampNeg]? = some (.int (a140 ((v80 + (3 : Int32))).toNatClampNeg)) := own_RayB_nth Atg509 Szg509 hing509
        refine own_st (B := Tg308.setTop (mkF m 510 #[.val (.int p0), .val (.int p1), .val (.int p2), .val (.int p3), .val (.int v3), .val (.int v9), .val (.int v75), .val (.int v80), .val (.int v84), .val (.ref b88), .val (.int (4 : Int32)), .val (.int (4 : Int32)), .val (.int (1 : Int32)), .val (.int v337), .val (.int v369), .val (.int v433), .unset] [(.int (a140 ((v80 + (3 : Int32))).toNatClampNeg))])) (fun target kt => ?_) ?_
        · refine Xg308.baloadBytes hx (j := (v80 + (3 : Int32))) (v := (.int (a140 ((v80 + (3 : Int32))).toNatClampNeg))) (by first | exact Arg509.1 | (rw [eg308]; exact Arg509.1)) (State.isArrayOf_alike hZ.alike Arg509.2.1) Arg509.2.2 hing509 hatg509 (g := (mkF m 509 #[.val (.int p0), .val (.int p1), .val (.int p2), .val (.int p3), .val (.int v3), .val (.int v9), .val (.int v75), .val (.int v80), .val (.int v84), .val (.ref b88), .val (.int (4 : Int32)), .val (.int (4 : Int32)), .val (.int (1 : Int32)), .val (.int v337), .val (.int v369), .val (.int v433), .unset] [(.int (v80 + (3 : Int32))), (.ref b88)])) rfl rfl (hb hby at_509) _ ?_
          exact kt
        obtain ⟨v514, hv514⟩ : ∃ z : Int32, z = ((a140 ((v80 + (3 : Int32))).toNatClampNeg) &&& (255 : Int32)) := ⟨_, rfl⟩
        refine own_st (B := Tg308.setTop (mkF m 516 #[.val (.int p0), .val (.int p1), .val (.int p2), .val (.int p3), .val (.int v3), .val (.int v9), .val (.int v75), .val (.int v80), .val (.int v84), .val (.ref b88), .val (.int (4 : Int32)), .val (.int (4 : Int32)), .val (.int (1 : Int32)), .val (.int v337), .val (.int v369), .val (.int v433), .val (.int v514)] [])) (fun target kt => ?_) ?_
        · show Steps p.tables e below (Tg308.setTop (mkF m 510 #[.val (.int p0), .val (.int p1), .val (.int p2), .val (.int p3), .val (.int v3), .val (.int v9), .val (.int v75), .val (.int v80), .val (.int v84), .val (.ref b88), .val (.int (4 : Int32)), .val (.int (4 : Int32)), .val (.int (1 : Int32)), .val (.int v337), .val (.int v369), .val (.int v433), .unset] [(.int (a140 ((v80 + (3 : Int32))).toNatClampNeg))])) target
          refine XS.sipush Xg308.here hx rfl (hb hby at_510) ?_
          show Steps p.tables e below (Tg308.setTop (mkF m 513 #[.val (.int p0), .val (.int p1), .val (.int p2), .val (.int p3), .val (.int v3), .val (.int v9), .val (.int v75), .val (.int v80), .val (.int v84), .val (.ref b88), .val (.int (4 : Int32)), .val (.int (4 : Int32)), .val (.int (1 : Int32)), .val (.int v337), .val (.int v369), .val (.int v433), .unset] [(.int (255 : Int32)), (.int (a140 ((v80 + (3 : Int32))).toNatClampNeg))])) target
          refine XS.iand Xg308.here hx rfl (hb hby at_513) rfl ?_
          show Steps p.tables e below (Tg308.setTop (mkF m 514 #[.val (.int p0), .val (.int p1), .val (.int p2), .val (.int p3), .val (.int v3), .val (.int v9), .val (.int v75), .val (.int v80), .val (.int v84), .val (.ref b88), .val (.int (4 : Int32)), .val (.int (4 : Int32)), .val (.int (1 : Int32)), .val (.int v337), .val (.int v369), .val (.int v433), .unset] [(.int ((a140 ((v80 + (3 : Int32))).toNatClampNeg) &&& (255 : Int32)))])) target
          refine XS.istore Xg308.here hx rfl (hb hby at_514) rfl (l' := #[.val (.int p0), .val (.int p1), .val (.int p2), .val (.int p3), .val (.int v3), .val (.int v9), .val (.int v75), .val (.int v80), .val (.int v84), .val (.ref b88), .val (.int (4 : Int32)), .val (.int (4 : Int32)), .val (.int (1 : Int32)), .val (.int v337), .val (.int v369), .val (.int v433), .val (.int v514)]) (by subst hv514; rfl) ?_
          exact kt
        have hx3 : v514.toInt = 128 + v75.toInt % 64 := by
          have h3 := own_m63 v75
          have h2 := own_tr (v75 &&& (63 : Int32)) (by omega) (by omega)
          rw [hv514, hb3, own_byte _ (by omega) (by omega)]
          omega
        refine own_st (B := Tg308.setTop (mkF m 525 #[.val (.int p0), .val (.int p1), .val (.int p2), .val (.int p3), .val (.int v3), .val (.int v9), .val (.int v75), .val (.int v80), .val (.int v84), .val (.ref b88), .val (.int (4 : Int32)), .val (.int (4 : Int32)), .val (.int (1 : Int32)), .val (.int v337), .val (.int v369), .val (.int v433), .val (.int v514)] [(.int (240 : Int32)), (.int (v337 &&& (248 : Int32)))])) (fun target kt => ?_) ?_
        · show Steps p.tables e below (Tg308.setTop (mkF m 516 #[.val (.int p0), .val (.int p1), .val (.int p2), .val (.int p3), .val (.int v3), .val (.int v9), .val (.int v75), .val (.int v80), .val (.int v84), .val (.ref b88), .val (.int (4 : Int32)), .val (.int (4 : Int32)), .val (.int (1 : Int32)), .val (.int v337), .val (.int v369), .val (.int v433), .val (.int v514)] [])) target
          refine XS.iload Xg308.here hx rfl (hb hby at_516) rfl ?_
          show Steps p.tables e below (Tg308.setTop (mkF m 518 #[.val (.int p0), .val (.int p1), .val (.int p2), .val (.int p3), .val (.int v3), .val (.int v9), .val (.int v75), .val (.int v80), .val (.int v84), .val (.ref b88), .val (.int (4 : Int32)), .val (.int (4 : Int32)), .val (.int (1 : Int32)), .val (.int v337), .val (.int v369), .val (.int v433), .val (.int v514)] [(.int v337)])) target
          refine XS.sipush Xg308.here hx rfl (hb hby at_518) ?_
          show Steps p.tables e below (Tg308.setTop (mkF m 521 #[.val (.int p0), .val (.int p1), .val (.int p2), .val (.int p3), .val (.int v3), .val (.int v9), .val (.int v75), .val (.int v80), .val (.int v84), .val (.ref b88), .val (.int (4 : Int32)), .val (.int (4 : Int32)), .val (.int (1 : Int32)), .val (.int v337), .val (.int v369), .val (.int v433), .val (.int v514)] [(.int (248 : Int32)), (.int v337)])) target
          refine XS.iand Xg308.here hx rfl (hb hby at_521) rfl ?_
          show Steps p.tables e below (Tg308.setTop (mkF m 522 #[.val (.int p0), .val (.int p1), .val (.int p2), .val (.int p3), .val (.int v3), .val (.int v9), .val (.int v75), .val (.int v80), .val (.int v84), .val (.ref b88), .val (.int (4 : Int32)), .val (.int (4 : Int32)), .val (.int (1 : Int32)), .val (.int v337), .val (.int v369), .val (.int v433), .val (.int v514)] [(.int (v337 &&& (248 : Int32)))])) target
          refine XS.sipush Xg308.here hx rfl (hb hby at_522) ?_
          exact kt
        have c525 : (v337 &&& (248 : Int32)) = (240 : Int32) := by
          exact own_a248 _ (by omega) (by omega)
        refine own_st (B := Tg308.setTop (mkF m 530 #[.val (.int p0), .val (.int p1), .val (.int p2), .val (.int p3), .val (.int v3), .val (.int v9), .val (.int v75), .val (.int v80), .val (.int v84), .val (.ref b88), .val (.int (4 : Int32)), .val (.int (4 : Int32)), .val (.int (1 : Int32)), .val (.int v337), .val (.int v369), .val (.int v433), .val (.int v514)] [(.int v369)])) (fun target kt => ?_) ?_
        · show Steps p.tables e below (Tg308.setTop (mkF m 525 #[.val (.int p0), .val (.int p1), .val (.int p2), .val (.int p3), .val (.int v3), .val (.int v9), .val (.int v75), .val (.int v80), .val (.int v84), .val (.ref b88), .val (.int (4 : Int32)), .val (.int (4 : Int32)), .val (.int (1 : Int32)), .val (.int v337), .val (.int v369), .val (.int v433), .val (.int v514)] [(.int (240 : Int32)), (.int (v337 &&& (248 : Int32)))])) target
          refine XS.icmpNo Xg308.here hx rfl (hb hby at_525) rfl (teq c525).2 ?_
          show Steps p.tables e below (Tg308.setTop (mkF m 528 #[.val (.int p0), .val (.int p1), .val (.int p2), .val (.int p3), .val (.int v3), .val (.int v9), .val (.int v75), .val (.int v80), .val (.int v84), .val (.ref b88), .val (.int (4 : Int32)), .val (.int (4 : Int32)), .val (.int (1 : Int32)), .val (.int v337), .val (.int v369), .val (.int v433), .val (.int v514)] [])) target
          refine XS.iload Xg308.here hx rfl (hb hby at_528) rfl ?_
          exact kt
        obtain ⟨_, _, ⟨Tg530, Lg530, kg530, ng530⟩, -, Xg530, ⟨Lcg530, hQg530, lg530, yg530, zg530⟩, stg530⟩ := Jvm.LawKit.callS Xg308 hx (y := (⟨"com/example/psyche/psyche/XmlCharsEncodePinLaw", "cont", "(I)Z"⟩ : MethodName)) hown (mvT hZ (hw _ (List.mem_of_getElem? (i := 13) rfl))) (mvT hZ (hw _ (List.mem_of_getElem? (i := 14) rfl))) (mvT hZ (hw _ (List.mem_of_getElem? (i := 11) rfl))) (mvT hZ (hw _ (List.mem_of_getElem? (i := 15) rfl))) (by decide) (backOf (W := 0) (own_rm3 l Z a0 hw [] v369 Tg140.heap n0 Zz_9) hZ (hw _ (List.mem_of_getElem? (i := 15) rfl)) (hw _ (List.mem_of_getElem? (i := 11) rfl)) (by decide) (by decide)) (g := (mkF m 530 #[.val (.int p0), .val (.int p1), .val (.int p2), .val (.int p3), .val (.int v3), .val (.int v9), .val (.int v75), .val (.int v80), .val (.int v84), .val (.ref b88), .val (.int (4 : Int32)), .val (.int (4 : Int32)), .val (.int (1 : Int32)), .val (.int v337), .val (.int v369), .val (.int v433), .val (.int v514)] [(.int v369)])) rfl (by rw [hml]; rfl) (argsL := [(.int v369)]) (rest := []) (lenOf own_pd2 rfl) rfl (by show 2 * 0 + _ ≤ _; exact Nat.le_of_eq rfl) (hb hby at_530) (fun _ _ => ⟨rfl, eg308, (by decide : 1 + 0 ≤ _), (by decide : 8 + 0 ≤ _)⟩)
        dsimp only [Pt.U, Pt.locs, Pt.cells, Pt.slots] at Xg530 lg530 yg530 zg530 stg530 hQg530
        subst lg530 yg530 zg530
        obtain ⟨rfl, Ng530q, eg530⟩ := hQg530
        have Ng530 := Fr.app Ng308 Ng530q
        refine own_st (stg530) ?_
        have c533 : (v369 &&& (192 : Int32)) = (128 : Int32) := by
          exact own_a192 _ (by omega) (by omega)
        refine own_st (B := Tg530.setTop (mkF m 538 #[.val (.int p0), .val (.int p1), .val (.int p2), .val (.int p3), .val (.int v3), .val (.int v9), .val (.int v75), .val (.int v80), .val (.int v84), .val (.ref b88), .val (.int (4 : Int32)), .val (.int (4 : Int32)), .val (.int (1 : Int32)), .val (.int v337), .val (.int v369), .val (.int v433), .val (.int v514)] [(.int v433)])) (fun target kt => ?_) ?_
        · show Steps p.tables e below (Tg530.setTop (mkF m 533 #[.val (.int p0), .val (.int p1), .val (.int p2), .val (.int p3), .val (.int v3), .val (.int v9), .val (.int v75), .val (.int v80), .val (.int v84), .val (.ref b88), .val (.int (4 : Int32)), .val (.int (4 : Int32)), .val (.int (1 : Int32)), .val (.int v337), .val (.int v369), .val (.int v433), .val (.int v514)] [(.int (own_b ((v369 &&& (192 : Int32)) = (128 : Int32))))])) target
          refine XS.ifNo Xg530.here hx rfl (hb hby at_533) rfl ((if0 _ _).trans (feq (own_bn0 rfl c533)).1) ?_
          show Steps p.tables e below (Tg530.setTop (mkF m 536 #[.val (.int p0), .val (.int p1), .val (.int p2), .val (.int p3), .val (.int v3), .val (.int v9), .val (.int v75), .val (.int v80), .val (.int v84), .val (.ref b88), .val (.int (4 : Int32)), .val (.int (4 : Int32)), .val (.int (1 : Int32)), .val (.int v337), .val (.int v369), .val (.int v433), .val (.int v514)] [])) target
          refine XS.iload Xg530.here hx rfl (hb hby at_536) rfl ?_
          exact kt
        obtain ⟨_, _, ⟨Tg538, Lg538, kg538, ng538⟩, -, Xg538, ⟨Lcg538, hQg538, lg538, yg538, zg538⟩, stg538⟩ := Jvm.LawKit.callS Xg530 hx (y := (⟨"com/example/psyche/psyche/XmlCharsEncodePinLaw", "cont", "(I)Z"⟩ : MethodName)) hown (mvT hZ (hw _ (List.mem_of_getElem? (i := 13) rfl))) (mvT hZ (hw _ (List.mem_of_getElem? (i := 14) rfl))) (mvT hZ (hw _ (List.mem_of_getElem? (i := 11) rfl))) (mvT hZ (hw _ (List.mem_of_getElem? (i := 15) rfl))) (by decide) (backOf (W := 0) (own_rm3 l Z a0 hw [] v433 Tg140.heap n0 Zz_9) hZ (hw _ (List.mem_of_getElem? (i := 15) rfl)) (hw _ (List.mem_of_getElem? (i := 11) rfl)) (by decide) (by decide)) (g := (mkF m 538 #[.val (.int p0), .val (.int p1), .val (.int p2), .val (.int p3), .val (.int v3), .val (.int v9), .val (.int v75), .val (.int v80), .val (.int v84), .val (.ref b88), .val (.int (4 : Int32)), .val (.int (4 : Int32)), .val (.int (1 : Int32)), .val (.int v337), .val (.int v369), .val (.int v433), .val (.int v514)] [(.int v433)])) rfl (by rw [hml]; rfl) (argsL := [(.int v433)]) (rest := []) (lenOf own_pd2 rfl) rfl (by show 2 * 0 + _ ≤ _; exact Nat.le_of_eq rfl) (hb hby at_538) (fun _ _ => ⟨rfl, eg530, (by decide : 1 + 0 ≤ _), (by decide : 8 + 0 ≤ _)⟩)
        dsimp only [Pt.U, Pt.locs, Pt.cells, Pt.slots] at Xg538 lg538 yg538 zg538 stg538 hQg538
        subst lg538 yg538 zg538
        obtain ⟨rfl, Ng538q, eg538⟩ := hQg538
        have Ng538 := Fr.app Ng530 Ng538q
        refine own_st (stg538) ?_
        have c541 : (v433 &&& (192 : Int32)) = (128 : Int32) := by
          exact own_a192 _ (by omega) (by omega)
        refine own_st (B := Tg538.setTop (mkF m 546 #[.val (.int p0), .val (.int p1), .val (.int p2), .val (.int p3), .val (.int v3), .val (.int v9), .val (.int v75), .val (.int v80), .val (.int v84), .val (.ref b88), .val (.int (4 : Int32)), .val (.int (4 : Int32)), .val (.int (1 : Int32)), .val (.int v337), .val (.int v369), .val (.int v433), .val (.int v514)] [(.int v514)])) (fun target kt => ?_) ?_
        · show Steps p.tables e below (Tg538.setTop (mkF m 541 #[.val (.int p0), .val (.int p1), .val (.int p2), .val (.int p3), .val (.int v3), .val (.int v9), .val (.int v75), .val (.int v80), .val (.int v84), .val (.ref b88), .val (.int (4 : Int32)), .val (.int (4 : Int32)), .val (.int (1 : Int32)), .val (.int v337), .val (.int v369), .val (.int v433), .val (.int v514)] [(.int (own_b ((v433 &&& (192 : Int32)) = (128 : Int32))))])) target
          refine XS.ifNo Xg538.here hx rfl (hb hby at_541) rfl ((if0 _ _).trans (feq (own_bn0 rfl c541)).1) ?_
          show Steps p.tables e below (Tg538.setTop (mkF m 544 #[.val (.int p0), .val (.int p1), .val (.int p2), .val (.int p3), .val (.int v3), .val (.int v9), .val (.int v75), .val (.int v80), .val (.int v84), .val (.ref b88), .val (.int (4 : Int32)), .val (.int (4 : Int32)), .val (.int (1 : Int32)), .val (.int v337), .val (.int v369), .val (.int v433), .val (.int v514)] [])) target
          refine XS.iload Xg538.here hx rfl (hb hby at_544) rfl ?_
          exact kt
        obtain ⟨_, _, ⟨Tg546, Lg546, kg546, ng546⟩, -, Xg546, ⟨Lcg546, hQg546, lg546, yg546, zg546⟩, stg546⟩ := Jvm.LawKit.callS Xg538 hx (y := (⟨"com/example/psyche/psyche/XmlCharsEncodePinLaw", "cont", "(I)Z"⟩ : MethodName)) hown (mvT hZ (hw _ (List.mem_of_getElem? (i := 13) rfl))) (mvT hZ (hw _ (List.mem_of_getElem? (i := 14) rfl))) (mvT hZ (hw _ (List.mem_of_getElem? (i := 11) rfl))) (mvT hZ (hw _ (List.mem_of_getElem? (i := 15) rfl))) (by decide) (backOf (W := 0) (own_rm3 l Z a0 hw [] v514 Tg140.heap n0 Zz_9) hZ (hw _ (List.mem_of_getElem? (i := 15) rfl)) (hw _ (List.mem_of_getElem? (i := 11) rfl)) (by decide) (by decide)) (g := (mkF m 546 #[.val (.int p0), .val (.int p1), .val (.int p2), .val (.int p3), .val (.int v3), .val (.int v9), .val (.int v75), .val (.int v80), .val (.int v84), .val (.ref b88), .val (.int (4 : Int32)), .val (.int (4 : Int32)), .val (.int (1 : Int32)), .val (.int v337), .val (.int v369), .val (.int v433), .val (.int v514)] [(.int v514)])) rfl (by rw [hml]; rfl) (argsL := [(.int v514)]) (rest := []) (lenOf own_pd2 rfl) rfl (by show 2 * 0 + _ ≤ _; exact Nat.le_of_eq rfl) (hb hby at_546) (fun _ _ => ⟨rfl, eg538, (by decide : 1 + 0 ≤ _), (by decide : 8 + 0 ≤ _)⟩)
        dsimp only [Pt.U, Pt.locs, Pt.cells, Pt.slots] at Xg546 lg546 yg546 zg546 stg546 hQg546
        subst lg546 yg546 zg546
        obtain ⟨rfl, Ng546q, eg546⟩ := hQg546
        have Ng546 := Fr.app Ng538 Ng546q
        refine own_st (stg546) ?_
        have c549 : (v514 &&& (192 : Int32)) = (128 : Int32) := by
          exact own_a192 _ (by omega) (by omega)
        refine own_st (B := Tg546.setTop (mkF m 586 #[.val (.int p0), .val (.int p1), .val (.int p2), .val (.int p3), .val (.int v3), .val (.int v9), .val (.int v75), .val (.int v80), .val (.int v84), .val (.ref b88), .val (.int (4 : Int32)), .val (.int (4 : Int32)), .val (.int (1 : Int32)), .val (.int v337), .val (.int v369), .val (.int v433), .val (.int v514)] [(.int v75), (.int (((((v337 &&& (7 : Int32)) <<< ((18 : Int32) &&& 31)) ||| ((v369 &&& (63 : Int32)) <<< ((12 : Int32) &&& 31))) ||| ((v433 &&& (63 : Int32)) <<< ((6 : Int32) &&& 31))) ||| (v514 &&& (63 : Int32))))])) (fun target kt => ?_) ?_
        · show Steps p.tables e below (Tg546.setTop (mkF m 549 #[.val (.int p0), .val (.int p1), .val (.int p2), .val (.int p3), .val (.int v3), .val (.int v9), .val (.int v75), .val (.int v80), .val (.int v84), .val (.ref b88), .val (.int (4 : Int32)), .val (.int (4 : Int32)), .val (.int (1 : Int32)), .val (.int v337), .val (.int v369), .val (.int v433), .val (.int v514)] [(.int (own_b ((v514 &&& (192 : Int32)) = (128 : Int32))))])) target
          refine XS.ifNo Xg546.here hx rfl (hb hby at_549) rfl ((if0 _ _).trans (feq (own_bn0 rfl c549)).1) ?_
          show Steps p.tables e below (Tg546.setTop (mkF m 552 #[.val (.int p0), .val (.int p1), .val (.int p2), .val (.int p3), .val (.int v3), .val (.int v9), .val (.int v75), .val (.int v80), .val (.int v84), .val (.ref b88), .val (.int (4 : Int32)), .val (.int (4 : Int32)), .val (.int (1 : Int32)), .val (.int v337), .val (.int v369), .val (.int v433), .val (.int v514)] [])) target
          refine XS.iload Xg546.here hx rfl (hb hby at_552) rfl ?_
          show Steps p.tables e below (Tg546.setTop (mkF m 554 #[.val (.int p0), .val (.int p1), .val (.int p2), .val (.int p3), .val (.int v3), .val (.int v9), .val (.int v75), .val (.int v80), .val (.int v84), .val (.ref b88), .val (.int (4 : Int32)), .val (.int (4 : Int32)), .val (.int (1 : Int32)), .val (.int v337), .val (.int v369), .val (.int v433), .val (.int v514)] [(.int v337)])) target
          refine XS.bipush Xg546.here hx rfl (hb hby at_554) ?_
          show Steps p.tables e below (Tg546.setTop (mkF m 556 #[.val (.int p0), .val (.int p1), .val (.int p2), .val (.int p3), .val (.int v3), .val (.int v9), .val (.int v75), .val (.int v80), .val (.int v84), .val (.ref b88), .val (.int (4 : Int32)), .val (.int (4 : Int32)), .val (.int (1 : Int32)), .val (.int v337), .val (.int v369), .val (.int v433), .val (.int v514)] [(.int (7 : Int32)), (.int v337)])) target
          refine XS.iand Xg546.here hx rfl (hb hby at_556) rfl ?_
          show Steps p.tables e below (Tg546.setTop (mkF m 557 #[.val (.int p0), .val (.int p1), .val (.int p2), .val (.int p3), .val (.int v3), .val (.int v9), .val (.int v75), .val (.int v80), .val (.int v84), .val (.ref b88), .val (.int (4 : Int32)), .val (.int (4 : Int32)), .val (.int (1 : Int32)), .val (.int v337), .val (.int v369), .val (.int v433), .val (.int v514)] [(.int (v337 &&& (7 : Int32)))])) target
          refine XS.bipush Xg546.here hx rfl (hb hby at_557) ?_
          show Steps p.tables e below (Tg546.setTop (mkF m 559 #[.val (.int p0), .val (.int p1), .val (.int p2), .val (.int p3), .val (.int v3), .val (.int v9), .val (.int v75), .val (.int v80), .val (.int v84), .val (.ref b88), .val (.int (4 : Int32)), .val (.int (4 : Int32)), .val (.int (1 : Int32)), .val (.int v337), .val (.int v369), .val (.int v433), .val (.int v514)] [(.int (18 : Int32)), (.int (v337 &&& (7 : Int32)))])) target
          refine XS.ishl Xg546.here hx rfl (hb hby at_559) rfl ?_
          show Steps p.tables e below (Tg546.setTop (mkF m 560 #[.val (.int p0), .val (.int p1), .val (.int p2), .val (.int p3), .val (.int v3), .val (.int v9), .val (.int v75), .val (.int v80), .val (.int v84), .val (.ref b88), .val (.int (4 : Int32)), .val (.int (4 : Int32)), .val (.int (1 : Int32)), .val (.int v337), .val (.int v369), .val (.int v433), .val (.int v514)] [(.int ((v337 &&& (7 : Int32)) <<< ((18 : Int32) &&& 31)))])) target
          refine XS.iload Xg546.here hx rfl (hb hby at_560) rfl ?_
          show Steps p.tables e below (Tg546.setTop (mkF m 562 #[.val (.int p0), .val (.int p1), .val (.int p2), .val (.int p3), .val (.int v3), .val (.int v9), .val (.int v75), .val (.int v80), .val (.int v84), .val (.ref b88), .val (.int (4 : Int32)), .val (.int (4 : Int32)), .val (.int (1 : Int32)), .val (.int v337), .val (.int v369), .val (.int v433), .val (.int v514)] [(.int v369), (.int ((v337 &&& (7 : Int32)) <<< ((18 : Int32) &&& 31)))])) target
          refine XS.bipush Xg546.here hx rfl (hb hby at_562) ?_
          show Steps p.tables e below (Tg546.setTop (mkF m 564 #[.val (.int p0), .val (.int p1), .val (.int p2), .val (.int p3), .val (.int v3), .val (.int v9), .val (.int v75), .val (.int v80), .val (.int v84), .val (.ref b88), .val (.int (4 : Int32)), .val (.int (4 : Int32)), .val (.int (1 : Int32)), .val (.int v337), .val (.int v369), .val (.int v433), .val (.int v514)] [(.int (63 : Int32)), (.int v369), (.int ((v337 &&& (7 : Int32)) <<< ((18 : Int32) &&& 31)))])) target
          refine XS.iand Xg546.here hx rfl (hb hby at_564) rfl ?_
          show Steps p.tables e below (Tg546.setTop (mkF m 565 #[.val (.int p0), .val (.int p1), .val (.int p2), .val (.int p3), .val (.int v3), .val (.int v9), .val (.int v75), .val (.int v80), .val (.int v84), .val (.ref b88), .val (.int (4 : Int32)), .val (.int (4 : Int32)), .val (.int (1 : Int32)), .val (.int v337), .val (.int v369), .val (.int v433), .val (.int v514)] [(.int (v369 &&& (63 : Int32))), (.int ((v337 &&& (7 : Int32)) <<< ((18 : Int32) &&& 31)))])) target
          refine XS.bipush Xg546.here hx rfl (hb hby at_565) ?_
          show Steps p.tables e below (Tg546.setTop (mkF m 567 #[.val (.int p0), .val (.int p1), .val (.int p2), .val (.int p3), .val (.int v3), .val (.int v9), .val (.int v75), .val (.int v80), .val (.int v84), .val (.ref b88), .val (.int (4 : Int32)), .val (.int (4 : Int32)), .val (.int (1 : Int32)), .val (.int v337), .val (.int v369), .val (.int v433), .val (.int v514)] [(.int (12 : Int32)), (.int (v369 &&& (63 : Int32))), (.int ((v337 &&& (7 : Int32)) <<< ((18 : Int32) &&& 31)))])) target
          refine XS.ishl Xg546.here hx rfl (hb hby at_567) rfl ?_
          show Steps p.tables e below (Tg546.setTop (mkF m 568 #[.val (.int p0), .val (.int p1), .val (.int p2), .val (.int p3), .val (.int v3), .val (.int v9), .val (.int v75), .val (.int v80), .val (.int v84), .val (.ref b88), .val (.int (4 : Int32)), .val (.int (4 : Int32)), .val (.int (1 : Int32)), .val (.int v337), .val (.int v369), .val (.int v433), .val (.int v514)] [(.int ((v369 &&& (63 : Int32)) <<< ((12 : Int32) &&& 31))), (.int ((v337 &&& (7 : Int32)) <<< ((18 : Int32) &&& 31)))])) target
          refine XS.ior Xg546.here hx rfl (hb hby at_568) rfl ?_
          show Steps p.tables e below (Tg546.setTop (mkF m 569 #[.val (.int p0), .val (.int p1), .val (.int p2), .val (.int p3), .val (.int v3), .val (.int v9), .val (.int v75), .val (.int v80), .val (.int v84), .val (.ref b88), .val (.int (4 : Int32)), .val (.int (4 : Int32)), .val (.int (1 : Int32)), .val (.int v337), .val (.int v369), .val (.int v433), .val (.int v514)] [(.int (((v337 &&& (7 : Int32)) <<< ((18 : Int32) &&& 31)) ||| ((v369 &&& (63 : Int32)) <<< ((12 : Int32) &&& 31))))])) target
          refine XS.iload Xg546.here hx rfl (hb hby at_569) rfl ?_
          show Steps p.tables e below (Tg546.setTop (mkF m 571 #[.val (.int p0), .val (.int p1), .val (.int p2), .val (.int p3), .val (.int v3), .val (.int v9), .val (.int v75), .val (.int v80), .val (.int v84), .val (.ref b88), .val (.int (4 : Int32)), .val (.int (4 : Int32)), .val (.int (1 : Int32)), .val (.int v337), .val (.int v369), .val (.int v433), .val (.int v514)] [(.int v433), (.int (((v337 &&& (7 : Int32)) <<< ((18 : Int32) &&& 31)) ||| ((v369 &&& (63 : Int32)) <<< ((12 : Int32) &&& 31))))])) target
          refine XS.bipush Xg546.here hx rfl (hb hby at_571) ?_
          show Steps p.tables e below (Tg546.setTop (mkF m 573 #[.val (.int p0), .val (.int p1), .val (.int p2), .val (.int p3), .val (.int v3), .val (.int v9), .val (.int v75), .val (.int v80), .val (.int v84), .val (.ref b88), .val (.int (4 : Int32)), .val (.int (4 : Int32)), .val (.int (1 : Int32)), .val (.int v337), .val (.int v369), .val (.int v433), .val (.int v514)] [(.int (63 : Int32)), (.int v433), (.int (((v337 &&& (7 : Int32)) <<< ((18 : Int32) &&& 31)) ||| ((v369 &&& (63 : Int32)) <<< ((12 : Int32) &&& 31))))])) target
          refine XS.iand Xg546.here hx rfl (hb hby at_573) rfl ?_
          show Steps p.tables e below (Tg546.setTop (mkF m 574 #[.val (.int p0), .val (.int p1), .val (.int p2), .val (.int p3), .val (.int v3), .val (.int v9), .val (.int v75), .val (.int v80), .val (.int v84), .val (.ref b88), .val (.int (4 : Int32)), .val (.int (4 : Int32)), .val (.int (1 : Int32)), .val (.int v337), .val (.int v369), .val (.int v433), .val (.int v514)] [(.int (v433 &&& (63 : Int32))), (.int (((v337 &&& (7 : Int32)) <<< ((18 : Int32) &&& 31)) ||| ((v369 &&& (63 : Int32)) <<< ((12 : Int32) &&& 31))))])) target
          refine XS.bipush Xg546.here hx rfl (hb hby at_574) ?_
          show Steps p.tables e below (Tg546.setTop (mkF m 576 #[.val (.int p0), .val (.int p1), .val (.int p2), .val (.int p3), .val (.int v3), .val (.int v9), .val (.int v75), .val (.int v80), .val (.int v84), .val (.ref b88), .val (.int (4 : Int32)), .val (.int (4 : Int32)), .val (.int (1 : Int32)), .val (.int v337), .val (.int v369), .val (.int v433), .val (.int v514)] [(.int (6 : Int32)), (.int (v433 &&& (63 : Int32))), (.int (((v337 &&& (7 : Int32)) <<< ((18 : Int32) &&& 31)) ||| ((v369 &&& (63 : Int32)) <<< ((12 : Int32) &&& 31))))])) target
          refine XS.ishl Xg546.here hx rfl (hb hby at_576) rfl ?_
          show Steps p.tables e below (Tg546.setTop (mkF m 577 #[.val (.int p0), .val (.int p1), .val (.int p2), .val (.int p3), .val (.int v3), .val (.int v9), .val (.int v75), .val (.int v80), .val (.int v84), .val (.ref b88), .val (.int (4 : Int32)), .val (.int (4 : Int32)), .val (.int (1 : Int32)), .val (.int v337), .val (.int v369), .val (.int v433), .val (.int v514)] [(.int ((v433 &&& (63 : Int32)) <<< ((6 : Int32) &&& 31))), (.int (((v337 &&& (7 : Int32)) <<< ((18 : Int32) &&& 31)) ||| ((v369 &&& (63 : Int32)) <<< ((12 : Int32) &&& 31))))])) target
          refine XS.ior Xg546.here hx rfl (hb hby at_577) rfl ?_
          show Steps p.tables e below (Tg546.setTop (mkF m 578 #[.val (.int p0), .val (.int p1), .val (.int p2), .val (.int p3), .val (.int v3), .val (.int v9), .val (.int v75), .val (.int v80), .val (.int v84), .val (.ref b88), .val (.int (4 : Int32)), .val (.int (4 : Int32)), .val (.int (1 : Int32)), .val (.int v337), .val (.int v369), .val (.int v433), .val (.int v514)] [(.int ((((v337 &&& (7 : Int32)) <<< ((18 : Int32) &&& 31)) ||| ((v369 &&& (63 : Int32)) <<< ((12 : Int32) &&& 31))) ||| ((v433 &&& (63 : Int32)) <<< ((6 : Int32) &&& 31))))])) target
          refine XS.iload Xg546.here hx rfl (hb hby at_578) rfl ?_
          show Steps p.tables e below (Tg546.setTop (mkF m 580 #[.val (.int p0), .val (.int p1), .val (.int p2), .val (.int p3), .val (.int v3), .val (.int v9), .val (.int v75), .val (.int v80), .val (.int v84), .val (.ref b88), .val (.int (4 : Int32)), .val (.int (4 : Int32)), .val (.int (1 : Int32)), .val (.int v337), .val (.int v369), .val (.int v433), .val (.int v514)] [(.int v514), (.int ((((v337 &&& (7 : Int32)) <<< ((18 : Int32) &&& 31)) ||| ((v369 &&& (63 : Int32)) <<< ((12 : Int32) &&& 31))) ||| ((v433 &&& (63 : Int32)) <<< ((6 : Int32) &&& 31))))])) target
          refine XS.bipush Xg546.here hx rfl (hb hby at_580) ?_
          show Steps p.tables e below (Tg546.setTop (mkF m 582 #[.val (.int p0), .val (.int p1), .val (.int p2), .val (.int p3), .val (.int v3), .val (.int v9), .val (.int v75), .val (.int v80), .val (.int v84), .val (.ref b88), .val (.int (4 : Int32)), .val (.int (4 : Int32)), .val (.int (1 : Int32)), .val (.int v337), .val (.int v369), .val (.int v433), .val (.int v514)] [(.int (63 : Int32)), (.int v514), (.int ((((v337 &&& (7 : Int32)) <<< ((18 : Int32) &&& 31)) ||| ((v369 &&& (63 : Int32)) <<< ((12 : Int32) &&& 31))) ||| ((v433 &&& (63 : Int32)) <<< ((6 : Int32) &&& 31))))])) target
          refine XS.iand Xg546.here hx rfl (hb hby at_582) rfl ?_
          show Steps p.tables e below (Tg546.setTop (mkF m 583 #[.val (.int p0), .val (.int p1), .val (.int p2), .val (.int p3), .val (.int v3), .val (.int v9), .val (.int v75), .val (.int v80), .val (.int v84), .val (.ref b88), .val (.int (4 : Int32)), .val (.int (4 : Int32)), .val (.int (1 : Int32)), .val (.int v337), .val (.int v369), .val (.int v433), .val (.int v514)] [(.int (v514 &&& (63 : Int32))), (.int ((((v337 &&& (7 : Int32)) <<< ((18 : Int32) &&& 31)) ||| ((v369 &&& (63 : Int32)) <<< ((12 : Int32) &&& 31))) ||| ((v433 &&& (63 : Int32)) <<< ((6 : Int32) &&& 31))))])) target
          refine XS.ior Xg546.here hx rfl (hb hby at_583) rfl ?_
          show Steps p.tables e below (Tg546.setTop (mkF m 584 #[.val (.int p0), .val (.int p1), .val (.int p2), .val (.int p3), .val (.int v3), .val (.int v9), .val (.int v75), .val (.int v80), .val (.int v84), .val (.ref b88), .val (.int (4 : Int32)), .val (.int (4 : Int32)), .val (.int (1 : Int32)), .val (.int v337), .val (.int v369), .val (.int v433), .val (.int v514)] [(.int (((((v337 &&& (7 : Int32)) <<< ((18 : Int32) &&& 31)) ||| ((v369 &&& (63 : Int32)) <<< ((12 : Int32) &&& 31))) ||| ((v433 &&& (63 : Int32)) <<< ((6 : Int32) &&& 31))) ||| (v514 &&& (63 : Int32))))])) target
          refine XS.iload Xg546.here hx rfl (hb hby at_584) rfl ?_
          exact kt
        have c586 : (((((v337 &&& (7 : Int32)) <<< ((18 : Int32) &&& 31)) ||| ((v369 &&& (63 : Int32)) <<< ((12 : Int32) &&& 31))) ||| ((v433 &&& (63 : Int32)) <<< ((6 : Int32) &&& 31))) ||| (v514 &&& (63 : Int32))) = v75 := by
          exact own_j4 v75 _ _ _ _ (by omega) (by omega) hx0 hx1 hx2 hx3
        refine own_st (B := Tg546.setTop (mkF m 594 #[.val (.int p0), .val (.int p1), .val (.int p2), .val (.int p3), .val (.int v3), .val (.int v9), .val (.int v75), .val (.int v80), .val (.int v84), .val (.ref b88), .val (.int (4 : Int32)), .val (.int (4 : Int32)), .val (.int (1 : Int32)), .val (.int v337), .val (.int v369), .val (.int v433), .val (.int v514)] [(.int (1 : Int32))])) (fun target kt => ?_) ?_
        · show Steps p.tables e below (Tg546.setTop (mkF m 586 #[.val (.int p0), .val (.int p1), .val (.int p2), .val (.int p3), .val (.int v3), .val (.int v9), .val (.int v75), .val (.int v80), .val (.int v84), .val (.ref b88), .val (.int (4 : Int32)), .val (.int (4 : Int32)), .val (.int (1 : Int32)), .val (.int v337), .val (.int v369), .val (.int v433), .val (.int v514)] [(.int v75), (.int (((((v337 &&& (7 : Int32)) <<< ((18 : Int32) &&& 31)) ||| ((v369 &&& (63 : Int32)) <<< ((12 : Int32) &&& 31))) ||| ((v433 &&& (63 : Int32)) <<< ((6 : Int32) &&& 31))) ||| (v514 &&& (63 : Int32))))])) target
          refine XS.icmpNo Xg546.here hx rfl (hb hby at_586) rfl (teq c586).2 ?_
          show Steps p.tables e below (Tg546.setTop (mkF m 589 #[.val (.int p0), .val (.int p1), .val (.int p2), .val (.int p3), .val (.int v3), .val (.int v9), .val (.int v75), .val (.int v80), .val (.int v84), .val (.ref b88), .val (.int (4 : Int32)), .val (.int (4 : Int32)), .val (.int (1 : Int32)), .val (.int v337), .val (.int v369), .val (.int v433), .val (.int v514)] [])) target
          refine XS.iconst Xg546.here hx rfl (hb hby at_589) ?_
          show Steps p.tables e below (Tg546.setTop (mkF m 590 #[.val (.int p0), .val (.int p1), .val (.int p2), .val (.int p3), .val (.int v3), .val (.int v9), .val (.int v75), .val (.int v80), .val (.int v84), .val (.ref b88), .val (.int (4 : Int32)), .val (.int (4 : Int32)), .val (.int (1 : Int32)), .val (.int v337), .val (.int v369), .val (.int v433), .val (.int v514)] [(.int (1 : Int32))])) target
          refine XS.goto Xg546.here hx rfl (pc0 := 590) (pc' := 594) rfl (hb hby at_590) (by decide) (by decide) ?_
          exact kt
        obtain ⟨fs, hr, hrun, hended, hW, hsame⟩ := Xg546.leave (v := some (.int (1 : Int32))) (fun h => by rw [Bd.returns] at h; cases h)
        have hend : Steps p.tables e below (Tg546.setTop (mkF m 594 #[.val (.int p0), .val (.int p1), .val (.int p2), .val (.int p3), .val (.int v3), .val (.int v9), .val (.int v75), .val (.int v80), .val (.int v84), .val (.ref b88), .val (.int (4 : Int32)), .val (.int (4 : Int32)), .val (.int (1 : Int32)), .val (.int v337), .val (.int v369), .val (.int v433), .val (.int v514)] [(.int (1 : Int32))])) (Tg546.setFrames fs) := by
          exact retN Xg546 hx (t := .boolean) Bd.returns (by simp) (hb hby at_594) hr
        refine own_fin hend ⟨_, hrun, hended, _, _, rfl, ?_, ⟨_, rfl⟩, hW, hsame.mono (by decide) (by decide)⟩
        show own_Q0 Z p0 p1 p2 p3 h0 n0 _ Tg546.heap _
        rw [eg546]
        exact ⟨rfl, Ng546⟩
set_option maxRecDepth 65536 in
set_option maxHeartbeats 40000000 in
theorem own_comes_1 {Post : Tables → Env → Array Value → State → Outcome → State → Prop} (hpost : ∀ tb e args s v u, (limb_1_1.after args s (.returned v) u = true ∧ limb_1_2.after args s (.returned v) u = true ∧ True) → FrameEnd s (.returned v) u (Jvm.fieldLocs frame_1_writes args s ++ Jvm.arrayLocs frame_1_arrays args s ++ Jvm.staticLocs frame_1_statics s) 16 128 → Post tb e args s (.returned v) u) :
    ArmFor flags0 classFile x code maxLocals ret World_1 tables_1 room_1 Calls_1 rest_1 Pre_1 Post := by
  intro l hfl _ _ p e ha hc hk s m args below hf hA hF happ hP
  obtain ⟨hcalls, hrest, hpre⟩ := hP
  obtain ⟨-, -, -, hnamed, -, -, -, hat⟩ := (Spec.applies_iff hf).mp happ
  obtain ⟨hg, hn⟩ := and_e (Cond.before_iff.mp (show (Jvm.Cond.and given_1 narrow_1).before args s = true from hpre))
  obtain ⟨g1, g2⟩ := and_e hg
  obtain ⟨g3, g4⟩ := and_e g2
  obtain ⟨g5, g6⟩ := and_e g4
  obtain ⟨g7, g8⟩ := and_e g6
  obtain ⟨w0, w1, w2, w3, rfl⟩ : ∃ w0 w1 w2 w3 : Value, args = #[w0, w1, w2, w3] := by
    have hs : args.size = 4 := by simpa [Cond.value, given_1] using g1
    obtain ⟨L⟩ := args
    match L, hs with
    | [w0, w1, w2, w3], _ => exact ⟨w0, w1, w2, w3, rfl⟩
  have hw := fun d (hd : d ∈ tables_1) => atoms_spec (ws := Jvm.Cond.code x code maxLocals ret :: tables_1) hat d (List.mem_cons_of_mem _ hd)
  obtain ⟨i0, ei0⟩ := is_v g3
  obtain rfl : w0 = (.int i0) := Option.some.inj ei0
  obtain ⟨i1, ei1⟩ := is_v g5
  obtain rfl : w1 = (.int i1) := Option.some.inj ei1
  obtain ⟨i2, ei2⟩ := is_v g7
  obtain rfl : w2 = (.int i2) := Option.some.inj ei2
  obtain ⟨i3, ei3⟩ := is_v g8
  obtain rfl : w3 = (.int i3) := Option.some.inj ei3
  obtain ⟨n, o, h1, h2, h3, _, L, rfl, ⟨rfl, N⟩, hq⟩ := own_rm0 l s _ hw tables_1 i0 i1 i2 i3 s.heap s.heap.size (Nat.le_refl _) p e ha hc hk s m _ below hf ((Spec.applies_iff_loose hf).mp happ).1 ⟨rfl, State.Warmed39.refl s, rfl⟩ trivial
  refine ⟨n, _, h1, h2, h3, hpost _ _ _ _ _ _ ⟨Cond.after_iff.mpr rfl, Cond.after_iff.mpr (eq_i res_at (Term.int_eval (1)) rfl), trivial⟩ ⟨hq.1, hq.2.1, (hq.2.2.sift fun y hy => Or.inr (N y hy)).mono (by decide) (by decide)⟩⟩
theorem main_1_1 : Claimed_1_1 := own_comes_1 fun _ _ _ _ _ _ h hF => ⟨h.1, hF⟩
theorem main_1_2 : Claimed_1_2 := own_comes_1 fun _ _ _ _ _ _ h hF => ⟨h.2.1, hF⟩
end Jvm.Pilot.@@N@@
namespace Jvm.Pilot.@@N@@
open Jvm Jvm.ClassFile Sem Op Lib Jvm.Free Jvm.Stand Jvm.Pilot.@@N@@.Jvm.D
/-! MADE BY PROGRAM (witnessworld.py) out of the Statement's table words and the real class files: 9 classes; the members and pool entries that the words name. The judged class is class 1, her method 1. -/
namespace start1
open Jvm.ClassFile
def u (s : String) : CpInfo := .utf8 (stringToUtf16 s)
/-- a pool by its gaps: so many unusable entries, then the entry; so many at the end -/
def gap : Nat → List CpInfo → List CpInfo
  | 0, r => r
  | n + 1, r => .unusable :: gap n r
def poolList (es : List (Nat × CpInfo)) (last : Nat) : List CpInfo := es.foldr (fun e r => gap e.1 (e.2 :: r)) (gap last [])
def pool (es : List (Nat × CpInfo)) (last : Nat) : Array CpInfo := ⟨poolList es last⟩
def fileOf (pool : Array CpInfo) (this : Nat) (attrs : Array Attribute := #[]) (ms : Array MethodInfo := #[]) (fl : Nat := 33) (sup : Nat := 0) (ifs : Array Nat := #[]) (fds : Array FieldInfo := #[]) : ClassFile where
  minorVersion := 0
  majorVersion := 65
  constantPool := pool
  accessFlags := fl
  thisClass := this
  superClass := sup
  interfaces := ifs
  fields := fds
  methods := ms
  attributes := attrs
def plain (name : String) (sup : Option ClassId) : Class where
  name := name
  kind := .ordinary
  loader := none
  accessFlags := 33
  super := sup
  interfaces := #[]
  cf := none
  fields := #[]
  methods := #[]
  instanceTypes := #[]
  staticTypes := #[]
  resolved := #[]
  callSites := []
  init := .initialized
  statics := none
  mirror := none

def pool0 : Array CpInfo := pool [(5, u "<init>"), (0, u "()V"), (1, .class_ 10), (1, u "java/lang/Object")] 113

def k0m0 : Method := { name := "<init>", desc := "()V", sig := { parameters := [], returnType := none }, accessFlags := 1, code := none }
/-- java/lang/Object -/
def k0 : Class := { plain "java/lang/Object" none with
  accessFlags := 33
  interfaces := #[]
  cf := some (fileOf pool0 8 #[] #[{ accessFlags := 1, nameIndex := 5, descriptorIndex := 6, attributes := #[] }] 33 0 #[] #[])
  fields := #[]
  methods := #[k0m0]
  instanceTypes := #[]
  staticTypes := #[]
  resolved := Array.replicate 124 none
  statics := none }

def pool1 : Array CpInfo := pool [(2, .class_ 4), (1, u "java/lang/Object"), (0, u "<init>"), (0, u "()V"), (0, .integer 2147483647), (0, .integer 63488), (0, .integer 65536), (0, .integer 1048576), (0, .methodref 12 13), (0, .class_ 14), (0, .nameAndType 15 16), (0, u "com/example/psyche/psyche/XmlChars"), (0, u "encode"), (0, u "(I[BI)I"), (0, .methodref 18 19), (0, .class_ 20), (0, .nameAndType 21 22), (0, u "com/example/psyche/psyche/XmlCharsEncodePinLaw"), (0, u "same"), (0, u "([BIIIB)Z"), (0, .methodref 18 24), (0, .nameAndType 25 26), (0, u "cont"), (0, u "(I)Z"), (2, u "law"), (0, u "(IIII)Z")] 5

def k1m0 : Method := { name := "<init>", desc := "()V", sig := { parameters := [], returnType := none }, accessFlags := 1, code := none }
def k1c1 : Code := { maxStack := 5, maxLocals := 17, code := code, exceptionTable := #[], attributes := #[] }
def k1m1 : Method := { name := "law", desc := "(IIII)Z", sig := { parameters := [.int, .int, .int, .int], returnType := some .boolean }, accessFlags := 9, code := some k1c1 }
def k1c2 : Code := { maxStack := 2, maxLocals := 1, code := method_3_code, exceptionTable := #[], attributes := #[] }
def k1m2 : Method := { name := "cont", desc := "(I)Z", sig := { parameters := [.int], returnType := some .boolean }, accessFlags := 10, code := some k1c2 }
def k1c3 : Code := { maxStack := 3, maxLocals := 5, code := method_4_code, exceptionTable := #[], attributes := #[] }
def k1m3 : Method := { name := "same", desc := "([BIIIB)Z", sig := { parameters := [(.array .byte), .int, .int, .int, .byte], returnType := some .boolean }, accessFlags := 10, code := some k1c3 }
/-- com/example/psyche/psyche/XmlCharsEncodePinLaw -/
def k1 : Class := { plain "com/example/psyche/psyche/XmlCharsEncodePinLaw" (some 0) with
  accessFlags := 49
  interfaces := #[]
  cf := some (fileOf pool1 18 #[] #[{ accessFlags := 1, nameIndex := 5, descriptorIndex := 6, attributes := #[] }, { accessFlags := 9, nameIndex := 29, descriptorIndex := 30, attributes := #[] }, { accessFlags := 10, nameIndex := 25, descriptorIndex := 26, attributes := #[] }, { accessFlags := 10, nameIndex := 21, descriptorIndex := 22, attributes := #[] }] 49 2 #[] #[])
  fields := #[]
  methods := #[k1m0, k1m1, k1m2, k1m3]
  instanceTypes := #[]
  staticTypes := #[]
  resolved := Array.replicate 36 none
  statics := none }

def pool2 : Array CpInfo := pool [(2, .class_ 4), (1, u "java/lang/Object"), (0, u "<init>"), (0, u "()V"), (1, .class_ 10), (1, u "com/example/psyche/psyche/XmlChars"), (0, u "ASCII_NAME_START"), (0, u "[Z"), (2, u "ASCII_NAME_CHAR"), (19, u "XMLNS"), (0, u "[B"), (25, .integer 65536), (56, u "NOT_UTF8"), (0, u "I"), (2, u "NOT_A_CHARACTER"), (1, u "CHARACTER_REFERENCE_FORM"), (0, u "Ljava/lang/String;"), (2, u "ENTITY_REFERENCE_FORM"), (2, u "DOUBLE_HYPHEN_IN_COMMENT"), (2, u "COLON_IN_TARGET"), (22, u "encode"), (0, u "(I[BI)I"), (5, .class_ 166), (0, u "com/example/psyche/psyche/XmlChars$CharacterReference")] 16

def k2m0 : Method := { name := "<init>", desc := "()V", sig := { parameters := [], returnType := none }, accessFlags := 2, code := none }
def k2c1 : Code := { maxStack := 5, maxLocals := 3, code := prog_171_method_22_code, exceptionTable := #[], attributes := #[] }
def k2m1 : Method := { name := "encode", desc := "(I[BI)I", sig := { parameters := [.int, (.array .byte), .int], returnType := some .int }, accessFlags := 8, code := some k2c1 }
/-- com/example/psyche/psyche/XmlChars -/
def k2 : Class := { plain "com/example/psyche/psyche/XmlChars" (some 0) with
  accessFlags := 48
  interfaces := #[]
  cf := some (fileOf pool2 8 #[.nestMembers #[165]] #[{ accessFlags := 2, nameIndex := 5, descriptorIndex := 6, attributes := #[] }, { accessFlags := 8, nameIndex := 158, descriptorIndex := 159, attributes := #[] }] 48 2 #[] #[{ accessFlags := 24, nameIndex := 119, descriptorIndex := 120, attributes := #[] }, { accessFlags := 24, nameIndex := 123, descriptorIndex := 120, attributes := #[] }, { accessFlags := 24, nameIndex := 125, descriptorIndex := 126, attributes := #[] }, { accessFlags := 24, nameIndex := 129, descriptorIndex := 126, attributes := #[] }, { accessFlags := 24, nameIndex := 132, descriptorIndex := 126, attributes := #[] }, { accessFlags := 24, nameIndex := 135, descriptorIndex := 126, attributes := #[] }, { accessFlags := 26, nameIndex := 35, descriptorIndex := 36, attributes := #[] }, { accessFlags := 26, nameIndex := 11, descriptorIndex := 12, attributes := #[] }, { accessFlags := 26, nameIndex := 15, descriptorIndex := 12, attributes := #[] }])
  fields := #[{ name := "NOT_UTF8", type := .int, accessFlags := 24, slot := 0, constantValue := 0 }, { name := "NOT_A_CHARACTER", type := .int, accessFlags := 24, slot := 1, constantValue := 0 }, { name := "CHARACTER_REFERENCE_FORM", type := (.object "java/lang/String"), accessFlags := 24, slot := 2, constantValue := 0 }, { name := "ENTITY_REFERENCE_FORM", type := (.object "java/lang/String"), accessFlags := 24, slot := 3, constantValue := 0 }, { name := "DOUBLE_HYPHEN_IN_COMMENT", type := (.object "java/lang/String"), accessFlags := 24, slot := 4, constantValue := 0 }, { name := "COLON_IN_TARGET", type := (.object "java/lang/String"), accessFlags := 24, slot := 5, constantValue := 0 }, { name := "XMLNS", type := (.array .byte), accessFlags := 26, slot := 6, constantValue := 0 }, { name := "ASCII_NAME_START", type := (.array .boolean), accessFlags := 26, slot := 7, constantValue := 0 }, { name := "ASCII_NAME_CHAR", type := (.array .boolean), accessFlags := 26, slot := 8, constantValue := 0 }]
  methods := #[k2m0, k2m1]
  instanceTypes := #[]
  staticTypes := #[.int, .int, (.object "java/lang/String"), (.object "java/lang/String"), (.object "java/lang/String"), (.object "java/lang/String"), (.array .byte), (.array .boolean), (.array .boolean)]
  resolved := Array.replicate 183 none
  statics := none }

def pool3 : Array CpInfo := pool [(1, u "java/lang/Cloneable"), (0, .class_ 1), (0, u "java/lang/Object"), (0, .class_ 3)] 3

/-- java/lang/Cloneable -/
def k3 : Class := { plain "java/lang/Cloneable" (some 0) with
  accessFlags := 1537
  interfaces := #[]
  cf := some (fileOf pool3 2 #[] #[] 1537 4 #[] #[])
  fields := #[]
  methods := #[]
  instanceTypes := #[]
  staticTypes := #[]
  resolved := Array.replicate 8 none
  statics := none }

def pool4 : Array CpInfo := pool [(1, u "java/io/Serializable"), (0, .class_ 1), (0, u "java/lang/Object"), (0, .class_ 3)] 3

/-- java/io/Serializable -/
def k4 : Class := { plain "java/io/Serializable" (some 0) with
  accessFlags := 1537
  interfaces := #[]
  cf := some (fileOf pool4 2 #[] #[] 1537 4 #[] #[])
  fields := #[]
  methods := #[]
  instanceTypes := #[]
  staticTypes := #[]
  resolved := Array.replicate 8 none
  statics := none }

/-- the primitive byte -/
def k5 : Class := { plain "byte" none with kind := .primitive 'B', accessFlags := 0x411 }
/-- [B -/
def k6 : Class := { plain "[B" (some 0) with kind := .array 5 .byte, interfaces := #[3, 4], accessFlags := 1041 }

/-- the primitive int -/
def k7 : Class := { plain "int" none with kind := .primitive 'I', accessFlags := 0x411 }
/-- [I -/
def k8 : Class := { plain "[I" (some 0) with kind := .array 7 .int, interfaces := #[3, 4], accessFlags := 1041 }

def heap : Heap := #[]
def classes : Array Class := #[k0, k1, k2, k3, k4, k5, k6, k7, k8]
def interned : List (Array UInt16 × Addr) := []
def slotsUsed : Nat := 0
def theMethod : MethodId := ⟨1, 1⟩
def args0 : Array Value := #[.int 3, .int 4, .int 5, .int 6]
def aboutOver (below : List Frame) : State where
  vm := { classes := classes, interned := interned.toArray }
  heap := heap
  slotsUsed := slotsUsed
  threads := #[{ frames := .invoking theMethod args0 :: below }]
def below0 : List Frame := [.native { method := ⟨0, 0⟩, args := #[] }]
def about1 : State := aboutOver below0
def p0 : Program := .bare "" "" ""
def e0 : Env := launch0.env 0 0 0
theorem w_frames : about1.frames = Frame.invoking theMethod args0 :: below0 := rfl
set_option maxRecDepth 65536 in
theorem w_args : argsFit about1.vm theMethod args0 = true := by decide +kernel
set_option maxRecDepth 65536 in
theorem w_heap : heapFits about1 = true := by decide +kernel
set_option maxRecDepth 65536 in
theorem w_runnable : about1.curStatus? = some .runnable := by decide +kernel
set_option maxRecDepth 65536 in
theorem w_alone : about1.alone = true := by decide +kernel
set_option maxRecDepth 65536 in
theorem w_named : about1.methodNamed? x = some theMethod := by decide +kernel
set_option maxRecDepth 65536 in
theorem w_hears : about1.hears theMethod below0 = true := by decide +kernel
set_option maxRecDepth 65536 in
theorem w_ripe : about1.ripe theMethod args0 below0 = true := by decide +kernel
theorem w_running : about1.status = .running := rfl
set_option maxRecDepth 65536 in
theorem w_room : about1.hasRoom e0.platform room_1 = true :=
  launch0.hasRoom_least _ room_1 (by decide +kernel) (by decide +kernel) (by decide +kernel) (by decide +kernel) (by decide +kernel) (by decide +kernel)
theorem allAtoms_all (ts : List Jvm.Cond) (a : Array Jvm.Value) (st : Jvm.State) : (allAtoms ts).before a st = ts.all (fun c => c.before a st) := by
  induction ts with
  | nil => rfl
  | cons c t ih =>
    show (Jvm.Cond.and c (allAtoms t)).before a st = _
    rw [Jvm.Cond.before_and, ih, List.all_cons]
def words1 : List Jvm.Cond := Jvm.Cond.code x code maxLocals ret :: tables_1
/-- a 'code' word, met by the world's own term for the bytes: nothing is compared byte by byte -/
theorem code_word {y : MethodName} {bytes : ByteArray} {mx : Nat} {rt : Option FieldType} {a : Array Value} {s : State} {m : MethodId} {meth : Method} {c : Code} (h1 : s.methodNamed? y = some m) (h2 : s.vm.method? m = some meth) (h3 : meth.code = some c) (h4 : c.code = bytes)
    (h5 : (c.maxLocals == mx && c.exceptionTable.isEmpty && decide (c.maxStack ≤ mostOperands) && decide (meth.sig.returnType = rt) && !meth.locks && decide (parseMethodDescriptor y.desc = some meth.sig)) = true) : (Jvm.Cond.code y bytes mx rt).before a s = true := by
  simp only [Bool.and_eq_true, beq_iff_eq, Bool.not_eq_true', decide_eq_true_eq] at h5
  obtain ⟨⟨⟨⟨⟨g1, g2⟩, g3⟩, g4⟩, g5⟩, g6⟩ := h5
  simp [Cond.before, Cond.holds, Cond.value, h1, h2, h3, h4, g1, g2, g3, g4, g5, g6]
def isCode : Jvm.Cond → Bool
  | .code _ _ _ _ => true
  | _ => false
theorem all_split {L : List Jvm.Cond} {P : Jvm.Cond → Bool} (h1 : L.all (fun c => isCode c || P c) = true) (h2 : ∀ c ∈ L.filter isCode, P c = true) : L.all P = true := by
  refine List.all_eq_true.mpr fun c hc => ?_
  have h := List.all_eq_true.mp h1 c hc
  rcases Bool.eq_false_or_eq_true (isCode c) with hi | hi
  · exact h2 c (List.mem_filter.mpr ⟨hc, hi⟩)
  · simpa [hi] using h
set_option maxRecDepth 65536 in
theorem w_c0 : (Jvm.Cond.code x code maxLocals ret).before args0 about1 = true := code_word (m := ⟨1, 1⟩) (meth := k1m1) (c := k1c1) (by decide +kernel) rfl rfl rfl (by decide +kernel)
set_option maxRecDepth 65536 in
theorem w_c1 : (Jvm.Cond.code ({ cls := "com/example/psyche/psyche/XmlChars", name := "encode", desc := "(I[BI)I" } : Jvm.MethodName) prog_171_method_22_code (3 : Nat) (Option.some Jvm.ClassFile.FieldType.int)).before args0 about1 = true := code_word (m := ⟨2, 1⟩) (meth := k2m1) (c := k2c1) (by decide +kernel) rfl rfl rfl (by decide +kernel)
set_option maxRecDepth 65536 in
theorem w_c2 : (Jvm.Cond.code ({ cls := "com/example/psyche/psyche/XmlCharsEncodePinLaw", name := "same", desc := "([BIIIB)Z" } : Jvm.MethodName) method_4_code (5 : Nat) (Option.some Jvm.ClassFile.FieldType.boolean)).before args0 about1 = true := code_word (m := ⟨1, 3⟩) (meth := k1m3) (c := k1c3) (by decide +kernel) rfl rfl rfl (by decide +kernel)
set_option maxRecDepth 65536 in
theorem w_c3 : (Jvm.Cond.code ({ cls := "com/example/psyche/psyche/XmlCharsEncodePinLaw", name := "cont", desc := "(I)Z" } : Jvm.MethodName) method_3_code (1 : Nat) (Option.some Jvm.ClassFile.FieldType.boolean)).before args0 about1 = true := code_word (m := ⟨1, 2⟩) (meth := k1m2) (c := k1c2) (by decide +kernel) rfl rfl rfl (by decide +kernel)
def codes1 : List Jvm.Cond := [Jvm.Cond.code x code maxLocals ret, Jvm.Cond.code ({ cls := "com/example/psyche/psyche/XmlChars", name := "encode", desc := "(I[BI)I" } : Jvm.MethodName) prog_171_method_22_code (3 : Nat) (Option.some Jvm.ClassFile.FieldType.int), Jvm.Cond.code ({ cls := "com/example/psyche/psyche/XmlCharsEncodePinLaw", name := "same", desc := "([BIIIB)Z" } : Jvm.MethodName) method_4_code (5 : Nat) (Option.some Jvm.ClassFile.FieldType.boolean), Jvm.Cond.code ({ cls := "com/example/psyche/psyche/XmlCharsEncodePinLaw", name := "cont", desc := "(I)Z" } : Jvm.MethodName) method_3_code (1 : Nat) (Option.some Jvm.ClassFile.FieldType.boolean)]
set_option maxRecDepth 65536 in
theorem codes_eq : words1.filter isCode = codes1 := rfl
theorem w_codes : ∀ c ∈ words1.filter isCode, c.before args0 about1 = true := by
  rw [codes_eq]
  intro c hc
  simp only [codes1, List.mem_cons, List.not_mem_nil, or_false] at hc
  rcases hc with rfl | rfl | rfl | rfl
  · exact w_c0
  · exact w_c1
  · exact w_c2
  · exact w_c3
set_option maxRecDepth 65536 in
theorem w_t1 : words1.all (fun c => isCode c || c.before args0 about1) = true := by decide +kernel
theorem w_tables : (allAtoms (Jvm.Cond.code x code maxLocals ret :: tables_1)).before args0 about1 = true := by
  rw [allAtoms_all]
  show words1.all (fun c => c.before args0 about1) = true
  refine all_split ?_ w_codes
  rw [w_t1]
set_option maxRecDepth 65536 in
theorem w_case : (Jvm.Cond.and given_1 narrow_1).before args0 about1 = true := by decide +kernel
theorem w_applies : (headSpec (Jvm.Cond.code x code maxLocals ret :: tables_1) room_1).applies x e0.platform about1 = true :=
  (Spec.applies_iff w_frames).mpr ⟨w_running, w_runnable, w_alone, w_named, w_hears, w_ripe, w_room, w_tables⟩
theorem atStart : AtStart classFile x code maxLocals ret World_1 tables_1 room_1 Calls_1 rest_1 Pre_1 launch0 p0 e0 about1 theMethod args0 below0 :=
  ⟨lists_1, trivial, launch0.admits_env _ _ _, launch0.least_env, fairChoices_fair.cas, fairChoices_fair.clock, w_frames, w_args, w_heap, w_applies, trivial, trivial, w_case⟩
end start1
theorem witness_1 : WitnessClaimed_1 := ⟨start1.p0, start1.e0, start1.about1, start1.theMethod, start1.args0, start1.below0, start1.atStart⟩
end Jvm.Pilot.@@N@@
