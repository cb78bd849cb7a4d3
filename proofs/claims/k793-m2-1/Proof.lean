import JvmDerived
import JvmDerived.Pilot.@@N@@Statement
import JvmDerived.Pilot.@@N@@Code
set_option linter.unusedVariables false
set_option linter.unusedSimpArgs false
namespace Jvm.RoadKit
open Sem ClassFile Op Lib Jvm.Stand Jvm.Free Jvm.LawKit
section New
variable {p : Program} {l : Launch} {e : Env} {R : Room} {s : State} {m : MethodId} {args : Array Value} {below : List Frame} {meth : Method} {c : Code} {T : State} {locs : List Loc} {cells slots : Nat}
theorem retI (X : Stand p l e R s m args below meth c T locs cells slots) (hx : p.tables.exec = Jvm.exec) {pc : Nat} {Ls : Array Slot} {z : Int32} {rest : List Value} (hret : meth.sig.returnType = some .int) (hd : decode c.code pc = .ok (.ireturn, 1)) {fs : List Frame}
    (hl : ∀ (f : JFrame) (acts : List Action), f.method = m → f.locked = none → f.entered = [] → (doReturn e (T.setTop f) acts (some (.int z))).1 = T.setFrames fs) : Steps p.tables e below (T.setTop (mkF m pc Ls (.int z :: rest))) (T.setFrames fs) := by
  have hm' : T.vm.method? m = some meth := X.method'
  have hn : narrow .int (.int z) = .int z := rfl
  show Steps p.tables e below (T.setTop { method := m, pc := pc, locals := Ls, stack := _ :: rest, locked := none }) _
  jvm_step X.here [X.here.top, hx, hd, hm', hret, hn]
  first | (intro acts; rw [hl _ acts rfl rfl rfl]) | rw [hl _ _ rfl rfl rfl]
  exact Steps.refl _
theorem own_retJ (X : Stand p l e R s m args below meth c T locs cells slots) (hx : p.tables.exec = Jvm.exec) {pc : Nat} {Ls : Array Slot} {z : Int64} {rest : List Value} (hret : meth.sig.returnType = some .long) (hd : decode c.code pc = .ok (.lreturn, 1)) {fs : List Frame}
    (hl : ∀ (f : JFrame) (acts : List Action), f.method = m → f.locked = none → f.entered = [] → (doReturn e (T.setTop f) acts (some (.long z))).1 = T.setFrames fs) : Steps p.tables e below (T.setTop (mkF m pc Ls (.long z :: rest))) (T.setFrames fs) := by
  have hm' : T.vm.method? m = some meth := X.method'
  have hn : narrow .long (.long z) = .long z := rfl
  show Steps p.tables e below (T.setTop { method := m, pc := pc, locals := Ls, stack := _ :: rest, locked := none }) _
  jvm_step X.here [X.here.top, hx, hd, hm', hret, hn]
  first | (intro acts; rw [hl _ acts rfl rfl rfl]) | rw [hl _ _ rfl rfl rfl]
  exact Steps.refl _
end New
/-- from the state A the run comes to a state that P describes -/
def own_Lead (tb : Tables) (e : Env) (below : List Frame) (A : State) (P : State → Prop) : Prop := ∃ B, P B ∧ ∀ t, Steps tb e below B t → Steps tb e below A t
theorem own_st {tb : Tables} {e : Env} {below : List Frame} {A B : State} {P : State → Prop} (st : ∀ t, Steps tb e below B t → Steps tb e below A t) (h : own_Lead tb e below B P) : own_Lead tb e below A P := by
  obtain ⟨C, hp, hs⟩ := h
  exact ⟨C, hp, fun t k => st t (hs t k)⟩
theorem own_fin {tb : Tables} {e : Env} {below : List Frame} {A B : State} {P : State → Prop} (st : Steps tb e below A B) (h : P B) : own_Lead tb e below A P := ⟨B, h, fun t k => st.trans k⟩
theorem own_run {tb : Tables} {e : Env} {below : List Frame} {A : State} {K : State → Outcome → Prop} (h : own_Lead tb e below A (fun B => ∃ o, K B o)) : ∃ s₂ o, Steps tb e below A s₂ ∧ K s₂ o := by
  obtain ⟨B, ⟨o, hk⟩, st⟩ := h
  exact ⟨B, o, st B (Steps.refl _), hk⟩
/-- the array at a has n places, the i-th holds g i -/
def own_RayJ (Z : State) (h : Heap) (a : Addr) (n : Nat) (g : Nat → Int64) : Prop := ∃ c : Cell, Arr Z h a c .long ∧ c.slots.size = n ∧ ∀ i, i < n → c.slots[i]? = some (Value.long (g i))
theorem own_RayJ.ext {Z : State} {h h' : Heap} {a : Addr} {n : Nat} {g : Nat → Int64} (F : own_RayJ Z h a n g) (E : Ext h h') : own_RayJ Z h' a n g := by obtain ⟨c, A, r⟩ := F; exact ⟨c, A.ext E, r⟩
theorem own_RayJ.other {Z : State} {h h' : Heap} {a b : Addr} {n sl : Nat} {v : Value} {g : Nat → Int64} (F : own_RayJ Z h b n g) (W : Wr h h' a sl v) (q : b ≠ a) : own_RayJ Z h' b n g := by obtain ⟨c, A, r⟩ := F; exact ⟨c, A.other W q, r⟩
theorem own_RayJ.keep {Z : State} {h h' : Heap} {a : Addr} {n : Nat} {ws : List Addr} {g : Nat → Int64} (F : own_RayJ Z h a n g) (K : Keep h h' ws) (q : a ∉ ws) : own_RayJ Z h' a n g := by obtain ⟨c, A, r⟩ := F; exact ⟨c, ⟨K.2.1 a c A.1 q, A.2⟩, r⟩
theorem own_RayJ.lt {Z : State} {h : Heap} {a : Addr} {n : Nat} {g : Nat → Int64} (F : own_RayJ Z h a n g) : a < h.size := by obtain ⟨c, A, r⟩ := F; exact A.lt
theorem own_RayJ.cast {Z : State} {h : Heap} {a : Addr} {n : Nat} {g g' : Nat → Int64} (e : g = g') (F : own_RayJ Z h a n g) : own_RayJ Z h a n g' := e ▸ F
theorem own_RayJ_new {Z : State} {h : Heap} {a : Addr} {k : ClassId} {z : Int32} {n : Nat} (A : Arr Z h a (newA k .long z) .long) (q : ¬ z < 0) (e : z.toNatClampNeg = n) : own_RayJ Z h a n (fun _ => (0 : Int64)) := by
  obtain ⟨c, A', -, S, -, H, -⟩ := Arv.new A q
  refine ⟨c, A', S.trans e, fun i hi => ?_⟩
  have := H i (by rw [S, e]; exact hi)
  first | exact this | simpa [defaultValue] using this
theorem own_RayJ_set {Z : State} {h h' : Heap} {a : Addr} {n k : Nat} {g : Nat → Int64} {j : Int32} {v : Int64} (F : own_RayJ Z h a n g) (W : Wr h h' a j.toNatClampNeg (Value.long v)) (e : j.toNatClampNeg = k) : own_RayJ Z h' a n (fun i => if i = k then v else g i) := by
  obtain ⟨c, A, S, H⟩ := F
  refine ⟨_, A.same W, by first | exact (sz_set _ _ _).trans S | simp [Cell.setSlot, S], fun i hi => ?_⟩
  show (c.slots.setIfInBounds j.toNatClampNeg (Value.long v))[i]? = _
  rw [Array.getElem?_setIfInBounds, e]
  by_cases hk : k = i
  · subst hk
    simp [S, hi]
  · have := H i hi
    simp [hk, Ne.symm hk, this]
theorem own_RayJ_nth {c : Cell} {n : Nat} {g : Nat → Int64} {j : Int32} (H : ∀ i, i < n → c.slots[i]? = some (Value.long (g i))) (S : c.slots.size = n) (hin : ¬ (j < 0 ∨ c.slots.size ≤ j.toNatClampNeg)) : c.slots[j.toNatClampNeg]? = some (Value.long (g j.toNatClampNeg)) :=
  (H _ (S ▸ Nat.lt_of_not_le fun q => hin (Or.inr q)))
section Copy
variable {p : Program} {l : Launch} {e : Env} {R : Room} {s : State} {m : MethodId} {args : Array Value} {below : List Frame} {meth : Method} {c : Code} {T : State} {locs : List Loc} {cells slots : Nat} {Z : State} {h : Heap} {a b : Addr}
end Copy
theorem own_inb {c : Cell} {n : Nat} {j : Int32} (S : c.slots.size = n) (q : ¬ j < 0 ∧ j.toNatClampNeg < n) : ¬ (j < 0 ∨ c.slots.size ≤ j.toNatClampNeg) := fun w => w.elim q.1 fun z => absurd q.2 (Nat.not_lt.mpr (S ▸ z))
section Cold
variable {p : Program} {l : Launch} {e : Env} {R : Room} {s : State} {vm0 : Vm} {m : MethodId} {args : Array Value} {below : List Frame} {meth : Method} {c : Code} {T : State} {locs : List Loc} {cells slots : Nat} {Z : State} {a0 : Array Value} {h : Heap}
end Cold
end Jvm.RoadKit
namespace Jvm.Pilot.@@N@@
open Jvm Jvm.ClassFile Sem Op Lib Jvm.Free Jvm.Stand Jvm.LawKit Jvm.RoadKit Bundle Jvm.Pilot.@@N@@.Jvm.D
theorem own_and3 (a v : Int32) (h : v = a &&& (3 : Int32)) : v = (0 : Int32) ∨ v = (1 : Int32) ∨ v = (2 : Int32) ∨ v = (3 : Int32) := by
  have h1 := c_mask a 3 2 (by decide) (by decide)
  rw [← h] at h1
  have e0 : (0 : Int32).toInt = 0 := by decide
  have e1 : (1 : Int32).toInt = 1 := by decide
  have e2 : (2 : Int32).toInt = 2 := by decide
  have e3 : (3 : Int32).toInt = 3 := by decide
  simp only [← Int32.toInt_inj, e0, e1, e2, e3]
  omega
theorem own_sh (w : Int64) (q : Int32) : (w &&& ((-1 : Int64) <<< (q &&& 0x3f).toInt64)) = (((w.toUInt64 >>> (q &&& 0x3f).toInt64.toUInt64).toInt64) <<< (q &&& 0x3f).toInt64) := by
  obtain ⟨k, hk⟩ : ∃ k, q.toBitVec.toNat % 64 = k := ⟨_, rfl⟩
  obtain ⟨h1, h2⟩ := sm64 q k hk
  apply Int64.toBitVec_inj.mp
  show (w.toBitVec &&& ((-1 : Int64).toBitVec <<< ((q &&& 0x3f).toInt64.toBitVec.smod 64))) = ((w.toBitVec >>> ((q &&& 0x3f).toInt64.toBitVec % 64)) <<< ((q &&& 0x3f).toInt64.toBitVec.smod 64))
  have h3 : (BitVec.ofNat 64 k % 64).toNat = k := by
    rw [BitVec.toNat_umod, BitVec.toNat_ofNat]
    show k % 2 ^ 64 % 64 = k
    omega
  rw [h1, BitVec.shiftLeft_eq', BitVec.shiftLeft_eq', BitVec.ushiftRight_eq', smod64 k h2, h3, show (-1 : Int64).toBitVec = BitVec.allOnes 64 by decide]
  apply BitVec.eq_of_getLsbD_eq
  intro i hi
  simp only [BitVec.getLsbD_and, BitVec.getLsbD_shiftLeft, BitVec.getLsbD_ushiftRight, BitVec.getLsbD_allOnes]
  by_cases hc : i < k
  · simp [hc]
  · have h4 : k + (i - k) = i := by omega
    have h5 : i - k < 64 := by omega
    simp [hc, h4, h5, hi]
theorem own_last (w : Int64) (b r : Int32) (base B : Int64) (hb : base = 0 ∨ base = 64 ∨ base = 128) (hr : r = (1 : Int32) + (b &&& (63 : Int32))) (hB : B = base + r.toInt64) :
    (if ((B &&& (63 : Int64)).toInt32) = (0 : Int32) then w else (w &&& ((-1 : Int64) <<< (((64 : Int32) - ((B &&& (63 : Int64)).toInt32)) &&& 0x3f).toInt64))) = (if r < (64 : Int32) then (((w.toUInt64 >>> (((64 : Int32) - r) &&& 0x3f).toInt64.toUInt64).toInt64) <<< (((64 : Int32) - r) &&& 0x3f).toInt64) else w) := by
  have h1 := c_mask b 63 6 (by decide) (by decide)
  have h2 := c_iadd 1 (b &&& 63)
  have e1 : (1 : Int32).toInt = 1 := by decide
  have e0 : (0 : Int32).toInt = 0 := by decide
  have e64 : (64 : Int32).toInt = 64 := by decide
  have r1 := rng32 (1 + (b &&& 63))
  rw [h1, e1] at h2
  rw [← hr] at h2 r1
  have h3 := c_i2l r
  have h4 := c_ladd base r.toInt64
  have r2 := rng64 (base + r.toInt64)
  rw [← hB] at h4 r2
  have h5 : base.toInt = 0 ∨ base.toInt = 64 ∨ base.toInt = 128 := by
    rcases hb with rfl | rfl | rfl <;> decide
  have h6 := c_maskL B 63 6 (by decide) (by decide)
  have h7 := c_l2i (B &&& 63)
  have r3 := rng32 (B &&& 63).toInt32
  by_cases hc : r < (64 : Int32)
  · have hc' := hc
    rw [Int32.lt_iff_toInt_lt, e64] at hc'
    have hS : (B &&& (63 : Int64)).toInt32 = r := by
      apply Int32.toInt_inj.mp
      omega
    have hn : ¬ r = (0 : Int32) := fun q => by
      have h := congrArg Int32.toInt q
      rw [e0] at h
      omega
    rw [hS, if_neg hn, if_pos hc]
    exact own_sh w _
  · have hc' := hc
    rw [Int32.lt_iff_toInt_lt, e64] at hc'
    have hS : (B &&& (63 : Int64)).toInt32 = (0 : Int32) := by
      apply Int32.toInt_inj.mp
      omega
    rw [if_pos hS, if_neg hc]
theorem own_pn0 : plainName "com/example/barnacle/barnacle/WordBytes" = true := by first | (simp [plainName, overriddenIn]; done) | decide +kernel
theorem own_d1_0 : decode prog_28_method_8_code 0 = .ok (.lload_n 1, 1) := by decide +kernel
theorem own_d1_1 : decode prog_28_method_8_code 1 = .ok (.ldc2_w 9, 3) := by decide +kernel
theorem own_d1_4 : decode prog_28_method_8_code 4 = .ok (.land, 1) := by decide +kernel
theorem own_d1_5 : decode prog_28_method_8_code 5 = .ok (.l2i, 1) := by decide +kernel
theorem own_d1_6 : decode prog_28_method_8_code 6 = .ok (.istore_n 3, 1) := by decide +kernel
theorem own_d1_7 : decode prog_28_method_8_code 7 = .ok (.iload_n 3, 1) := by decide +kernel
theorem own_d1_8 : decode prog_28_method_8_code 8 = .ok (.ifCond .eq 20, 3) := by decide +kernel
theorem own_d1_28 : decode prog_28_method_8_code 28 = .ok (.return_, 1) := by decide +kernel
theorem own_ef1_n0 (m : MethodId) (r0 : Addr) (q1 : Int64) : entryFrame m #[(.ref r0), (.long q1)] 4 = mkF m 0 #[.val (.ref r0), .val (.long q1), .second, .unset] [] := by first | (simp [entryFrame, mkF, argsToLocals, Value.category]; done) | rfl
def own_Q1_n0 (Z : State) (r0 : Addr) (q1 : Int64) (g : Nat → Int64) (h0 : Heap) (n0 : Nat) (v : Option Value) (h : Heap) (L : List Loc) : Prop := (v = none) ∧ (Fr n0 L) ∧ (h = h0)
set_option maxRecDepth 65536 in
set_option maxHeartbeats 40000000 in
theorem own_rm1_n0 (l : Launch) (Z : State) (a0 : Array Value) (hw : ∀ d ∈ tables_1, d.before a0 Z = true) (ws : List Jvm.Cond) (r0 : Addr) (q1 : Int64) (g : Nat → Int64) (h0 : Heap) (n0 : Nat) (Z0 : n0 ≤ h0.size) (R_r0 : own_RayJ Z h0 r0 0 g) (hz : ((q1 &&& (63 : Int64)).toInt32) = (0 : Int32)) :
    MetFree l (⟨"com/example/barnacle/barnacle/WordBytes", "clearPast", "([JJ)V"⟩ : MethodName) (head1 (Jvm.Cond.code (⟨"com/example/barnacle/barnacle/WordBytes", "clearPast", "([JJ)V"⟩ : MethodName) prog_28_method_8_code 4 none :: ws) ({ frames := 0, cells := 0, slots := 0, locals := 0 } : Room)) (fun a U => a = #[(.ref r0), (.long q1)] ∧ Z.Warmed39 U.vm ∧ U.heap = h0) (fun _ _ _ _ _ => True) (fun _ U o U' => ∃ v L, o = .returned v ∧ own_Q1_n0 Z r0 q1 g h0 n0 v U'.heap L ∧ FrameEnd U o U' L ({ frames := 0, cells := 0, slots := 0, locals := 0 } : Room).cells ({ frames := 0, cells := 0, slots := 0, locals := 0 } : Room).slots) := by
  refine MetFree.of_bodySF (plainFor_of_name own_pn0) hisR ?_
  intro p e s m args below meth c s₁ Bd hml0 hP hK
  obtain ⟨rfl, hZ, hh⟩ := hP
  have hx := Bd.exec
  have hby := Bd.bytes
  have hml : c.maxLocals = 4 := hml0
  have hown : s.vm.findClass "com/example/barnacle/barnacle/WordBytes" = some m.cls := findClass_of_methodNamed Bd.named
  have hnm := (name_of_methodNamed Bd.named Bd.method).1
  have X0 : Stand p l e ({ frames := 0, cells := 0, slots := 0, locals := 0 } : Room) s m #[(.ref r0), (.long q1)] below meth c s₁ [] 0 0 := Stand.of_body Bd
  have e0 : s₁.heap = h0 := by rw [← hh, Bd.state]; rfl
  have N0 := Fr.nil n0
  have pre0 : ∀ t, Steps p.tables e below (s₁.setTop (mkF m 0 #[.val (.ref r0), .val (.long q1), .second, .unset] [])) t → Steps p.tables e below (s₁.setTop (entryFrame m #[(.ref r0), (.long q1)] 4)) t := fun t k => castTop (own_ef1_n0 m r0 q1) k
  refine own_run (own_st pre0 ?_)
  obtain ⟨v6, hv6⟩ : ∃ z : Int32, z = ((q1 &&& (63 : Int64)).toInt32) := ⟨_, rfl⟩
  refine own_st (B := s₁.setTop (mkF m 8 #[.val (.ref r0), .val (.long q1), .second, .val (.int v6)] [(.int v6)])) (fun target kt => ?_) ?_
  · show Steps p.tables e below (s₁.setTop (mkF m 0 #[.val (.ref r0), .val (.long q1), .second, .unset] [])) target
    refine XS.lloadN X0.here hx rfl (hb hby own_d1_0) rfl ?_
    show Steps p.tables e below (s₁.setTop (mkF m 1 #[.val (.ref r0), .val (.long q1), .second, .unset] [(.long q1)])) target
    refine X0.ldc2Long hx hown (mvT hZ (hw _ (List.mem_of_getElem? (i := 6) rfl))) (g := (mkF m 1 #[.val (.ref r0), .val (.long q1), .second, .unset] [(.long q1)])) rfl (hb hby own_d1_1) _ ?_
    show Steps p.tables e below (s₁.setTop (mkF m 4 #[.val (.ref r0), .val (.long q1), .second, .unset] [(.long (63 : Int64)), (.long q1)])) target
    refine XS.land X0.here hx rfl (hb hby own_d1_4) rfl ?_
    show Steps p.tables e below (s₁.setTop (mkF m 5 #[.val (.ref r0), .val (.long q1), .second, .unset] [(.long (q1 &&& (63 : Int64)))])) target
    refine XS.l2i X0.here hx rfl (hb hby own_d1_5) rfl ?_
    show Steps p.tables e below (s₁.setTop (mkF m 6 #[.val (.ref r0), .val (.long q1), .second, .unset] [(.int ((q1 &&& (63 : Int64)).toInt32))])) target
    refine XS.istoreN X0.here hx rfl (hb hby own_d1_6) rfl (l' := #[.val (.ref r0), .val (.long q1), .second, .val (.int v6)]) (by subst hv6; rfl) ?_
    show Steps p.tables e below (s₁.setTop (mkF m 7 #[.val (.ref r0), .val (.long q1), .second, .val (.int v6)] [])) target
    refine XS.iloadN X0.here hx rfl (hb hby own_d1_7) rfl ?_
    exact kt
  have c8 : v6 = (0 : Int32) := by
    rw [hv6]
    exact hz
  refine own_st (B := s₁.setTop (mkF m 28 #[.val (.ref r0), .val (.long q1), .second, .val (.int v6)] [])) (fun target kt => ?_) ?_
  · show Steps p.tables e below (s₁.setTop (mkF m 8 #[.val (.ref r0), .val (.long q1), .second, .val (.int v6)] [(.int v6)])) target
    refine XS.ifYes X0.here hx rfl (pc0 := 8) (pc' := 28) rfl (hb hby own_d1_8) rfl ((if0 _ _).trans (teq c8).1) (by decide) (by decide) ?_
    exact kt
  obtain ⟨fs, hr, hrun, hended, hW, hsame⟩ := X0.leave (v := none) (fun _ => rfl)
  have hend : Steps p.tables e below (s₁.setTop (mkF m 28 #[.val (.ref r0), .val (.long q1), .second, .val (.int v6)] [])) (s₁.setFrames fs) := by
    exact X0.returnOut hx Bd.returns (hb hby own_d1_28) hr
  refine own_fin hend ⟨_, hrun, hended, _, _, rfl, ?_, ⟨_, rfl⟩, hW, hsame.mono (by decide) (by decide)⟩
  show own_Q1_n0 Z r0 q1 g h0 n0 _ s₁.heap _
  rw [e0]
  subst hv6
  exact ⟨rfl, N0, rfl⟩
theorem own_d1_11 : decode prog_28_method_8_code 11 = .ok (.aload_n 0, 1) := by decide +kernel
theorem own_d1_12 : decode prog_28_method_8_code 12 = .ok (.aload_n 0, 1) := by decide +kernel
theorem own_d1_13 : decode prog_28_method_8_code 13 = .ok (.arraylength, 1) := by decide +kernel
theorem own_d1_14 : decode prog_28_method_8_code 14 = .ok (.iconst 1, 1) := by decide +kernel
theorem own_d1_15 : decode prog_28_method_8_code 15 = .ok (.isub, 1) := by decide +kernel
theorem own_d1_16 : decode prog_28_method_8_code 16 = .ok (.dup2, 1) := by decide +kernel
theorem own_d1_17 : decode prog_28_method_8_code 17 = .ok (.laload, 1) := by decide +kernel
theorem own_d1_18 : decode prog_28_method_8_code 18 = .ok (.ldc2_w 111, 3) := by decide +kernel
theorem own_d1_21 : decode prog_28_method_8_code 21 = .ok (.bipush 64, 2) := by decide +kernel
theorem own_d1_23 : decode prog_28_method_8_code 23 = .ok (.iload_n 3, 1) := by decide +kernel
theorem own_d1_24 : decode prog_28_method_8_code 24 = .ok (.isub, 1) := by decide +kernel
theorem own_d1_25 : decode prog_28_method_8_code 25 = .ok (.lshl, 1) := by decide +kernel
theorem own_d1_26 : decode prog_28_method_8_code 26 = .ok (.land, 1) := by decide +kernel
theorem own_d1_27 : decode prog_28_method_8_code 27 = .ok (.lastore, 1) := by decide +kernel
theorem own_ef1_n1 (m : MethodId) (r0 : Addr) (q1 : Int64) : entryFrame m #[(.ref r0), (.long q1)] 4 = mkF m 0 #[.val (.ref r0), .val (.long q1), .second, .unset] [] := by first | (simp [entryFrame, mkF, argsToLocals, Value.category]; done) | rfl
def own_Q1_n1 (Z : State) (r0 : Addr) (q1 : Int64) (g : Nat → Int64) (h0 : Heap) (n0 : Nat) (v : Option Value) (h : Heap) (L : List Loc) : Prop := (v = none) ∧ (Fr n0 L) ∧ (Keep h0 h [r0]) ∧ (own_RayJ Z h r0 1 ((if (((q1 &&& (63 : Int64)).toInt32)) = (0 : Int32) then g else ((fun i => if i = 0 then ((g 0) &&& ((-1 : Int64) <<< (((64 : Int32) - (((q1 &&& (63 : Int64)).toInt32))) &&& 0x3f).toInt64)) else g i)))))
set_option maxRecDepth 65536 in
set_option maxHeartbeats 40000000 in
theorem own_rm1_n1 (l : Launch) (Z : State) (a0 : Array Value) (hw : ∀ d ∈ tables_1, d.before a0 Z = true) (ws : List Jvm.Cond) (r0 : Addr) (q1 : Int64) (g : Nat → Int64) (h0 : Heap) (n0 : Nat) (Z0 : n0 ≤ h0.size) (R_r0 : own_RayJ Z h0 r0 1 g) (g_r0 : n0 ≤ r0) :
    MetFree l (⟨"com/example/barnacle/barnacle/WordBytes", "clearPast", "([JJ)V"⟩ : MethodName) (head1 (Jvm.Cond.code (⟨"com/example/barnacle/barnacle/WordBytes", "clearPast", "([JJ)V"⟩ : MethodName) prog_28_method_8_code 4 none :: ws) ({ frames := 0, cells := 0, slots := 0, locals := 0 } : Room)) (fun a U => a = #[(.ref r0), (.long q1)] ∧ Z.Warmed39 U.vm ∧ U.heap = h0) (fun _ _ _ _ _ => True) (fun _ U o U' => ∃ v L, o = .returned v ∧ own_Q1_n1 Z r0 q1 g h0 n0 v U'.heap L ∧ FrameEnd U o U' L ({ frames := 0, cells := 0, slots := 0, locals := 0 } : Room).cells ({ frames := 0, cells := 0, slots := 0, locals := 0 } : Room).slots) := by
  refine MetFree.of_bodySF (plainFor_of_name own_pn0) hisR ?_
  intro p e s m args below meth c s₁ Bd hml0 hP hK
  obtain ⟨rfl, hZ, hh⟩ := hP
  have hx := Bd.exec
  have hby := Bd.bytes
  have hml : c.maxLocals = 4 := hml0
  have hown : s.vm.findClass "com/example/barnacle/barnacle/WordBytes" = some m.cls := findClass_of_methodNamed Bd.named
  have hnm := (name_of_methodNamed Bd.named Bd.method).1
  have X0 : Stand p l e ({ frames := 0, cells := 0, slots := 0, locals := 0 } : Room) s m #[(.ref r0), (.long q1)] below meth c s₁ [] 0 0 := Stand.of_body Bd
  have e0 : s₁.heap = h0 := by rw [← hh, Bd.state]; rfl
  have N0 := Fr.nil n0
  have pre0 : ∀ t, Steps p.tables e below (s₁.setTop (mkF m 0 #[.val (.ref r0), .val (.long q1), .second, .unset] [])) t → Steps p.tables e below (s₁.setTop (entryFrame m #[(.ref r0), (.long q1)] 4)) t := fun t k => castTop (own_ef1_n1 m r0 q1) k
  refine own_run (own_st pre0 ?_)
  obtain ⟨v6, hv6⟩ : ∃ z : Int32, z = ((q1 &&& (63 : Int64)).toInt32) := ⟨_, rfl⟩
  refine own_st (B := s₁.setTop (mkF m 8 #[.val (.ref r0), .val (.long q1), .second, .val (.int v6)] [(.int v6)])) (fun target kt => ?_) ?_
  · show Steps p.tables e below (s₁.setTop (mkF m 0 #[.val (.ref r0), .val (.long q1), .second, .unset] [])) target
    refine XS.lloadN X0.here hx rfl (hb hby own_d1_0) rfl ?_
    show Steps p.tables e below (s₁.setTop (mkF m 1 #[.val (.ref r0), .val (.long q1), .second, .unset] [(.long q1)])) target
    refine X0.ldc2Long hx hown (mvT hZ (hw _ (List.mem_of_getElem? (i := 6) rfl))) (g := (mkF m 1 #[.val (.ref r0), .val (.long q1), .second, .unset] [(.long q1)])) rfl (hb hby own_d1_1) _ ?_
    show Steps p.tables e below (s₁.setTop (mkF m 4 #[.val (.ref r0), .val (.long q1), .second, .unset] [(.long (63 : Int64)), (.long q1)])) target
    refine XS.land X0.here hx rfl (hb hby own_d1_4) rfl ?_
    show Steps p.tables e below (s₁.setTop (mkF m 5 #[.val (.ref r0), .val (.long q1), .second, .unset] [(.long (q1 &&& (63 : Int64)))])) target
    refine XS.l2i X0.here hx rfl (hb hby own_d1_5) rfl ?_
    show Steps p.tables e below (s₁.setTop (mkF m 6 #[.val (.ref r0), .val (.long q1), .second, .unset] [(.int ((q1 &&& (63 : Int64)).toInt32))])) target
    refine XS.istoreN X0.here hx rfl (hb hby own_d1_6) rfl (l' := #[.val (.ref r0), .val (.long q1), .second, .val (.int v6)]) (by subst hv6; rfl) ?_
    show Steps p.tables e below (s₁.setTop (mkF m 7 #[.val (.ref r0), .val (.long q1), .second, .val (.int v6)] [])) target
    refine XS.iloadN X0.here hx rfl (hb hby own_d1_7) rfl ?_
    exact kt
  obtain ⟨_, ⟨T_M28, h_M28, lc_M28, j28_a, rfl, X_M28, e_M28, N_M28, Z_M28, K_M28, F_2, hj28_a⟩, st_M28⟩ : own_Lead p.tables e below (s₁.setTop (mkF m 8 #[.val (.ref r0), .val (.long q1), .second, .val (.int v6)] [(.int v6)])) (fun B => ∃ (T_M28 : State) (h_M28 : Heap) (lc_M28 : List Loc) (j28_a : Nat → Int64), B = T_M28.setTop (mkF m 28 #[.val (.ref r0), .val (.long q1), .second, .val (.int v6)] []) ∧ Stand p l e ({ frames := 0, cells := 0, slots := 0, locals := 0 } : Room) s m #[(.ref r0), (.long q1)] below meth c T_M28 lc_M28 0 0 ∧ T_M28.heap = h_M28 ∧ Fr n0 lc_M28 ∧ n0 ≤ h_M28.size ∧ Keep h0 h_M28 [r0] ∧ own_RayJ Z h_M28 r0 1 j28_a ∧ j28_a = (if v6 = (0 : Int32) then g else ((fun i => if i = 0 then ((g 0) &&& ((-1 : Int64) <<< (((64 : Int32) - v6) &&& 0x3f).toInt64)) else g i)))) := by
    by_cases c8 : v6 = (0 : Int32)
    · refine own_st (B := s₁.setTop (mkF m 28 #[.val (.ref r0), .val (.long q1), .second, .val (.int v6)] [])) (fun target kt => ?_) ?_
      · show Steps p.tables e below (s₁.setTop (mkF m 8 #[.val (.ref r0), .val (.long q1), .second, .val (.int v6)] [(.int v6)])) target
        refine XS.ifYes X0.here hx rfl (pc0 := 8) (pc' := 28) rfl (hb hby own_d1_8) rfl ((if0 _ _).trans (teq c8).1) (by decide) (by decide) ?_
        exact kt
      exact ⟨_, ⟨s₁, h0, _, g, rfl, X0, e0, N0, Z0, (Keep.refl h0 [r0]), R_r0, (if_pos c8).symm⟩, fun _ k => k⟩
    · refine own_st (B := s₁.setTop (mkF m 13 #[.val (.ref r0), .val (.long q1), .second, .val (.int v6)] [(.ref r0), (.ref r0)])) (fun target kt => ?_) ?_
      · show Steps p.tables e below (s₁.setTop (mkF m 8 #[.val (.ref r0), .val (.long q1), .second, .val (.int v6)] [(.int v6)])) target
        refine XS.ifNo X0.here hx rfl (hb hby own_d1_8) rfl ((if0 _ _).trans (feq c8).1) ?_
        show Steps p.tables e below (s₁.setTop (mkF m 11 #[.val (.ref r0), .val (.long q1), .second, .val (.int v6)] [])) target
        refine XS.aloadN X0.here hx rfl (hb hby own_d1_11) rfl rfl ?_
        show Steps p.tables e below (s₁.setTop (mkF m 12 #[.val (.ref r0), .val (.long q1), .second, .val (.int v6)] [(.ref r0)])) target
        refine XS.aloadN X0.here hx rfl (hb hby own_d1_12) rfl rfl ?_
        exact kt
      obtain ⟨clg13, Arg13, Szg13, -⟩ := id R_r0
      refine own_st (B := s₁.setTop (mkF m 14 #[.val (.ref r0), .val (.long q1), .second, .val (.int v6)] [(.int (1 : Int32)), (.ref r0)])) (fun target kt => ?_) ?_
      · refine X0.arraylength hx (by first | exact Arg13.1 | (rw [e0]; exact Arg13.1)) (State.isArrayOf_alike hZ.alike Arg13.2.1) (g := (mkF m 13 #[.val (.ref r0), .val (.long q1), .second, .val (.int v6)] [(.ref r0), (.ref r0)])) rfl rfl (hb hby own_d1_13) _ ?_
        rw [Szg13]
        exact kt
      refine own_st (B := s₁.setTop (mkF m 17 #[.val (.ref r0), .val (.long q1), .second, .val (.int v6)] [(.int (0 : Int32)), (.ref r0), (.int (0 : Int32)), (.ref r0)])) (fun target kt => ?_) ?_
      · show Steps p.tables e below (s₁.setTop (mkF m 14 #[.val (.ref r0), .val (.long q1), .second, .val (.int v6)] [(.int (1 : Int32)), (.ref r0)])) target
        refine XS.iconst X0.here hx rfl (hb hby own_d1_14) ?_
        show Steps p.tables e below (s₁.setTop (mkF m 15 #[.val (.ref r0), .val (.long q1), .second, .val (.int v6)] [(.int (1 : Int32)), (.int (1 : Int32)), (.ref r0)])) target
        refine XS.isub X0.here hx rfl (hb hby own_d1_15) rfl ?_
        show Steps p.tables e below (s₁.setTop (mkF m 16 #[.val (.ref r0), .val (.long q1), .second, .val (.int v6)] [(.int (0 : Int32)), (.ref r0)])) target
        jvm_step X0.here [X0.here.top, hx, (hb hby own_d1_16), Value.category]
        exact kt
      obtain ⟨clg17, Arg17, Szg17, Atg17⟩ := id R_r0
      have hing17 : ¬ ((0 : Int32) < 0 ∨ clg17.slots.size ≤ ((0 : Int32)).toNatClampNeg) := own_inb Szg17 (by decide)
      have hatg17 : clg17.slots[((0 : Int32)).toNatClampNeg]? = some (.long (g ((0 : Int32)).toNatClampNeg)) := own_RayJ_nth Atg17 Szg17 hing17
      refine own_st (B := s₁.setTop (mkF m 18 #[.val (.ref r0), .val (.long q1), .second, .val (.int v6)] [(.long (g 0)), (.int (0 : Int32)), (.ref r0)])) (fun target kt => ?_) ?_
      · refine X0.laload hx (j := (0 : Int32)) (v := (.long (g ((0 : Int32)).toNatClampNeg))) (by first | exact Arg17.1 | (rw [e0]; exact Arg17.1)) (State.isArrayOf_alike hZ.alike Arg17.2.1) Arg17.2.2 hing17 hatg17 (g := (mkF m 17 #[.val (.ref r0), .val (.long q1), .second, .val (.int v6)] [(.int (0 : Int32)), (.ref r0), (.int (0 : Int32)), (.ref r0)])) rfl rfl (hb hby own_d1_17) _ ?_
        exact kt
      refine own_st (B := s₁.setTop (mkF m 27 #[.val (.ref r0), .val (.long q1), .second, .val (.int v6)] [(.long ((g 0) &&& ((-1 : Int64) <<< (((64 : Int32) - v6) &&& 0x3f).toInt64))), (.int (0 : Int32)), (.ref r0)])) (fun target kt => ?_) ?_
      · show Steps p.tables e below (s₁.setTop (mkF m 18 #[.val (.ref r0), .val (.long q1), .second, .val (.int v6)] [(.long (g 0)), (.int (0 : Int32)), (.ref r0)])) target
        refine X0.ldc2Long hx hown (mvT hZ (hw _ (List.mem_of_getElem? (i := 7) rfl))) (g := (mkF m 18 #[.val (.ref r0), .val (.long q1), .second, .val (.int v6)] [(.long (g 0)), (.int (0 : Int32)), (.ref r0)])) rfl (hb hby own_d1_18) _ ?_
        show Steps p.tables e below (s₁.setTop (mkF m 21 #[.val (.ref r0), .val (.long q1), .second, .val (.int v6)] [(.long (-1 : Int64)), (.long (g 0)), (.int (0 : Int32)), (.ref r0)])) target
        refine XS.bipush X0.here hx rfl (hb hby own_d1_21) ?_
        show Steps p.tables e below (s₁.setTop (mkF m 23 #[.val (.ref r0), .val (.long q1), .second, .val (.int v6)] [(.int (64 : Int32)), (.long (-1 : Int64)), (.long (g 0)), (.int (0 : Int32)), (.ref r0)])) target
        refine XS.iloadN X0.here hx rfl (hb hby own_d1_23) rfl ?_
        show Steps p.tables e below (s₁.setTop (mkF m 24 #[.val (.ref r0), .val (.long q1), .second, .val (.int v6)] [(.int v6), (.int (64 : Int32)), (.long (-1 : Int64)), (.long (g 0)), (.int (0 : Int32)), (.ref r0)])) target
        refine XS.isub X0.here hx rfl (hb hby own_d1_24) rfl ?_
        show Steps p.tables e below (s₁.setTop (mkF m 25 #[.val (.ref r0), .val (.long q1), .second, .val (.int v6)] [(.int ((64 : Int32) - v6)), (.long (-1 : Int64)), (.long (g 0)), (.int (0 : Int32)), (.ref r0)])) target
        refine XS.lshl X0.here hx rfl (hb hby own_d1_25) rfl ?_
        show Steps p.tables e below (s₁.setTop (mkF m 26 #[.val (.ref r0), .val (.long q1), .second, .val (.int v6)] [(.long ((-1 : Int64) <<< (((64 : Int32) - v6) &&& 0x3f).toInt64)), (.long (g 0)), (.int (0 : Int32)), (.ref r0)])) target
        refine XS.land X0.here hx rfl (hb hby own_d1_26) rfl ?_
        exact kt
      obtain ⟨clg27, Arg27, Szg27, -⟩ := id R_r0
      have hing27 : ¬ ((0 : Int32) < 0 ∨ clg27.slots.size ≤ ((0 : Int32)).toNatClampNeg) := own_inb Szg27 (by decide)
      obtain ⟨Tg27, hg27, Xg27, eg27, Wg27, stg27⟩ := stJ X0 hx hZ e0 Arg27 (j := (0 : Int32)) hing27 (g := (mkF m 27 #[.val (.ref r0), .val (.long q1), .second, .val (.int v6)] [(.long ((g 0) &&& ((-1 : Int64) <<< (((64 : Int32) - v6) &&& 0x3f).toInt64))), (.int (0 : Int32)), (.ref r0)])) rfl rfl (hb hby own_d1_27)
      refine own_st stg27 ?_
      have Ng27 := Fr.snoc Xg27 N0 g_r0
      obtain ⟨a27, ha27⟩ : ∃ gz : Nat → Int64, gz = fun i => if i = 0 then ((g 0) &&& ((-1 : Int64) <<< (((64 : Int32) - v6) &&& 0x3f).toInt64)) else g i := ⟨_, rfl⟩
      have Zz : n0 ≤ hg27.size := Nat.le_trans Z0 (Keep.of_wr Wg27).1
      have Kc := (Keep.refl h0 [r0]).wr Wg27 (Or.inl (List.mem_of_getElem? (i := 0) rfl))
      have F_1 : own_RayJ Z hg27 r0 1 a27 := by rw [ha27]; exact own_RayJ_set R_r0 Wg27 (by decide)
      subst ha27
      exact ⟨_, ⟨Tg27, hg27, _, ((fun i => if i = 0 then ((g 0) &&& ((-1 : Int64) <<< (((64 : Int32) - v6) &&& 0x3f).toInt64)) else g i)), rfl, Xg27, eg27, Ng27, Zz, Kc, F_1, (if_neg c8).symm⟩, fun _ k => k⟩
  refine own_st st_M28 ?_
  obtain ⟨fs, hr, hrun, hended, hW, hsame⟩ := X_M28.leave (v := none) (fun _ => rfl)
  have hend : Steps p.tables e below (T_M28.setTop (mkF m 28 #[.val (.ref r0), .val (.long q1), .second, .val (.int v6)] [])) (T_M28.setFrames fs) := by
    exact X_M28.returnOut hx Bd.returns (hb hby own_d1_28) hr
  refine own_fin hend ⟨_, hrun, hended, _, _, rfl, ?_, ⟨_, rfl⟩, hW, hsame.mono (by decide) (by decide)⟩
  show own_Q1_n1 Z r0 q1 g h0 n0 _ T_M28.heap _
  rw [e_M28]
  subst hv6 hj28_a
  exact ⟨rfl, N_M28, K_M28, F_2⟩
theorem own_ef1_n2 (m : MethodId) (r0 : Addr) (q1 : Int64) : entryFrame m #[(.ref r0), (.long q1)] 4 = mkF m 0 #[.val (.ref r0), .val (.long q1), .second, .unset] [] := by first | (simp [entryFrame, mkF, argsToLocals, Value.category]; done) | rfl
def own_Q1_n2 (Z : State) (r0 : Addr) (q1 : Int64) (g : Nat → Int64) (h0 : Heap) (n0 : Nat) (v : Option Value) (h : Heap) (L : List Loc) : Prop := (v = none) ∧ (Fr n0 L) ∧ (Keep h0 h [r0]) ∧ (own_RayJ Z h r0 2 ((if (((q1 &&& (63 : Int64)).toInt32)) = (0 : Int32) then g else ((fun i => if i = 1 then ((g 1) &&& ((-1 : Int64) <<< (((64 : Int32) - (((q1 &&& (63 : Int64)).toInt32))) &&& 0x3f).toInt64)) else g i)))))
set_option maxRecDepth 65536 in
set_option maxHeartbeats 40000000 in
theorem own_rm1_n2 (l : Launch) (Z : State) (a0 : Array Value) (hw : ∀ d ∈ tables_1, d.before a0 Z = true) (ws : List Jvm.Cond) (r0 : Addr) (q1 : Int64) (g : Nat → Int64) (h0 : Heap) (n0 : Nat) (Z0 : n0 ≤ h0.size) (R_r0 : own_RayJ Z h0 r0 2 g) (g_r0 : n0 ≤ r0) :
    MetFree l (⟨"com/example/barnacle/barnacle/WordBytes", "clearPast", "([JJ)V"⟩ : MethodName) (head1 (Jvm.Cond.code (⟨"com/example/barnacle/barnacle/WordBytes", "clearPast", "([JJ)V"⟩ : MethodName) prog_28_method_8_code 4 none :: ws) ({ frames := 0, cells := 0, slots := 0, locals := 0 } : Room)) (fun a U => a = #[(.ref r0), (.long q1)] ∧ Z.Warmed39 U.vm ∧ U.heap = h0) (fun _ _ _ _ _ => True) (fun _ U o U' => ∃ v L, o = .returned v ∧ own_Q1_n2 Z r0 q1 g h0 n0 v U'.heap L ∧ FrameEnd U o U' L ({ frames := 0, cells := 0, slots := 0, locals := 0 } : Room).cells ({ frames := 0, cells := 0, slots := 0, locals := 0 } : Room).slots) := by
  refine MetFree.of_bodySF (plainFor_of_name own_pn0) hisR ?_
  intro p e s m args below meth c s₁ Bd hml0 hP hK
  obtain ⟨rfl, hZ, hh⟩ := hP
  have hx := Bd.exec
  have hby := Bd.bytes
  have hml : c.maxLocals = 4 := hml0
  have hown : s.vm.findClass "com/example/barnacle/barnacle/WordBytes" = some m.cls := findClass_of_methodNamed Bd.named
  have hnm := (name_of_methodNamed Bd.named Bd.method).1
  have X0 : Stand p l e ({ frames := 0, cells := 0, slots := 0, locals := 0 } : Room) s m #[(.ref r0), (.long q1)] below meth c s₁ [] 0 0 := Stand.of_body Bd
  have e0 : s₁.heap = h0 := by rw [← hh, Bd.state]; rfl
  have N0 := Fr.nil n0
  have pre0 : ∀ t, Steps p.tables e below (s₁.setTop (mkF m 0 #[.val (.ref r0), .val (.long q1), .second, .unset] [])) t → Steps p.tables e below (s₁.setTop (entryFrame m #[(.ref r0), (.long q1)] 4)) t := fun t k => castTop (own_ef1_n2 m r0 q1) k
  refine own_run (own_st pre0 ?_)
  obtain ⟨v6, hv6⟩ : ∃ z : Int32, z = ((q1 &&& (63 : Int64)).toInt32) := ⟨_, rfl⟩
  refine own_st (B := s₁.setTop (mkF m 8 #[.val (.ref r0), .val (.long q1), .second, .val (.int v6)] [(.int v6)])) (fun target kt => ?_) ?_
  · show Steps p.tables e below (s₁.setTop (mkF m 0 #[.val (.ref r0), .val (.long q1), .second, .unset] [])) target
    refine XS.lloadN X0.here hx rfl (hb hby own_d1_0) rfl ?_
    show Steps p.tables e below (s₁.setTop (mkF m 1 #[.val (.ref r0), .val (.long q1), .second, .unset] [(.long q1)])) target
    refine X0.ldc2Long hx hown (mvT hZ (hw _ (List.mem_of_getElem? (i := 6) rfl))) (g := (mkF m 1 #[.val (.ref r0), .val (.long q1), .second, .unset] [(.long q1)])) rfl (hb hby own_d1_1) _ ?_
    show Steps p.tables e below (s₁.setTop (mkF m 4 #[.val (.ref r0), .val (.long q1), .second, .unset] [(.long (63 : Int64)), (.long q1)])) target
    refine XS.land X0.here hx rfl (hb hby own_d1_4) rfl ?_
    show Steps p.tables e below (s₁.setTop (mkF m 5 #[.val (.ref r0), .val (.long q1), .second, .unset] [(.long (q1 &&& (63 : Int64)))])) target
    refine XS.l2i X0.here hx rfl (hb hby own_d1_5) rfl ?_
    show Steps p.tables e below (s₁.setTop (mkF m 6 #[.val (.ref r0), .val (.long q1), .second, .unset] [(.int ((q1 &&& (63 : Int64)).toInt32))])) target
    refine XS.istoreN X0.here hx rfl (hb hby own_d1_6) rfl (l' := #[.val (.ref r0), .val (.long q1), .second, .val (.int v6)]) (by subst hv6; rfl) ?_
    show Steps p.tables e below (s₁.setTop (mkF m 7 #[.val (.ref r0), .val (.long q1), .second, .val (.int v6)] [])) target
    refine XS.iloadN X0.here hx rfl (hb hby own_d1_7) rfl ?_
    exact kt
  obtain ⟨_, ⟨T_M28, h_M28, lc_M28, j28_a, rfl, X_M28, e_M28, N_M28, Z_M28, K_M28, F_2, hj28_a⟩, st_M28⟩ : own_Lead p.tables e below (s₁.setTop (mkF m 8 #[.val (.ref r0), .val (.long q1), .second, .val (.int v6)] [(.int v6)])) (fun B => ∃ (T_M28 : State) (h_M28 : Heap) (lc_M28 : List Loc) (j28_a : Nat → Int64), B = T_M28.setTop (mkF m 28 #[.val (.ref r0), .val (.long q1), .second, .val (.int v6)] []) ∧ Stand p l e ({ frames := 0, cells := 0, slots := 0, locals := 0 } : Room) s m #[(.ref r0), (.long q1)] below meth c T_M28 lc_M28 0 0 ∧ T_M28.heap = h_M28 ∧ Fr n0 lc_M28 ∧ n0 ≤ h_M28.size ∧ Keep h0 h_M28 [r0] ∧ own_RayJ Z h_M28 r0 2 j28_a ∧ j28_a = (if v6 = (0 : Int32) then g else ((fun i => if i = 1 then ((g 1) &&& ((-1 : Int64) <<< (((64 : Int32) - v6) &&& 0x3f).toInt64)) else g i)))) := by
    by_cases c8 : v6 = (0 : Int32)
    · refine own_st (B := s₁.setTop (mkF m 28 #[.val (.ref r0), .val (.long q1), .second, .val (.int v6)] [])) (fun target kt => ?_) ?_
      · show Steps p.tables e below (s₁.setTop (mkF m 8 #[.val (.ref r0), .val (.long q1), .second, .val (.int v6)] [(.int v6)])) target
        refine XS.ifYes X0.here hx rfl (pc0 := 8) (pc' := 28) rfl (hb hby own_d1_8) rfl ((if0 _ _).trans (teq c8).1) (by decide) (by decide) ?_
        exact kt
      exact ⟨_, ⟨s₁, h0, _, g, rfl, X0, e0, N0, Z0, (Keep.refl h0 [r0]), R_r0, (if_pos c8).symm⟩, fun _ k => k⟩
    · refine own_st (B := s₁.setTop (mkF m 13 #[.val (.ref r0), .val (.long q1), .second, .val (.int v6)] [(.ref r0), (.ref r0)])) (fun target kt => ?_) ?_
      · show Steps p.tables e below (s₁.setTop (mkF m 8 #[.val (.ref r0), .val (.long q1), .second, .val (.int v6)] [(.int v6)])) target
        refine XS.ifNo X0.here hx rfl (hb hby own_d1_8) rfl ((if0 _ _).trans (feq c8).1) ?_
        show Steps p.tables e below (s₁.setTop (mkF m 11 #[.val (.ref r0), .val (.long q1), .second, .val (.int v6)] [])) target
        refine XS.aloadN X0.here hx rfl (hb hby own_d1_11) rfl rfl ?_
        show Steps p.tables e below (s₁.setTop (mkF m 12 #[.val (.ref r0), .val (.long q1), .second, .val (.int v6)] [(.ref r0)])) target
        refine XS.aloadN X0.here hx rfl (hb hby own_d1_12) rfl rfl ?_
        exact kt
      obtain ⟨clg13, Arg13, Szg13, -⟩ := id R_r0
      refine own_st (B := s₁.setTop (mkF m 14 #[.val (.ref r0), .val (.long q1), .second, .val (.int v6)] [(.int (2 : Int32)), (.ref r0)])) (fun target kt => ?_) ?_
      · refine X0.arraylength hx (by first | exact Arg13.1 | (rw [e0]; exact Arg13.1)) (State.isArrayOf_alike hZ.alike Arg13.2.1) (g := (mkF m 13 #[.val (.ref r0), .val (.long q1), .second, .val (.int v6)] [(.ref r0), (.ref r0)])) rfl rfl (hb hby own_d1_13) _ ?_
        rw [Szg13]
        exact kt
      refine own_st (B := s₁.setTop (mkF m 17 #[.val (.ref r0), .val (.long q1), .second, .val (.int v6)] [(.int (1 : Int32)), (.ref r0), (.int (1 : Int32)), (.ref r0)])) (fun target kt => ?_) ?_
      · show Steps p.tables e below (s₁.setTop (mkF m 14 #[.val (.ref r0), .val (.long q1), .second, .val (.int v6)] [(.int (2 : Int32)), (.ref r0)])) target
        refine XS.iconst X0.here hx rfl (hb hby own_d1_14) ?_
        show Steps p.tables e below (s₁.setTop (mkF m 15 #[.val (.ref r0), .val (.long q1), .second, .val (.int v6)] [(.int (1 : Int32)), (.int (2 : Int32)), (.ref r0)])) target
        refine XS.isub X0.here hx rfl (hb hby own_d1_15) rfl ?_
        show Steps p.tables e below (s₁.setTop (mkF m 16 #[.val (.ref r0), .val (.long q1), .second, .val (.int v6)] [(.int (1 : Int32)), (.ref r0)])) target
        jvm_step X0.here [X0.here.top, hx, (hb hby own_d1_16), Value.category]
        exact kt
      obtain ⟨clg17, Arg17, Szg17, Atg17⟩ := id R_r0
      have hing17 : ¬ ((1 : Int32) < 0 ∨ clg17.slots.size ≤ ((1 : Int32)).toNatClampNeg) := own_inb Szg17 (by decide)
      have hatg17 : clg17.slots[((1 : Int32)).toNatClampNeg]? = some (.long (g ((1 : Int32)).toNatClampNeg)) := own_RayJ_nth Atg17 Szg17 hing17
      refine own_st (B := s₁.setTop (mkF m 18 #[.val (.ref r0), .val (.long q1), .second, .val (.int v6)] [(.long (g 1)), (.int (1 : Int32)), (.ref r0)])) (fun target kt => ?_) ?_
      · refine X0.laload hx (j := (1 : Int32)) (v := (.long (g ((1 : Int32)).toNatClampNeg))) (by first | exact Arg17.1 | (rw [e0]; exact Arg17.1)) (State.isArrayOf_alike hZ.alike Arg17.2.1) Arg17.2.2 hing17 hatg17 (g := (mkF m 17 #[.val (.ref r0), .val (.long q1), .second, .val (.int v6)] [(.int (1 : Int32)), (.ref r0), (.int (1 : Int32)), (.ref r0)])) rfl rfl (hb hby own_d1_17) _ ?_
        exact kt
      refine own_st (B := s₁.setTop (mkF m 27 #[.val (.ref r0), .val (.long q1), .second, .val (.int v6)] [(.long ((g 1) &&& ((-1 : Int64) <<< (((64 : Int32) - v6) &&& 0x3f).toInt64))), (.int (1 : Int32)), (.ref r0)])) (fun target kt => ?_) ?_
      · show Steps p.tables e below (s₁.setTop (mkF m 18 #[.val (.ref r0), .val (.long q1), .second, .val (.int v6)] [(.long (g 1)), (.int (1 : Int32)), (.ref r0)])) target
        refine X0.ldc2Long hx hown (mvT hZ (hw _ (List.mem_of_getElem? (i := 7) rfl))) (g := (mkF m 18 #[.val (.ref r0), .val (.long q1), .second, .val (.int v6)] [(.long (g 1)), (.int (1 : Int32)), (.ref r0)])) rfl (hb hby own_d1_18) _ ?_
        show Steps p.tables e below (s₁.setTop (mkF m 21 #[.val (.ref r0), .val (.long q1), .second, .val (.int v6)] [(.long (-1 : Int64)), (.long (g 1)), (.int (1 : Int32)), (.ref r0)])) target
        refine XS.bipush X0.here hx rfl (hb hby own_d1_21) ?_
        show Steps p.tables e below (s₁.setTop (mkF m 23 #[.val (.ref r0), .val (.long q1), .second, .val (.int v6)] [(.int (64 : Int32)), (.long (-1 : Int64)), (.long (g 1)), (.int (1 : Int32)), (.ref r0)])) target
        refine XS.iloadN X0.here hx rfl (hb hby own_d1_23) rfl ?_
        show Steps p.tables e below (s₁.setTop (mkF m 24 #[.val (.ref r0), .val (.long q1), .second, .val (.int v6)] [(.int v6), (.int (64 : Int32)), (.long (-1 : Int64)), (.long (g 1)), (.int (1 : Int32)), (.ref r0)])) target
        refine XS.isub X0.here hx rfl (hb hby own_d1_24) rfl ?_
        show Steps p.tables e below (s₁.setTop (mkF m 25 #[.val (.ref r0), .val (.long q1), .second, .val (.int v6)] [(.int ((64 : Int32) - v6)), (.long (-1 : Int64)), (.long (g 1)), (.int (1 : Int32)), (.ref r0)])) target
        refine XS.lshl X0.here hx rfl (hb hby own_d1_25) rfl ?_
        show Steps p.tables e below (s₁.setTop (mkF m 26 #[.val (.ref r0), .val (.long q1), .second, .val (.int v6)] [(.long ((-1 : Int64) <<< (((64 : Int32) - v6) &&& 0x3f).toInt64)), (.long (g 1)), (.int (1 : Int32)), (.ref r0)])) target
        refine XS.land X0.here hx rfl (hb hby own_d1_26) rfl ?_
        exact kt
      obtain ⟨clg27, Arg27, Szg27, -⟩ := id R_r0
      have hing27 : ¬ ((1 : Int32) < 0 ∨ clg27.slots.size ≤ ((1 : Int32)).toNatClampNeg) := own_inb Szg27 (by decide)
      obtain ⟨Tg27, hg27, Xg27, eg27, Wg27, stg27⟩ := stJ X0 hx hZ e0 Arg27 (j := (1 : Int32)) hing27 (g := (mkF m 27 #[.val (.ref r0), .val (.long q1), .second, .val (.int v6)] [(.long ((g 1) &&& ((-1 : Int64) <<< (((64 : Int32) - v6) &&& 0x3f).toInt64))), (.int (1 : Int32)), (.ref r0)])) rfl rfl (hb hby own_d1_27)
      refine own_st stg27 ?_
      have Ng27 := Fr.snoc Xg27 N0 g_r0
      obtain ⟨a27, ha27⟩ : ∃ gz : Nat → Int64, gz = fun i => if i = 1 then ((g 1) &&& ((-1 : Int64) <<< (((64 : Int32) - v6) &&& 0x3f).toInt64)) else g i := ⟨_, rfl⟩
      have Zz : n0 ≤ hg27.size := Nat.le_trans Z0 (Keep.of_wr Wg27).1
      have Kc := (Keep.refl h0 [r0]).wr Wg27 (Or.inl (List.mem_of_getElem? (i := 0) rfl))
      have F_1 : own_RayJ Z hg27 r0 2 a27 := by rw [ha27]; exact own_RayJ_set R_r0 Wg27 (by decide)
      subst ha27
      exact ⟨_, ⟨Tg27, hg27, _, ((fun i => if i = 1 then ((g 1) &&& ((-1 : Int64) <<< (((64 : Int32) - v6) &&& 0x3f).toInt64)) else g i)), rfl, Xg27, eg27, Ng27, Zz, Kc, F_1, (if_neg c8).symm⟩, fun _ k => k⟩
  refine own_st st_M28 ?_
  obtain ⟨fs, hr, hrun, hended, hW, hsame⟩ := X_M28.leave (v := none) (fun _ => rfl)
  have hend : Steps p.tables e below (T_M28.setTop (mkF m 28 #[.val (.ref r0), .val (.long q1), .second, .val (.int v6)] [])) (T_M28.setFrames fs) := by
    exact X_M28.returnOut hx Bd.returns (hb hby own_d1_28) hr
  refine own_fin hend ⟨_, hrun, hended, _, _, rfl, ?_, ⟨_, rfl⟩, hW, hsame.mono (by decide) (by decide)⟩
  show own_Q1_n2 Z r0 q1 g h0 n0 _ T_M28.heap _
  rw [e_M28]
  subst hv6 hj28_a
  exact ⟨rfl, N_M28, K_M28, F_2⟩
theorem own_ef1_n3 (m : MethodId) (r0 : Addr) (q1 : Int64) : entryFrame m #[(.ref r0), (.long q1)] 4 = mkF m 0 #[.val (.ref r0), .val (.long q1), .second, .unset] [] := by first | (simp [entryFrame, mkF, argsToLocals, Value.category]; done) | rfl
def own_Q1_n3 (Z : State) (r0 : Addr) (q1 : Int64) (g : Nat → Int64) (h0 : Heap) (n0 : Nat) (v : Option Value) (h : Heap) (L : List Loc) : Prop := (v = none) ∧ (Fr n0 L) ∧ (Keep h0 h [r0]) ∧ (own_RayJ Z h r0 3 ((if (((q1 &&& (63 : Int64)).toInt32)) = (0 : Int32) then g else ((fun i => if i = 2 then ((g 2) &&& ((-1 : Int64) <<< (((64 : Int32) - (((q1 &&& (63 : Int64)).toInt32))) &&& 0x3f).toInt64)) else g i)))))
set_option maxRecDepth 65536 in
set_option maxHeartbeats 40000000 in
theorem own_rm1_n3 (l : Launch) (Z : State) (a0 : Array Value) (hw : ∀ d ∈ tables_1, d.before a0 Z = true) (ws : List Jvm.Cond) (r0 : Addr) (q1 : Int64) (g : Nat → Int64) (h0 : Heap) (n0 : Nat) (Z0 : n0 ≤ h0.size) (R_r0 : own_RayJ Z h0 r0 3 g) (g_r0 : n0 ≤ r0) :
    MetFree l (⟨"com/example/barnacle/barnacle/WordBytes", "clearPast", "([JJ)V"⟩ : MethodName) (head1 (Jvm.Cond.code (⟨"com/example/barnacle/barnacle/WordBytes", "clearPast", "([JJ)V"⟩ : MethodName) prog_28_method_8_code 4 none :: ws) ({ frames := 0, cells := 0, slots := 0, locals := 0 } : Room)) (fun a U => a = #[(.ref r0), (.long q1)] ∧ Z.Warmed39 U.vm ∧ U.heap = h0) (fun _ _ _ _ _ => True) (fun _ U o U' => ∃ v L, o = .returned v ∧ own_Q1_n3 Z r0 q1 g h0 n0 v U'.heap L ∧ FrameEnd U o U' L ({ frames := 0, cells := 0, slots := 0, locals := 0 } : Room).cells ({ frames := 0, cells := 0, slots := 0, locals := 0 } : Room).slots) := by
  refine MetFree.of_bodySF (plainFor_of_name own_pn0) hisR ?_
  intro p e s m args below meth c s₁ Bd hml0 hP hK
  obtain ⟨rfl, hZ, hh⟩ := hP
  have hx := Bd.exec
  have hby := Bd.bytes
  have hml : c.maxLocals = 4 := hml0
  have hown : s.vm.findClass "com/example/barnacle/barnacle/WordBytes" = some m.cls := findClass_of_methodNamed Bd.named
  have hnm := (name_of_methodNamed Bd.named Bd.method).1
  have X0 : Stand p l e ({ frames := 0, cells := 0, slots := 0, locals := 0 } : Room) s m #[(.ref r0), (.long q1)] below meth c s₁ [] 0 0 := Stand.of_body Bd
  have e0 : s₁.heap = h0 := by rw [← hh, Bd.state]; rfl
  have N0 := Fr.nil n0
  have pre0 : ∀ t, Steps p.tables e below (s₁.setTop (mkF m 0 #[.val (.ref r0), .val (.long q1), .second, .unset] [])) t → Steps p.tables e below (s₁.setTop (entryFrame m #[(.ref r0), (.long q1)] 4)) t := fun t k => castTop (own_ef1_n3 m r0 q1) k
  refine own_run (own_st pre0 ?_)
  obtain ⟨v6, hv6⟩ : ∃ z : Int32, z = ((q1 &&& (63 : Int64)).toInt32) := ⟨_, rfl⟩
  refine own_st (B := s₁.setTop (mkF m 8 #[.val (.ref r0), .val (.long q1), .second, .val (.int v6)] [(.int v6)])) (fun target kt => ?_) ?_
  · show Steps p.tables e below (s₁.setTop (mkF m 0 #[.val (.ref r0), .val (.long q1), .second, .unset] [])) target
    refine XS.lloadN X0.here hx rfl (hb hby own_d1_0) rfl ?_
    show Steps p.tables e below (s₁.setTop (mkF m 1 #[.val (.ref r0), .val (.long q1), .second, .unset] [(.long q1)])) target
    refine X0.ldc2Long hx hown (mvT hZ (hw _ (List.mem_of_getElem? (i := 6) rfl))) (g := (mkF m 1 #[.val (.ref r0), .val (.long q1), .second, .unset] [(.long q1)])) rfl (hb hby own_d1_1) _ ?_
    show Steps p.tables e below (s₁.setTop (mkF m 4 #[.val (.ref r0), .val (.long q1), .second, .unset] [(.long (63 : Int64)), (.long q1)])) target
    refine XS.land X0.here hx rfl (hb hby own_d1_4) rfl ?_
    show Steps p.tables e below (s₁.setTop (mkF m 5 #[.val (.ref r0), .val (.long q1), .second, .unset] [(.long (q1 &&& (63 : Int64)))])) target
    refine XS.l2i X0.here hx rfl (hb hby own_d1_5) rfl ?_
    show Steps p.tables e below (s₁.setTop (mkF m 6 #[.val (.ref r0), .val (.long q1), .second, .unset] [(.int ((q1 &&& (63 : Int64)).toInt32))])) target
    refine XS.istoreN X0.here hx rfl (hb hby own_d1_6) rfl (l' := #[.val (.ref r0), .val (.long q1), .second, .val (.int v6)]) (by subst hv6; rfl) ?_
    show Steps p.tables e below (s₁.setTop (mkF m 7 #[.val (.ref r0), .val (.long q1), .second, .val (.int v6)] [])) target
    refine XS.iloadN X0.here hx rfl (hb hby own_d1_7) rfl ?_
    exact kt
  obtain ⟨_, ⟨T_M28, h_M28, lc_M28, j28_a, rfl, X_M28, e_M28, N_M28, Z_M28, K_M28, F_2, hj28_a⟩, st_M28⟩ : own_Lead p.tables e below (s₁.setTop (mkF m 8 #[.val (.ref r0), .val (.long q1), .second, .val (.int v6)] [(.int v6)])) (fun B => ∃ (T_M28 : State) (h_M28 : Heap) (lc_M28 : List Loc) (j28_a : Nat → Int64), B = T_M28.setTop (mkF m 28 #[.val (.ref r0), .val (.long q1), .second, .val (.int v6)] []) ∧ Stand p l e ({ frames := 0, cells := 0, slots := 0, locals := 0 } : Room) s m #[(.ref r0), (.long q1)] below meth c T_M28 lc_M28 0 0 ∧ T_M28.heap = h_M28 ∧ Fr n0 lc_M28 ∧ n0 ≤ h_M28.size ∧ Keep h0 h_M28 [r0] ∧ own_RayJ Z h_M28 r0 3 j28_a ∧ j28_a = (if v6 = (0 : Int32) then g else ((fun i => if i = 2 then ((g 2) &&& ((-1 : Int64) <<< (((64 : Int32) - v6) &&& 0x3f).toInt64)) else g i)))) := by
    by_cases c8 : v6 = (0 : Int32)
    · refine own_st (B := s₁.setTop (mkF m 28 #[.val (.ref r0), .val (.long q1), .second, .val (.int v6)] [])) (fun target kt => ?_) ?_
      · show Steps p.tables e below (s₁.setTop (mkF m 8 #[.val (.ref r0), .val (.long q1), .second, .val (.int v6)] [(.int v6)])) target
        refine XS.ifYes X0.here hx rfl (pc0 := 8) (pc' := 28) rfl (hb hby own_d1_8) rfl ((if0 _ _).trans (teq c8).1) (by decide) (by decide) ?_
        exact kt
      exact ⟨_, ⟨s₁, h0, _, g, rfl, X0, e0, N0, Z0, (Keep.refl h0 [r0]), R_r0, (if_pos c8).symm⟩, fun _ k => k⟩
    · refine own_st (B := s₁.setTop (mkF m 13 #[.val (.ref r0), .val (.long q1), .second, .val (.int v6)] [(.ref r0), (.ref r0)])) (fun target kt => ?_) ?_
      · show Steps p.tables e below (s₁.setTop (mkF m 8 #[.val (.ref r0), .val (.long q1), .second, .val (.int v6)] [(.int v6)])) target
        refine XS.ifNo X0.here hx rfl (hb hby own_d1_8) rfl ((if0 _ _).trans (feq c8).1) ?_
        show Steps p.tables e below (s₁.setTop (mkF m 11 #[.val (.ref r0), .val (.long q1), .second, .val (.int v6)] [])) target
        refine XS.aloadN X0.here hx rfl (hb hby own_d1_11) rfl rfl ?_
        show Steps p.tables e below (s₁.setTop (mkF m 12 #[.val (.ref r0), .val (.long q1), .second, .val (.int v6)] [(.ref r0)])) target
        refine XS.aloadN X0.here hx rfl (hb hby own_d1_12) rfl rfl ?_
        exact kt
      obtain ⟨clg13, Arg13, Szg13, -⟩ := id R_r0
      refine own_st (B := s₁.setTop (mkF m 14 #[.val (.ref r0), .val (.long q1), .second, .val (.int v6)] [(.int (3 : Int32)), (.ref r0)])) (fun target kt => ?_) ?_
      · refine X0.arraylength hx (by first | exact Arg13.1 | (rw [e0]; exact Arg13.1)) (State.isArrayOf_alike hZ.alike Arg13.2.1) (g := (mkF m 13 #[.val (.ref r0), .val (.long q1), .second, .val (.int v6)] [(.ref r0), (.ref r0)])) rfl rfl (hb hby own_d1_13) _ ?_
        rw [Szg13]
        exact kt
      refine own_st (B := s₁.setTop (mkF m 17 #[.val (.ref r0), .val (.long q1), .second, .val (.int v6)] [(.int (2 : Int32)), (.ref r0), (.int (2 : Int32)), (.ref r0)])) (fun target kt => ?_) ?_
      · show Steps p.tables e below (s₁.setTop (mkF m 14 #[.val (.ref r0), .val (.long q1), .second, .val (.int v6)] [(.int (3 : Int32)), (.ref r0)])) target
        refine XS.iconst X0.here hx rfl (hb hby own_d1_14) ?_
        show Steps p.tables e below (s₁.setTop (mkF m 15 #[.val (.ref r0), .val (.long q1), .second, .val (.int v6)] [(.int (1 : Int32)), (.int (3 : Int32)), (.ref r0)])) target
        refine XS.isub X0.here hx rfl (hb hby own_d1_15) rfl ?_
        show Steps p.tables e below (s₁.setTop (mkF m 16 #[.val (.ref r0), .val (.long q1), .second, .val (.int v6)] [(.int (2 : Int32)), (.ref r0)])) target
        jvm_step X0.here [X0.here.top, hx, (hb hby own_d1_16), Value.category]
        exact kt
      obtain ⟨clg17, Arg17, Szg17, Atg17⟩ := id R_r0
      have hing17 : ¬ ((2 : Int32) < 0 ∨ clg17.slots.size ≤ ((2 : Int32)).toNatClampNeg) := own_inb Szg17 (by decide)
      have hatg17 : clg17.slots[((2 : Int32)).toNatClampNeg]? = some (.long (g ((2 : Int32)).toNatClampNeg)) := own_RayJ_nth Atg17 Szg17 hing17
      refine own_st (B := s₁.setTop (mkF m 18 #[.val (.ref r0), .val (.long q1), .second, .val (.int v6)] [(.long (g 2)), (.int (2 : Int32)), (.ref r0)])) (fun target kt => ?_) ?_
      · refine X0.laload hx (j := (2 : Int32)) (v := (.long (g ((2 : Int32)).toNatClampNeg))) (by first | exact Arg17.1 | (rw [e0]; exact Arg17.1)) (State.isArrayOf_alike hZ.alike Arg17.2.1) Arg17.2.2 hing17 hatg17 (g := (mkF m 17 #[.val (.ref r0), .val (.long q1), .second, .val (.int v6)] [(.int (2 : Int32)), (.ref r0), (.int (2 : Int32)), (.ref r0)])) rfl rfl (hb hby own_d1_17) _ ?_
        exact kt
      refine own_st (B := s₁.setTop (mkF m 27 #[.val (.ref r0), .val (.long q1), .second, .val (.int v6)] [(.long ((g 2) &&& ((-1 : Int64) <<< (((64 : Int32) - v6) &&& 0x3f).toInt64))), (.int (2 : Int32)), (.ref r0)])) (fun target kt => ?_) ?_
      · show Steps p.tables e below (s₁.setTop (mkF m 18 #[.val (.ref r0), .val (.long q1), .second, .val (.int v6)] [(.long (g 2)), (.int (2 : Int32)), (.ref r0)])) target
        refine X0.ldc2Long hx hown (mvT hZ (hw _ (List.mem_of_getElem? (i := 7) rfl))) (g := (mkF m 18 #[.val (.ref r0), .val (.long q1), .second, .val (.int v6)] [(.long (g 2)), (.int (2 : Int32)), (.ref r0)])) rfl (hb hby own_d1_18) _ ?_
        show Steps p.tables e below (s₁.setTop (mkF m 21 #[.val (.ref r0), .val (.long q1), .second, .val (.int v6)] [(.long (-1 : Int64)), (.long (g 2)), (.int (2 : Int32)), (.ref r0)])) target
        refine XS.bipush X0.here hx rfl (hb hby own_d1_21) ?_
        show Steps p.tables e below (s₁.setTop (mkF m 23 #[.val (.ref r0), .val (.long q1), .second, .val (.int v6)] [(.int (64 : Int32)), (.long (-1 : Int64)), (.long (g 2)), (.int (2 : Int32)), (.ref r0)])) target
        refine XS.iloadN X0.here hx rfl (hb hby own_d1_23) rfl ?_
        show Steps p.tables e below (s₁.setTop (mkF m 24 #[.val (.ref r0), .val (.long q1), .second, .val (.int v6)] [(.int v6), (.int (64 : Int32)), (.long (-1 : Int64)), (.long (g 2)), (.int (2 : Int32)), (.ref r0)])) target
        refine XS.isub X0.here hx rfl (hb hby own_d1_24) rfl ?_
        show Steps p.tables e below (s₁.setTop (mkF m 25 #[.val (.ref r0), .val (.long q1), .second, .val (.int v6)] [(.int ((64 : Int32) - v6)), (.long (-1 : Int64)), (.long (g 2)), (.int (2 : Int32)), (.ref r0)])) target
        refine XS.lshl X0.here hx rfl (hb hby own_d1_25) rfl ?_
        show Steps p.tables e below (s₁.setTop (mkF m 26 #[.val (.ref r0), .val (.long q1), .second, .val (.int v6)] [(.long ((-1 : Int64) <<< (((64 : Int32) - v6) &&& 0x3f).toInt64)), (.long (g 2)), (.int (2 : Int32)), (.ref r0)])) target
        refine XS.land X0.here hx rfl (hb hby own_d1_26) rfl ?_
        exact kt
      obtain ⟨clg27, Arg27, Szg27, -⟩ := id R_r0
      have hing27 : ¬ ((2 : Int32) < 0 ∨ clg27.slots.size ≤ ((2 : Int32)).toNatClampNeg) := own_inb Szg27 (by decide)
      obtain ⟨Tg27, hg27, Xg27, eg27, Wg27, stg27⟩ := stJ X0 hx hZ e0 Arg27 (j := (2 : Int32)) hing27 (g := (mkF m 27 #[.val (.ref r0), .val (.long q1), .second, .val (.int v6)] [(.long ((g 2) &&& ((-1 : Int64) <<< (((64 : Int32) - v6) &&& 0x3f).toInt64))), (.int (2 : Int32)), (.ref r0)])) rfl rfl (hb hby own_d1_27)
      refine own_st stg27 ?_
      have Ng27 := Fr.snoc Xg27 N0 g_r0
      obtain ⟨a27, ha27⟩ : ∃ gz : Nat → Int64, gz = fun i => if i = 2 then ((g 2) &&& ((-1 : Int64) <<< (((64 : Int32) - v6) &&& 0x3f).toInt64)) else g i := ⟨_, rfl⟩
      have Zz : n0 ≤ hg27.size := Nat.le_trans Z0 (Keep.of_wr Wg27).1
      have Kc := (Keep.refl h0 [r0]).wr Wg27 (Or.inl (List.mem_of_getElem? (i := 0) rfl))
      have F_1 : own_RayJ Z hg27 r0 3 a27 := by rw [ha27]; exact own_RayJ_set R_r0 Wg27 (by decide)
      subst ha27
      exact ⟨_, ⟨Tg27, hg27, _, ((fun i => if i = 2 then ((g 2) &&& ((-1 : Int64) <<< (((64 : Int32) - v6) &&& 0x3f).toInt64)) else g i)), rfl, Xg27, eg27, Ng27, Zz, Kc, F_1, (if_neg c8).symm⟩, fun _ k => k⟩
  refine own_st st_M28 ?_
  obtain ⟨fs, hr, hrun, hended, hW, hsame⟩ := X_M28.leave (v := none) (fun _ => rfl)
  have hend : Steps p.tables e below (T_M28.setTop (mkF m 28 #[.val (.ref r0), .val (.long q1), .second, .val (.int v6)] [])) (T_M28.setFrames fs) := by
    exact X_M28.returnOut hx Bd.returns (hb hby own_d1_28) hr
  refine own_fin hend ⟨_, hrun, hended, _, _, rfl, ?_, ⟨_, rfl⟩, hW, hsame.mono (by decide) (by decide)⟩
  show own_Q1_n3 Z r0 q1 g h0 n0 _ T_M28.heap _
  rw [e_M28]
  subst hv6 hj28_a
  exact ⟨rfl, N_M28, K_M28, F_2⟩
theorem own_pn1 : plainName "com/example/barnacle/barnacle/WordBytesClearPastPinLaw" = true := by first | (simp [plainName, overriddenIn]; done) | decide +kernel
theorem own_d3_0 : decode method_2_code 0 = .ok (.iload_n 2, 1) := by decide +kernel
theorem own_d3_1 : decode method_2_code 1 = .ok (.bipush 64, 2) := by decide +kernel
theorem own_d3_3 : decode method_2_code 3 = .ok (.if_icmp .lt 5, 3) := by decide +kernel
theorem own_d3_6 : decode method_2_code 6 = .ok (.lload_n 0, 1) := by decide +kernel
theorem own_d3_7 : decode method_2_code 7 = .ok (.lreturn, 1) := by decide +kernel
theorem own_d3_8 : decode method_2_code 8 = .ok (.bipush 64, 2) := by decide +kernel
theorem own_d3_10 : decode method_2_code 10 = .ok (.iload_n 2, 1) := by decide +kernel
theorem own_d3_11 : decode method_2_code 11 = .ok (.isub, 1) := by decide +kernel
theorem own_d3_12 : decode method_2_code 12 = .ok (.istore_n 3, 1) := by decide +kernel
theorem own_d3_13 : decode method_2_code 13 = .ok (.lload_n 0, 1) := by decide +kernel
theorem own_d3_14 : decode method_2_code 14 = .ok (.iload_n 3, 1) := by decide +kernel
theorem own_d3_15 : decode method_2_code 15 = .ok (.lushr, 1) := by decide +kernel
theorem own_d3_16 : decode method_2_code 16 = .ok (.iload_n 3, 1) := by decide +kernel
theorem own_d3_17 : decode method_2_code 17 = .ok (.lshl, 1) := by decide +kernel
theorem own_d3_18 : decode method_2_code 18 = .ok (.lreturn, 1) := by decide +kernel
theorem own_ef3 (m : MethodId) (q0 : Int64) (p1 : Int32) : entryFrame m #[(.long q0), (.int p1)] 4 = mkF m 0 #[.val (.long q0), .second, .val (.int p1), .unset] [] := by first | (simp [entryFrame, mkF, argsToLocals, Value.category]; done) | rfl
def own_Q3 (Z : State) (q0 : Int64) (p1 : Int32) (h0 : Heap) (n0 : Nat) (v : Option Value) (h : Heap) (L : List Loc) : Prop := (v = some (.long (if p1 < (64 : Int32) then (((q0.toUInt64 >>> ((((64 : Int32) - p1)) &&& 0x3f).toInt64.toUInt64).toInt64) <<< ((((64 : Int32) - p1)) &&& 0x3f).toInt64) else q0))) ∧ (Fr n0 L) ∧ (h = h0)
set_option maxRecDepth 65536 in
set_option maxHeartbeats 40000000 in
theorem own_rm3 (l : Launch) (Z : State) (a0 : Array Value) (hw : ∀ d ∈ tables_1, d.before a0 Z = true) (ws : List Jvm.Cond) (q0 : Int64) (p1 : Int32) (h0 : Heap) (n0 : Nat) (Z0 : n0 ≤ h0.size) :
    MetFree l (⟨"com/example/barnacle/barnacle/WordBytesClearPastPinLaw", "keep", "(JI)J"⟩ : MethodName) (head1 (Jvm.Cond.code (⟨"com/example/barnacle/barnacle/WordBytesClearPastPinLaw", "keep", "(JI)J"⟩ : MethodName) method_2_code 4 (some .long) :: ws) ({ frames := 0, cells := 0, slots := 0, locals := 0 } : Room)) (fun a U => a = #[(.long q0), (.int p1)] ∧ Z.Warmed39 U.vm ∧ U.heap = h0) (fun _ _ _ _ _ => True) (fun _ U o U' => ∃ v L, o = .returned v ∧ own_Q3 Z q0 p1 h0 n0 v U'.heap L ∧ FrameEnd U o U' L ({ frames := 0, cells := 0, slots := 0, locals := 0 } : Room).cells ({ frames := 0, cells := 0, slots := 0, locals := 0 } : Room).slots) := by
  refine MetFree.of_bodySF (plainFor_of_name own_pn1) hisR ?_
  intro p e s m args below meth c s₁ Bd hml0 hP hK
  obtain ⟨rfl, hZ, hh⟩ := hP
  have hx := Bd.exec
  have hby := Bd.bytes
  have hml : c.maxLocals = 4 := hml0
  have hown : s.vm.findClass "com/example/barnacle/barnacle/WordBytesClearPastPinLaw" = some m.cls := findClass_of_methodNamed Bd.named
  have hnm := (name_of_methodNamed Bd.named Bd.method).1
  have X0 : Stand p l e ({ frames := 0, cells := 0, slots := 0, locals := 0 } : Room) s m #[(.long q0), (.int p1)] below meth c s₁ [] 0 0 := Stand.of_body Bd
  have e0 : s₁.heap = h0 := by rw [← hh, Bd.state]; rfl
  have N0 := Fr.nil n0
  have pre0 : ∀ t, Steps p.tables e below (s₁.setTop (mkF m 0 #[.val (.long q0), .second, .val (.int p1), .unset] [])) t → Steps p.tables e below (s₁.setTop (entryFrame m #[(.long q0), (.int p1)] 4)) t := fun t k => castTop (own_ef3 m q0 p1) k
  refine own_run (own_st pre0 ?_)
  refine own_st (B := s₁.setTop (mkF m 3 #[.val (.long q0), .second, .val (.int p1), .unset] [(.int (64 : Int32)), (.int p1)])) (fun target kt => ?_) ?_
  · show Steps p.tables e below (s₁.setTop (mkF m 0 #[.val (.long q0), .second, .val (.int p1), .unset] [])) target
    refine XS.iloadN X0.here hx rfl (hb hby own_d3_0) rfl ?_
    show Steps p.tables e below (s₁.setTop (mkF m 1 #[.val (.long q0), .second, .val (.int p1), .unset] [(.int p1)])) target
    refine XS.bipush X0.here hx rfl (hb hby own_d3_1) ?_
    exact kt
  by_cases c3 : p1 < (64 : Int32)
  · obtain ⟨v12, hv12⟩ : ∃ z : Int32, z = ((64 : Int32) - p1) := ⟨_, rfl⟩
    refine own_st (B := s₁.setTop (mkF m 18 #[.val (.long q0), .second, .val (.int p1), .val (.int v12)] [(.long (((q0.toUInt64 >>> (v12 &&& 0x3f).toInt64.toUInt64).toInt64) <<< (v12 &&& 0x3f).toInt64))])) (fun target kt => ?_) ?_
    · show Steps p.tables e below (s₁.setTop (mkF m 3 #[.val (.long q0), .second, .val (.int p1), .unset] [(.int (64 : Int32)), (.int p1)])) target
      refine XS.icmpYes X0.here hx rfl (pc0 := 3) (pc' := 8) rfl (hb hby own_d3_3) rfl (tlt c3).1 (by decide) (by decide) ?_
      show Steps p.tables e below (s₁.setTop (mkF m 8 #[.val (.long q0), .second, .val (.int p1), .unset] [])) target
      refine XS.bipush X0.here hx rfl (hb hby own_d3_8) ?_
      show Steps p.tables e below (s₁.setTop (mkF m 10 #[.val (.long q0), .second, .val (.int p1), .unset] [(.int (64 : Int32))])) target
      refine XS.iloadN X0.here hx rfl (hb hby own_d3_10) rfl ?_
      show Steps p.tables e below (s₁.setTop (mkF m 11 #[.val (.long q0), .second, .val (.int p1), .unset] [(.int p1), (.int (64 : Int32))])) target
      refine XS.isub X0.here hx rfl (hb hby own_d3_11) rfl ?_
      show Steps p.tables e below (s₁.setTop (mkF m 12 #[.val (.long q0), .second, .val (.int p1), .unset] [(.int ((64 : Int32) - p1))])) target
      refine XS.istoreN X0.here hx rfl (hb hby own_d3_12) rfl (l' := #[.val (.long q0), .second, .val (.int p1), .val (.int v12)]) (by subst hv12; rfl) ?_
      show Steps p.tables e below (s₁.setTop (mkF m 13 #[.val (.long q0), .second, .val (.int p1), .val (.int v12)] [])) target
      refine XS.lloadN X0.here hx rfl (hb hby own_d3_13) rfl ?_
      show Steps p.tables e below (s₁.setTop (mkF m 14 #[.val (.long q0), .second, .val (.int p1), .val (.int v12)] [(.long q0)])) target
      refine XS.iloadN X0.here hx rfl (hb hby own_d3_14) rfl ?_
      show Steps p.tables e below (s₁.setTop (mkF m 15 #[.val (.long q0), .second, .val (.int p1), .val (.int v12)] [(.int v12), (.long q0)])) target
      refine XS.lushr X0.here hx rfl (hb hby own_d3_15) rfl ?_
      show Steps p.tables e below (s₁.setTop (mkF m 16 #[.val (.long q0), .second, .val (.int p1), .val (.int v12)] [(.long ((q0.toUInt64 >>> (v12 &&& 0x3f).toInt64.toUInt64).toInt64))])) target
      refine XS.iloadN X0.here hx rfl (hb hby own_d3_16) rfl ?_
      show Steps p.tables e below (s₁.setTop (mkF m 17 #[.val (.long q0), .second, .val (.int p1), .val (.int v12)] [(.int v12), (.long ((q0.toUInt64 >>> (v12 &&& 0x3f).toInt64.toUInt64).toInt64))])) target
      refine XS.lshl X0.here hx rfl (hb hby own_d3_17) rfl ?_
      exact kt
    obtain ⟨fs, hr, hrun, hended, hW, hsame⟩ := X0.leave (v := some (.long (((q0.toUInt64 >>> (v12 &&& 0x3f).toInt64.toUInt64).toInt64) <<< (v12 &&& 0x3f).toInt64))) (fun h => by rw [Bd.returns] at h; cases h)
    have hend : Steps p.tables e below (s₁.setTop (mkF m 18 #[.val (.long q0), .second, .val (.int p1), .val (.int v12)] [(.long (((q0.toUInt64 >>> (v12 &&& 0x3f).toInt64.toUInt64).toInt64) <<< (v12 &&& 0x3f).toInt64))])) (s₁.setFrames fs) := by
      exact own_retJ X0 hx Bd.returns (hb hby own_d3_18) hr
    refine own_fin hend ⟨_, hrun, hended, _, _, rfl, ?_, ⟨_, rfl⟩, hW, hsame.mono (by decide) (by decide)⟩
    show own_Q3 Z q0 p1 h0 n0 _ s₁.heap _
    rw [e0]
    subst hv12
    exact ⟨(congrArg (fun z => some (Value.long z)) (if_pos c3).symm), N0, rfl⟩
  · refine own_st (B := s₁.setTop (mkF m 7 #[.val (.long q0), .second, .val (.int p1), .unset] [(.long q0)])) (fun target kt => ?_) ?_
    · show Steps p.tables e below (s₁.setTop (mkF m 3 #[.val (.long q0), .second, .val (.int p1), .unset] [(.int (64 : Int32)), (.int p1)])) target
      refine XS.icmpNo X0.here hx rfl (hb hby own_d3_3) rfl (flt c3).1 ?_
      show Steps p.tables e below (s₁.setTop (mkF m 6 #[.val (.long q0), .second, .val (.int p1), .unset] [])) target
      refine XS.lloadN X0.here hx rfl (hb hby own_d3_6) rfl ?_
      exact kt
    obtain ⟨fs, hr, hrun, hended, hW, hsame⟩ := X0.leave (v := some (.long q0)) (fun h => by rw [Bd.returns] at h; cases h)
    have hend : Steps p.tables e below (s₁.setTop (mkF m 7 #[.val (.long q0), .second, .val (.int p1), .unset] [(.long q0)])) (s₁.setFrames fs) := by
      exact own_retJ X0 hx Bd.returns (hb hby own_d3_7) hr
    refine own_fin hend ⟨_, hrun, hended, _, _, rfl, ?_, ⟨_, rfl⟩, hW, hsame.mono (by decide) (by decide)⟩
    show own_Q3 Z q0 p1 h0 n0 _ s₁.heap _
    rw [e0]
    exact ⟨(congrArg (fun z => some (Value.long z)) (if_neg c3).symm), N0, rfl⟩
theorem own_pd0 : parseMethodDescriptor "(JI)J" = some ⟨[.long, .int], some .long⟩ := by decide +kernel
theorem own_d2_0 : decode method_3_code 0 = .ok (.iload_n 2, 1) := by decide +kernel
theorem own_d2_1 : decode method_3_code 1 = .ok (.iload_n 3, 1) := by decide +kernel
theorem own_d2_2 : decode method_3_code 2 = .ok (.iconst 1, 1) := by decide +kernel
theorem own_d2_3 : decode method_3_code 3 = .ok (.isub, 1) := by decide +kernel
theorem own_d2_4 : decode method_3_code 4 = .ok (.if_icmp .ge 5, 3) := by decide +kernel
theorem own_d2_7 : decode method_3_code 7 = .ok (.lload_n 0, 1) := by decide +kernel
theorem own_d2_8 : decode method_3_code 8 = .ok (.lreturn, 1) := by decide +kernel
theorem own_d2_9 : decode method_3_code 9 = .ok (.lload_n 0, 1) := by decide +kernel
theorem own_d2_10 : decode method_3_code 10 = .ok (.iload 4, 2) := by decide +kernel
theorem own_d2_12 : decode method_3_code 12 = .ok (.invokestatic 7, 3) := by decide +kernel
theorem own_d2_15 : decode method_3_code 15 = .ok (.lreturn, 1) := by decide +kernel
theorem own_ef2 (m : MethodId) (q0 : Int64) (p1 : Int32) (p2 : Int32) (p3 : Int32) : entryFrame m #[(.long q0), (.int p1), (.int p2), (.int p3)] 5 = mkF m 0 #[.val (.long q0), .second, .val (.int p1), .val (.int p2), .val (.int p3)] [] := by first | (simp [entryFrame, mkF, argsToLocals, Value.category]; done) | rfl
def own_Q2 (Z : State) (q0 : Int64) (p1 : Int32) (p2 : Int32) (p3 : Int32) (h0 : Heap) (n0 : Nat) (v : Option Value) (h : Heap) (L : List Loc) : Prop := (v = some (.long (if p1 < (p2 - (1 : Int32)) then q0 else (if p3 < (64 : Int32) then (((q0.toUInt64 >>> ((((64 : Int32) - p3)) &&& 0x3f).toInt64.toUInt64).toInt64) <<< ((((64 : Int32) - p3)) &&& 0x3f).toInt64) else q0)))) ∧ (Fr n0 L) ∧ (h = h0)
set_option maxRecDepth 65536 in
set_option maxHeartbeats 40000000 in
theorem own_rm2 (l : Launch) (Z : State) (a0 : Array Value) (hw : ∀ d ∈ tables_1, d.before a0 Z = true) (ws : List Jvm.Cond) (q0 : Int64) (p1 : Int32) (p2 : Int32) (p3 : Int32) (h0 : Heap) (n0 : Nat) (Z0 : n0 ≤ h0.size) :
    MetFree l (⟨"com/example/barnacle/barnacle/WordBytesClearPastPinLaw", "expected", "(JIII)J"⟩ : MethodName) (head1 (Jvm.Cond.code (⟨"com/example/barnacle/barnacle/WordBytesClearPastPinLaw", "expected", "(JIII)J"⟩ : MethodName) method_3_code 5 (some .long) :: ws) ({ frames := 1, cells := 0, slots := 0, locals := 15 } : Room)) (fun a U => a = #[(.long q0), (.int p1), (.int p2), (.int p3)] ∧ Z.Warmed39 U.vm ∧ U.heap = h0) (fun _ _ _ _ _ => True) (fun _ U o U' => ∃ v L, o = .returned v ∧ own_Q2 Z q0 p1 p2 p3 h0 n0 v U'.heap L ∧ FrameEnd U o U' L ({ frames := 1, cells := 0, slots := 0, locals := 15 } : Room).cells ({ frames := 1, cells := 0, slots := 0, locals := 15 } : Room).slots) := by
  refine MetFree.of_bodySF (plainFor_of_name own_pn1) hisR ?_
  intro p e s m args below meth c s₁ Bd hml0 hP hK
  obtain ⟨rfl, hZ, hh⟩ := hP
  have hx := Bd.exec
  have hby := Bd.bytes
  have hml : c.maxLocals = 5 := hml0
  have hown : s.vm.findClass "com/example/barnacle/barnacle/WordBytesClearPastPinLaw" = some m.cls := findClass_of_methodNamed Bd.named
  have hnm := (name_of_methodNamed Bd.named Bd.method).1
  have X0 : Stand p l e ({ frames := 1, cells := 0, slots := 0, locals := 15 } : Room) s m #[(.long q0), (.int p1), (.int p2), (.int p3)] below meth c s₁ [] 0 0 := Stand.of_body Bd
  have e0 : s₁.heap = h0 := by rw [← hh, Bd.state]; rfl
  have N0 := Fr.nil n0
  have pre0 : ∀ t, Steps p.tables e below (s₁.setTop (mkF m 0 #[.val (.long q0), .second, .val (.int p1), .val (.int p2), .val (.int p3)] [])) t → Steps p.tables e below (s₁.setTop (entryFrame m #[(.long q0), (.int p1), (.int p2), (.int p3)] 5)) t := fun t k => castTop (own_ef2 m q0 p1 p2 p3) k
  refine own_run (own_st pre0 ?_)
  refine own_st (B := s₁.setTop (mkF m 4 #[.val (.long q0), .second, .val (.int p1), .val (.int p2), .val (.int p3)] [(.int (p2 - (1 : Int32))), (.int p1)])) (fun target kt => ?_) ?_
  · show Steps p.tables e below (s₁.setTop (mkF m 0 #[.val (.long q0), .second, .val (.int p1), .val (.int p2), .val (.int p3)] [])) target
    refine XS.iloadN X0.here hx rfl (hb hby own_d2_0) rfl ?_
    show Steps p.tables e below (s₁.setTop (mkF m 1 #[.val (.long q0), .second, .val (.int p1), .val (.int p2), .val (.int p3)] [(.int p1)])) target
    refine XS.iloadN X0.here hx rfl (hb hby own_d2_1) rfl ?_
    show Steps p.tables e below (s₁.setTop (mkF m 2 #[.val (.long q0), .second, .val (.int p1), .val (.int p2), .val (.int p3)] [(.int p2), (.int p1)])) target
    refine XS.iconst X0.here hx rfl (hb hby own_d2_2) ?_
    show Steps p.tables e below (s₁.setTop (mkF m 3 #[.val (.long q0), .second, .val (.int p1), .val (.int p2), .val (.int p3)] [(.int (1 : Int32)), (.int p2), (.int p1)])) target
    refine XS.isub X0.here hx rfl (hb hby own_d2_3) rfl ?_
    exact kt
  by_cases c4 : p1 < (p2 - (1 : Int32))
  · refine own_st (B := s₁.setTop (mkF m 8 #[.val (.long q0), .second, .val (.int p1), .val (.int p2), .val (.int p3)] [(.long q0)])) (fun target kt => ?_) ?_
    · show Steps p.tables e below (s₁.setTop (mkF m 4 #[.val (.long q0), .second, .val (.int p1), .val (.int p2), .val (.int p3)] [(.int (p2 - (1 : Int32))), (.int p1)])) target
      refine XS.icmpNo X0.here hx rfl (hb hby own_d2_4) rfl (tlt c4).2.1 ?_
      show Steps p.tables e below (s₁.setTop (mkF m 7 #[.val (.long q0), .second, .val (.int p1), .val (.int p2), .val (.int p3)] [])) target
      refine XS.lloadN X0.here hx rfl (hb hby own_d2_7) rfl ?_
      exact kt
    obtain ⟨fs, hr, hrun, hended, hW, hsame⟩ := X0.leave (v := some (.long q0)) (fun h => by rw [Bd.returns] at h; cases h)
    have hend : Steps p.tables e below (s₁.setTop (mkF m 8 #[.val (.long q0), .second, .val (.int p1), .val (.int p2), .val (.int p3)] [(.long q0)])) (s₁.setFrames fs) := by
      exact own_retJ X0 hx Bd.returns (hb hby own_d2_8) hr
    refine own_fin hend ⟨_, hrun, hended, _, _, rfl, ?_, ⟨_, rfl⟩, hW, hsame.mono (by decide) (by decide)⟩
    show own_Q2 Z q0 p1 p2 p3 h0 n0 _ s₁.heap _
    rw [e0]
    exact ⟨(congrArg (fun z => some (Value.long z)) (if_pos c4).symm), N0, rfl⟩
  · refine own_st (B := s₁.setTop (mkF m 12 #[.val (.long q0), .second, .val (.int p1), .val (.int p2), .val (.int p3)] [(.int p3), (.long q0)])) (fun target kt => ?_) ?_
    · show Steps p.tables e below (s₁.setTop (mkF m 4 #[.val (.long q0), .second, .val (.int p1), .val (.int p2), .val (.int p3)] [(.int (p2 - (1 : Int32))), (.int p1)])) target
      refine XS.icmpYes X0.here hx rfl (pc0 := 4) (pc' := 9) rfl (hb hby own_d2_4) rfl (flt c4).2.1 (by decide) (by decide) ?_
      show Steps p.tables e below (s₁.setTop (mkF m 9 #[.val (.long q0), .second, .val (.int p1), .val (.int p2), .val (.int p3)] [])) target
      refine XS.lloadN X0.here hx rfl (hb hby own_d2_9) rfl ?_
      show Steps p.tables e below (s₁.setTop (mkF m 10 #[.val (.long q0), .second, .val (.int p1), .val (.int p2), .val (.int p3)] [(.long q0)])) target
      refine XS.iload X0.here hx rfl (hb hby own_d2_10) rfl ?_
      exact kt
    obtain ⟨_, _, ⟨Tg12, Lg12, kg12, ng12⟩, -, Xg12, ⟨Lcg12, hQg12, lg12, yg12, zg12⟩, stg12⟩ := Jvm.LawKit.callS X0 hx (y := (⟨"com/example/barnacle/barnacle/WordBytesClearPastPinLaw", "keep", "(JI)J"⟩ : MethodName)) hown (mvT hZ (hw _ (List.mem_of_getElem? (i := 12) rfl))) (mvT hZ (hw _ (List.mem_of_getElem? (i := 13) rfl))) (mvT hZ (hw _ (List.mem_of_getElem? (i := 10) rfl))) (mvT hZ (hw _ (List.mem_of_getElem? (i := 14) rfl))) (by decide) (backOf (W := 0) (own_rm3 l Z a0 hw [] q0 p3 h0 n0 Z0) hZ (hw _ (List.mem_of_getElem? (i := 14) rfl)) (hw _ (List.mem_of_getElem? (i := 10) rfl)) (by decide) (by decide)) (g := (mkF m 12 #[.val (.long q0), .second, .val (.int p1), .val (.int p2), .val (.int p3)] [(.int p3), (.long q0)])) rfl (by rw [hml]; rfl) (argsL := [(.long q0), (.int p3)]) (rest := []) (lenOf own_pd0 rfl) rfl (by show 2 * 0 + _ ≤ _; exact Nat.le_of_eq rfl) (hb hby own_d2_12) (fun _ _ => ⟨rfl, e0, (by decide : 0 + 0 ≤ _), (by decide : 0 + 0 ≤ _)⟩)
    dsimp only [Pt.U, Pt.locs, Pt.cells, Pt.slots] at Xg12 lg12 yg12 zg12 stg12 hQg12
    subst lg12 yg12 zg12
    obtain ⟨rfl, Ng12q, eg12⟩ := hQg12
    have Ng12 := Fr.app N0 Ng12q
    refine own_st (stg12) ?_
    obtain ⟨fs, hr, hrun, hended, hW, hsame⟩ := Xg12.leave (v := some (.long (if p3 < (64 : Int32) then (((q0.toUInt64 >>> ((((64 : Int32) - p3)) &&& 0x3f).toInt64.toUInt64).toInt64) <<< ((((64 : Int32) - p3)) &&& 0x3f).toInt64) else q0))) (fun h => by rw [Bd.returns] at h; cases h)
    have hend : Steps p.tables e below (Tg12.setTop (mkF m 15 #[.val (.long q0), .second, .val (.int p1), .val (.int p2), .val (.int p3)] [(.long (if p3 < (64 : Int32) then (((q0.toUInt64 >>> ((((64 : Int32) - p3)) &&& 0x3f).toInt64.toUInt64).toInt64) <<< ((((64 : Int32) - p3)) &&& 0x3f).toInt64) else q0))])) (Tg12.setFrames fs) := by
      exact own_retJ Xg12 hx Bd.returns (hb hby own_d2_15) hr
    refine own_fin hend ⟨_, hrun, hended, _, _, rfl, ?_, ⟨_, rfl⟩, hW, hsame.mono (by decide) (by decide)⟩
    show own_Q2 Z q0 p1 p2 p3 h0 n0 _ Tg12.heap _
    rw [eg12]
    exact ⟨(congrArg (fun z => some (Value.long z)) (if_neg c4).symm), Ng12, rfl⟩
theorem own_pd1 : parseMethodDescriptor "([JJ)V" = some ⟨[(.array .long), .long], none⟩ := by decide +kernel
theorem own_pd2 : parseMethodDescriptor "(JIII)J" = some ⟨[.long, .int, .int, .int], some .long⟩ := by decide +kernel
theorem own_ef0 (m : MethodId) (q0 : Int64) (q1 : Int64) (q2 : Int64) (p3 : Int32) (p4 : Int32) : entryFrame m #[(.long q0), (.long q1), (.long q2), (.int p3), (.int p4)] maxLocals = mkF m 0 #[.val (.long q0), .second, .val (.long q1), .second, .val (.long q2), .second, .val (.int p3), .val (.int p4), .unset, .unset, .unset, .unset, .unset, .unset] [] := by first | (simp [entryFrame, mkF, argsToLocals, Value.category, maxLocals]; done) | rfl
def own_Q0 (Z : State) (q0 : Int64) (q1 : Int64) (q2 : Int64) (p3 : Int32) (p4 : Int32) (h0 : Heap) (n0 : Nat) (v : Option Value) (h : Heap) (L : List Loc) : Prop := (v = some (.int (1 : Int32))) ∧ (Fr n0 L)
set_option maxRecDepth 65536 in
set_option maxHeartbeats 40000000 in
theorem own_rm0 (l : Launch) (Z : State) (a0 : Array Value) (hw : ∀ d ∈ tables_1, d.before a0 Z = true) (ws : List Jvm.Cond) (q0 : Int64) (q1 : Int64) (q2 : Int64) (p3 : Int32) (p4 : Int32) (h0 : Heap) (n0 : Nat) (Z0 : n0 ≤ h0.size) :
    MetFree l x (head1 (Jvm.Cond.code x code maxLocals ret :: ws) room_1) (fun a U => a = #[(.long q0), (.long q1), (.long q2), (.int p3), (.int p4)] ∧ Z.Warmed39 U.vm ∧ U.heap = h0) (fun _ _ _ _ _ => True) (fun _ U o U' => ∃ v L, o = .returned v ∧ own_Q0 Z q0 q1 q2 p3 p4 h0 n0 v U'.heap L ∧ FrameEnd U o U' L room_1.cells room_1.slots) := by
  refine MetFree.of_bodySF (plainFor_of_name own_pn1) hisR ?_
  intro p e s m args below meth c s₁ Bd hml0 hP hK
  obtain ⟨rfl, hZ, hh⟩ := hP
  have hx := Bd.exec
  have hby := Bd.bytes
  have hml : c.maxLocals = 14 := hml0
  have hown : s.vm.findClass "com/example/barnacle/barnacle/WordBytesClearPastPinLaw" = some m.cls := findClass_of_methodNamed Bd.named
  have hnm := (name_of_methodNamed Bd.named Bd.method).1
  have X0 : Stand p l e room_1 s m #[(.long q0), (.long q1), (.long q2), (.int p3), (.int p4)] below meth c s₁ [] 0 0 := Stand.of_body Bd
  have e0 : s₁.heap = h0 := by rw [← hh, Bd.state]; rfl
  have N0 := Fr.nil n0
  have pre0 : ∀ t, Steps p.tables e below (s₁.setTop (mkF m 0 #[.val (.long q0), .second, .val (.long q1), .second, .val (.long q2), .second, .val (.int p3), .val (.int p4), .unset, .unset, .unset, .unset, .unset, .unset] [])) t → Steps p.tables e below (s₁.setTop (entryFrame m #[(.long q0), (.long q1), (.long q2), (.int p3), (.int p4)] maxLocals)) t := fun t k => castTop (own_ef0 m q0 q1 q2 p3 p4) k
  refine own_run (own_st pre0 ?_)
  obtain ⟨v4, hv4⟩ : ∃ z : Int32, z = (p3 &&& (3 : Int32)) := ⟨_, rfl⟩
  refine own_st (B := s₁.setTop (mkF m 6 #[.val (.long q0), .second, .val (.long q1), .second, .val (.long q2), .second, .val (.int p3), .val (.int p4), .val (.int v4), .unset, .unset, .unset, .unset, .unset] [])) (fun target kt => ?_) ?_
  · show Steps p.tables e below (s₁.setTop (mkF m 0 #[.val (.long q0), .second, .val (.long q1), .second, .val (.long q2), .second, .val (.int p3), .val (.int p4), .unset, .unset, .unset, .unset, .unset, .unset] [])) target
    refine XS.iload X0.here hx rfl (hb hby at_0) rfl ?_
    show Steps p.tables e below (s₁.setTop (mkF m 2 #[.val (.long q0), .second, .val (.long q1), .second, .val (.long q2), .second, .val (.int p3), .val (.int p4), .unset, .unset, .unset, .unset, .unset, .unset] [(.int p3)])) target
    refine XS.iconst X0.here hx rfl (hb hby at_2) ?_
    show Steps p.tables e below (s₁.setTop (mkF m 3 #[.val (.long q0), .second, .val (.long q1), .second, .val (.long q2), .second, .val (.int p3), .val (.int p4), .unset, .unset, .unset, .unset, .unset, .unset] [(.int (3 : Int32)), (.int p3)])) target
    refine XS.iand X0.here hx rfl (hb hby at_3) rfl ?_
    show Steps p.tables e below (s₁.setTop (mkF m 4 #[.val (.long q0), .second, .val (.long q1), .second, .val (.long q2), .second, .val (.int p3), .val (.int p4), .unset, .unset, .unset, .unset, .unset, .unset] [(.int (p3 &&& (3 : Int32)))])) target
    refine XS.istore X0.here hx rfl (hb hby at_4) rfl (l' := #[.val (.long q0), .second, .val (.long q1), .second, .val (.long q2), .second, .val (.int p3), .val (.int p4), .val (.int v4), .unset, .unset, .unset, .unset, .unset]) (by subst hv4; rfl) ?_
    exact kt
  rcases own_and3 p3 v4 hv4 with hs6 | hs6 | hs6 | hs6
  · subst hs6
    refine own_st (B := s₁.setTop (mkF m 8 #[.val (.long q0), .second, .val (.long q1), .second, .val (.long q2), .second, .val (.int p3), .val (.int p4), .val (.int (0 : Int32)), .unset, .unset, .unset, .unset, .unset] [(.int (0 : Int32))])) (fun target kt => ?_) ?_
    · show Steps p.tables e below (s₁.setTop (mkF m 6 #[.val (.long q0), .second, .val (.long q1), .second, .val (.long q2), .second, .val (.int p3), .val (.int p4), .val (.int (0 : Int32)), .unset, .unset, .unset, .unset, .unset] [])) target
      refine XS.iload X0.here hx rfl (hb hby at_6) rfl ?_
      exact kt
    obtain ⟨Tg8, hg8, kg8, Xg8, eg8, Eg8, Ag8, stg8⟩ := newP X0 hx hZ (hw _ (List.mem_of_getElem? (i := 0) rfl)) e0 (g := (mkF m 8 #[.val (.long q0), .second, .val (.long q1), .second, .val (.long q2), .second, .val (.int p3), .val (.int p4), .val (.int (0 : Int32)), .unset, .unset, .unset, .unset, .unset] [(.int (0 : Int32))])) rfl (hb hby at_8) rfl (by decide) (cap := 0) (by decide) (by decide) (by decide) (by decide)
    obtain ⟨b8, gg8⟩ : ∃ z, z = h0.size := ⟨_, rfl⟩
    rw [← gg8] at Ag8 stg8
    refine own_st stg8 ?_
    have g_b8 : n0 ≤ b8 := Nat.le_trans Z0 (Nat.le_of_eq gg8.symm)
    have Zz : n0 ≤ hg8.size := Nat.le_trans Z0 Eg8.1
    have F : own_RayJ Z hg8 b8 0 (fun _ => (0 : Int64)) := own_RayJ_new Ag8 (by decide) (by decide)
    obtain ⟨v53, hv53⟩ : ∃ z : Int32, z = ((1 : Int32) + (p4 &&& (63 : Int32))) := ⟨_, rfl⟩
    refine own_st (B := Tg8.setTop (mkF m 83 #[.val (.long q0), .second, .val (.long q1), .second, .val (.long q2), .second, .val (.int p3), .val (.int p4), .val (.int (0 : Int32)), .val (.ref b8), .val (.int v53), .val (.long (0 : Int64)), .second, .unset] [(.long (0 : Int64)), (.ref b8)])) (fun target kt => ?_) ?_
    · show Steps p.tables e below (Tg8.setTop (mkF m 10 #[.val (.long q0), .second, .val (.long q1), .second, .val (.long q2), .second, .val (.int p3), .val (.int p4), .val (.int (0 : Int32)), .unset, .unset, .unset, .unset, .unset] [(.ref b8)])) target
      refine XS.astore Xg8.here hx rfl (hb hby at_10) rfl rfl (l' := #[.val (.long q0), .second, .val (.long q1), .second, .val (.long q2), .second, .val (.int p3), .val (.int p4), .val (.int (0 : Int32)), .val (.ref b8), .unset, .unset, .unset, .unset]) rfl ?_
      show Steps p.tables e below (Tg8.setTop (mkF m 12 #[.val (.long q0), .second, .val (.long q1), .second, .val (.long q2), .second, .val (.int p3), .val (.int p4), .val (.int (0 : Int32)), .val (.ref b8), .unset, .unset, .unset, .unset] [])) target
      refine XS.iload Xg8.here hx rfl (hb hby at_12) rfl ?_
      show Steps p.tables e below (Tg8.setTop (mkF m 14 #[.val (.long q0), .second, .val (.long q1), .second, .val (.long q2), .second, .val (.int p3), .val (.int p4), .val (.int (0 : Int32)), .val (.ref b8), .unset, .unset, .unset, .unset] [(.int (0 : Int32))])) target
      refine XS.iconst Xg8.here hx rfl (hb hby at_14) ?_
      show Steps p.tables e below (Tg8.setTop (mkF m 15 #[.val (.long q0), .second, .val (.long q1), .second, .val (.long q2), .second, .val (.int p3), .val (.int p4), .val (.int (0 : Int32)), .val (.ref b8), .unset, .unset, .unset, .unset] [(.int (1 : Int32)), (.int (0 : Int32))])) target
      refine XS.icmpYes Xg8.here hx rfl (pc0 := 15) (pc' := 23) rfl (hb hby at_15) rfl (tlt (by decide : (0 : Int32) < (1 : Int32))).1 (by decide) (by decide) ?_
      show Steps p.tables e below (Tg8.setTop (mkF m 23 #[.val (.long q0), .second, .val (.long q1), .second, .val (.long q2), .second, .val (.int p3), .val (.int p4), .val (.int (0 : Int32)), .val (.ref b8), .unset, .unset, .unset, .unset] [])) target
      refine XS.iload Xg8.here hx rfl (hb hby at_23) rfl ?_
      show Steps p.tables e below (Tg8.setTop (mkF m 25 #[.val (.long q0), .second, .val (.long q1), .second, .val (.long q2), .second, .val (.int p3), .val (.int p4), .val (.int (0 : Int32)), .val (.ref b8), .unset, .unset, .unset, .unset] [(.int (0 : Int32))])) target
      refine XS.iconst Xg8.here hx rfl (hb hby at_25) ?_
      show Steps p.tables e below (Tg8.setTop (mkF m 26 #[.val (.long q0), .second, .val (.long q1), .second, .val (.long q2), .second, .val (.int p3), .val (.int p4), .val (.int (0 : Int32)), .val (.ref b8), .unset, .unset, .unset, .unset] [(.int (2 : Int32)), (.int (0 : Int32))])) target
      refine XS.icmpYes Xg8.here hx rfl (pc0 := 26) (pc' := 34) rfl (hb hby at_26) rfl (tlt (by decide : (0 : Int32) < (2 : Int32))).1 (by decide) (by decide) ?_
      show Steps p.tables e below (Tg8.setTop (mkF m 34 #[.val (.long q0), .second, .val (.long q1), .second, .val (.long q2), .second, .val (.int p3), .val (.int p4), .val (.int (0 : Int32)), .val (.ref b8), .unset, .unset, .unset, .unset] [])) target
      refine XS.iload Xg8.here hx rfl (hb hby at_34) rfl ?_
      show Steps p.tables e below (Tg8.setTop (mkF m 36 #[.val (.long q0), .second, .val (.long q1), .second, .val (.long q2), .second, .val (.int p3), .val (.int p4), .val (.int (0 : Int32)), .val (.ref b8), .unset, .unset, .unset, .unset] [(.int (0 : Int32))])) target
      refine XS.iconst Xg8.here hx rfl (hb hby at_36) ?_
      show Steps p.tables e below (Tg8.setTop (mkF m 37 #[.val (.long q0), .second, .val (.long q1), .second, .val (.long q2), .second, .val (.int p3), .val (.int p4), .val (.int (0 : Int32)), .val (.ref b8), .unset, .unset, .unset, .unset] [(.int (3 : Int32)), (.int (0 : Int32))])) target
      refine XS.icmpYes Xg8.here hx rfl (pc0 := 37) (pc' := 46) rfl (hb hby at_37) rfl (tlt (by decide : (0 : Int32) < (3 : Int32))).1 (by decide) (by decide) ?_
      show Steps p.tables e below (Tg8.setTop (mkF m 46 #[.val (.long q0), .second, .val (.long q1), .second, .val (.long q2), .second, .val (.int p3), .val (.int p4), .val (.int (0 : Int32)), .val (.ref b8), .unset, .unset, .unset, .unset] [])) target
      refine XS.iconst Xg8.here hx rfl (hb hby at_46) ?_
      show Steps p.tables e below (Tg8.setTop (mkF m 47 #[.val (.long q0), .second, .val (.long q1), .second, .val (.long q2), .second, .val (.int p3), .val (.int p4), .val (.int (0 : Int32)), .val (.ref b8), .unset, .unset, .unset, .unset] [(.int (1 : Int32))])) target
      refine XS.iload Xg8.here hx rfl (hb hby at_47) rfl ?_
      show Steps p.tables e below (Tg8.setTop (mkF m 49 #[.val (.long q0), .second, .val (.long q1), .second, .val (.long q2), .second, .val (.int p3), .val (.int p4), .val (.int (0 : Int32)), .val (.ref b8), .unset, .unset, .unset, .unset] [(.int p4), (.int (1 : Int32))])) target
      refine XS.bipush Xg8.here hx rfl (hb hby at_49) ?_
      show Steps p.tables e below (Tg8.setTop (mkF m 51 #[.val (.long q0), .second, .val (.long q1), .second, .val (.long q2), .second, .val (.int p3), .val (.int p4), .val (.int (0 : Int32)), .val (.ref b8), .unset, .unset, .unset, .unset] [(.int (63 : Int32)), (.int p4), (.int (1 : Int32))])) target
      refine XS.iand Xg8.here hx rfl (hb hby at_51) rfl ?_
      show Steps p.tables e below (Tg8.setTop (mkF m 52 #[.val (.long q0), .second, .val (.long q1), .second, .val (.long q2), .second, .val (.int p3), .val (.int p4), .val (.int (0 : Int32)), .val (.ref b8), .unset, .unset, .unset, .unset] [(.int (p4 &&& (63 : Int32))), (.int (1 : Int32))])) target
      refine XS.iadd Xg8.here hx rfl (hb hby at_52) rfl ?_
      show Steps p.tables e below (Tg8.setTop (mkF m 53 #[.val (.long q0), .second, .val (.long q1), .second, .val (.long q2), .second, .val (.int p3), .val (.int p4), .val (.int (0 : Int32)), .val (.ref b8), .unset, .unset, .unset, .unset] [(.int ((1 : Int32) + (p4 &&& (63 : Int32))))])) target
      refine XS.istore Xg8.here hx rfl (hb hby at_53) rfl (l' := #[.val (.long q0), .second, .val (.long q1), .second, .val (.long q2), .second, .val (.int p3), .val (.int p4), .val (.int (0 : Int32)), .val (.ref b8), .val (.int v53), .unset, .unset, .unset]) (by subst hv53; rfl) ?_
      show Steps p.tables e below (Tg8.setTop (mkF m 55 #[.val (.long q0), .second, .val (.long q1), .second, .val (.long q2), .second, .val (.int p3), .val (.int p4), .val (.int (0 : Int32)), .val (.ref b8), .val (.int v53), .unset, .unset, .unset] [])) target
      refine XS.iload Xg8.here hx rfl (hb hby at_55) rfl ?_
      show Steps p.tables e below (Tg8.setTop (mkF m 57 #[.val (.long q0), .second, .val (.long q1), .second, .val (.long q2), .second, .val (.int p3), .val (.int p4), .val (.int (0 : Int32)), .val (.ref b8), .val (.int v53), .unset, .unset, .unset] [(.int (0 : Int32))])) target
      refine XS.ifNo Xg8.here hx rfl (hb hby at_57) rfl ((if0 _ _).trans (teq (by decide : (0 : Int32) = (0 : Int32))).2) ?_
      show Steps p.tables e below (Tg8.setTop (mkF m 60 #[.val (.long q0), .second, .val (.long q1), .second, .val (.long q2), .second, .val (.int p3), .val (.int p4), .val (.int (0 : Int32)), .val (.ref b8), .val (.int v53), .unset, .unset, .unset] [])) target
      refine XS.lconst Xg8.here hx rfl (hb hby at_60) ?_
      show Steps p.tables e below (Tg8.setTop (mkF m 61 #[.val (.long q0), .second, .val (.long q1), .second, .val (.long q2), .second, .val (.int p3), .val (.int p4), .val (.int (0 : Int32)), .val (.ref b8), .val (.int v53), .unset, .unset, .unset] [(.long (0 : Int64))])) target
      refine XS.goto Xg8.here hx rfl (pc0 := 61) (pc' := 77) rfl (hb hby at_61) (by decide) (by decide) ?_
      show Steps p.tables e below (Tg8.setTop (mkF m 77 #[.val (.long q0), .second, .val (.long q1), .second, .val (.long q2), .second, .val (.int p3), .val (.int p4), .val (.int (0 : Int32)), .val (.ref b8), .val (.int v53), .unset, .unset, .unset] [(.long (0 : Int64))])) target
      refine XS.lstore Xg8.here hx rfl (hb hby at_77) rfl (l' := #[.val (.long q0), .second, .val (.long q1), .second, .val (.long q2), .second, .val (.int p3), .val (.int p4), .val (.int (0 : Int32)), .val (.ref b8), .val (.int v53), .val (.long (0 : Int64)), .second, .unset]) rfl ?_
      show Steps p.tables e below (Tg8.setTop (mkF m 79 #[.val (.long q0), .second, .val (.long q1), .second, .val (.long q2), .second, .val (.int p3), .val (.int p4), .val (.int (0 : Int32)), .val (.ref b8), .val (.int v53), .val (.long (0 : Int64)), .second, .unset] [])) target
      refine XS.aload Xg8.here hx rfl (hb hby at_79) rfl rfl ?_
      show Steps p.tables e below (Tg8.setTop (mkF m 81 #[.val (.long q0), .second, .val (.long q1), .second, .val (.long q2), .second, .val (.int p3), .val (.int p4), .val (.int (0 : Int32)), .val (.ref b8), .val (.int v53), .val (.long (0 : Int64)), .second, .unset] [(.ref b8)])) target
      refine XS.lload Xg8.here hx rfl (hb hby at_81) rfl ?_
      exact kt
    obtain ⟨_, _, ⟨Tg83, Lg83, kg83, ng83⟩, -, Xg83, ⟨Lcg83, hQg83, lg83, yg83, zg83⟩, stg83⟩ := Jvm.LawKit.callS Xg8 hx (y := (⟨"com/example/barnacle/barnacle/WordBytes", "clearPast", "([JJ)V"⟩ : MethodName)) hown (mvT hZ (hw _ (List.mem_of_getElem? (i := 2) rfl))) (mvT hZ (hw _ (List.mem_of_getElem? (i := 3) rfl))) (mvT hZ (hw _ (List.mem_of_getElem? (i := 4) rfl))) (mvT hZ (hw _ (List.mem_of_getElem? (i := 5) rfl))) (by decide) (backOf (W := 0) (own_rm1_n0 l Z a0 hw [] b8 (0 : Int64) (fun _ => (0 : Int64)) hg8 n0 Zz F (show (((0 : Int64) &&& (63 : Int64)).toInt32) = (0 : Int32) from by decide)) hZ (hw _ (List.mem_of_getElem? (i := 5) rfl)) (hw _ (List.mem_of_getElem? (i := 4) rfl)) (by decide) (by decide)) (g := (mkF m 83 #[.val (.long q0), .second, .val (.long q1), .second, .val (.long q2), .second, .val (.int p3), .val (.int p4), .val (.int (0 : Int32)), .val (.ref b8), .val (.int v53), .val (.long (0 : Int64)), .second, .unset] [(.long (0 : Int64)), (.ref b8)])) rfl (by rw [hml]; rfl) (argsL := [(.ref b8), (.long (0 : Int64))]) (rest := []) (lenOf own_pd1 rfl) rfl (by show 2 * 0 + _ ≤ _; exact Nat.le_of_eq rfl) (hb hby at_83) (fun _ _ => ⟨rfl, eg8, (by decide : 1 + 0 ≤ _), (by decide : 0 + 0 ≤ _)⟩)
    dsimp only [Pt.U, Pt.locs, Pt.cells, Pt.slots] at Xg83 lg83 yg83 zg83 stg83 hQg83
    subst lg83 yg83 zg83
    obtain ⟨rfl, Ng83q, eg83⟩ := hQg83
    have Ng83 := Fr.app N0 Ng83q
    refine own_st (stg83) ?_
    refine own_st (B := Tg83.setTop (mkF m 88 #[.val (.long q0), .second, .val (.long q1), .second, .val (.long q2), .second, .val (.int p3), .val (.int p4), .val (.int (0 : Int32)), .val (.ref b8), .val (.int v53), .val (.long (0 : Int64)), .second, .unset] [(.ref b8)])) (fun target kt => ?_) ?_
    · show Steps p.tables e below (Tg83.setTop (mkF m 86 #[.val (.long q0), .second, .val (.long q1), .second, .val (.long q2), .second, .val (.int p3), .val (.int p4), .val (.int (0 : Int32)), .val (.ref b8), .val (.int v53), .val (.long (0 : Int64)), .second, .unset] [])) target
      refine XS.aload Xg83.here hx rfl (hb hby at_86) rfl rfl ?_
      exact kt
    obtain ⟨clg88, Arg88, Szg88, -⟩ := id F
    refine own_st (B := Tg83.setTop (mkF m 89 #[.val (.long q0), .second, .val (.long q1), .second, .val (.long q2), .second, .val (.int p3), .val (.int p4), .val (.int (0 : Int32)), .val (.ref b8), .val (.int v53), .val (.long (0 : Int64)), .second, .unset] [(.int (0 : Int32))])) (fun target kt => ?_) ?_
    · refine Xg83.arraylength hx (by first | exact Arg88.1 | (rw [eg83]; exact Arg88.1)) (State.isArrayOf_alike hZ.alike Arg88.2.1) (g := (mkF m 88 #[.val (.long q0), .second, .val (.long q1), .second, .val (.long q2), .second, .val (.int p3), .val (.int p4), .val (.int (0 : Int32)), .val (.ref b8), .val (.int v53), .val (.long (0 : Int64)), .second, .unset] [(.ref b8)])) rfl rfl (hb hby at_88) _ ?_
      rw [Szg88]
      exact kt
    refine own_st (B := Tg83.setTop (mkF m 207 #[.val (.long q0), .second, .val (.long q1), .second, .val (.long q2), .second, .val (.int p3), .val (.int p4), .val (.int (0 : Int32)), .val (.ref b8), .val (.int v53), .val (.long (0 : Int64)), .second, .val (.int (1 : Int32))] [(.int (1 : Int32))])) (fun target kt => ?_) ?_
    · show Steps p.tables e below (Tg83.setTop (mkF m 89 #[.val (.long q0), .second, .val (.long q1), .second, .val (.long q2), .second, .val (.int p3), .val (.int p4), .val (.int (0 : Int32)), .val (.ref b8), .val (.int v53), .val (.long (0 : Int64)), .second, .unset] [(.int (0 : Int32))])) target
      refine XS.iload Xg83.here hx rfl (hb hby at_89) rfl ?_
      show Steps p.tables e below (Tg83.setTop (mkF m 91 #[.val (.long q0), .second, .val (.long q1), .second, .val (.long q2), .second, .val (.int p3), .val (.int p4), .val (.int (0 : Int32)), .val (.ref b8), .val (.int v53), .val (.long (0 : Int64)), .second, .unset] [(.int (0 : Int32)), (.int (0 : Int32))])) target
      refine XS.icmpYes Xg83.here hx rfl (pc0 := 91) (pc' := 96) rfl (hb hby at_91) rfl (teq (by decide : (0 : Int32) = (0 : Int32))).1 (by decide) (by decide) ?_
      show Steps p.tables e below (Tg83.setTop (mkF m 96 #[.val (.long q0), .second, .val (.long q1), .second, .val (.long q2), .second, .val (.int p3), .val (.int p4), .val (.int (0 : Int32)), .val (.ref b8), .val (.int v53), .val (.long (0 : Int64)), .second, .unset] [])) target
      refine XS.iconst Xg83.here hx rfl (hb hby at_96) ?_
      show Steps p.tables e below (Tg83.setTop (mkF m 97 #[.val (.long q0), .second, .val (.long q1), .second, .val (.long q2), .second, .val (.int p3), .val (.int p4), .val (.int (0 : Int32)), .val (.ref b8), .val (.int v53), .val (.long (0 : Int64)), .second, .unset] [(.int (1 : Int32))])) target
      refine XS.istore Xg83.here hx rfl (hb hby at_97) rfl (l' := #[.val (.long q0), .second, .val (.long q1), .second, .val (.long q2), .second, .val (.int p3), .val (.int p4), .val (.int (0 : Int32)), .val (.ref b8), .val (.int v53), .val (.long (0 : Int64)), .second, .val (.int (1 : Int32))]) rfl ?_
      show Steps p.tables e below (Tg83.setTop (mkF m 99 #[.val (.long q0), .second, .val (.long q1), .second, .val (.long q2), .second, .val (.int p3), .val (.int p4), .val (.int (0 : Int32)), .val (.ref b8), .val (.int v53), .val (.long (0 : Int64)), .second, .val (.int (1 : Int32))] [])) target
      refine XS.iload Xg83.here hx rfl (hb hby at_99) rfl ?_
      show Steps p.tables e below (Tg83.setTop (mkF m 101 #[.val (.long q0), .second, .val (.long q1), .second, .val (.long q2), .second, .val (.int p3), .val (.int p4), .val (.int (0 : Int32)), .val (.ref b8), .val (.int v53), .val (.long (0 : Int64)), .second, .val (.int (1 : Int32))] [(.int (0 : Int32))])) target
      refine XS.iconst Xg83.here hx rfl (hb hby at_101) ?_
      show Steps p.tables e below (Tg83.setTop (mkF m 102 #[.val (.long q0), .second, .val (.long q1), .second, .val (.long q2), .second, .val (.int p3), .val (.int p4), .val (.int (0 : Int32)), .val (.ref b8), .val (.int v53), .val (.long (0 : Int64)), .second, .val (.int (1 : Int32))] [(.int (1 : Int32)), (.int (0 : Int32))])) target
      refine XS.icmpYes Xg83.here hx rfl (pc0 := 102) (pc' := 134) rfl (hb hby at_102) rfl (tlt (by decide : (0 : Int32) < (1 : Int32))).1 (by decide) (by decide) ?_
      show Steps p.tables e below (Tg83.setTop (mkF m 134 #[.val (.long q0), .second, .val (.long q1), .second, .val (.long q2), .second, .val (.int p3), .val (.int p4), .val (.int (0 : Int32)), .val (.ref b8), .val (.int v53), .val (.long (0 : Int64)), .second, .val (.int (1 : Int32))] [])) target
      refine XS.iload Xg83.here hx rfl (hb hby at_134) rfl ?_
      show Steps p.tables e below (Tg83.setTop (mkF m 136 #[.val (.long q0), .second, .val (.long q1), .second, .val (.long q2), .second, .val (.int p3), .val (.int p4), .val (.int (0 : Int32)), .val (.ref b8), .val (.int v53), .val (.long (0 : Int64)), .second, .val (.int (1 : Int32))] [(.int (0 : Int32))])) target
      refine XS.iconst Xg83.here hx rfl (hb hby at_136) ?_
      show Steps p.tables e below (Tg83.setTop (mkF m 137 #[.val (.long q0), .second, .val (.long q1), .second, .val (.long q2), .second, .val (.int p3), .val (.int p4), .val (.int (0 : Int32)), .val (.ref b8), .val (.int v53), .val (.long (0 : Int64)), .second, .val (.int (1 : Int32))] [(.int (2 : Int32)), (.int (0 : Int32))])) target
      refine XS.icmpYes Xg83.here hx rfl (pc0 := 137) (pc' := 169) rfl (hb hby at_137) rfl (tlt (by decide : (0 : Int32) < (2 : Int32))).1 (by decide) (by decide) ?_
      show Steps p.tables e below (Tg83.setTop (mkF m 169 #[.val (.long q0), .second, .val (.long q1), .second, .val (.long q2), .second, .val (.int p3), .val (.int p4), .val (.int (0 : Int32)), .val (.ref b8), .val (.int v53), .val (.long (0 : Int64)), .second, .val (.int (1 : Int32))] [])) target
      refine XS.iload Xg83.here hx rfl (hb hby at_169) rfl ?_
      show Steps p.tables e below (Tg83.setTop (mkF m 171 #[.val (.long q0), .second, .val (.long q1), .second, .val (.long q2), .second, .val (.int p3), .val (.int p4), .val (.int (0 : Int32)), .val (.ref b8), .val (.int v53), .val (.long (0 : Int64)), .second, .val (.int (1 : Int32))] [(.int (0 : Int32))])) target
      refine XS.iconst Xg83.here hx rfl (hb hby at_171) ?_
      show Steps p.tables e below (Tg83.setTop (mkF m 172 #[.val (.long q0), .second, .val (.long q1), .second, .val (.long q2), .second, .val (.int p3), .val (.int p4), .val (.int (0 : Int32)), .val (.ref b8), .val (.int v53), .val (.long (0 : Int64)), .second, .val (.int (1 : Int32))] [(.int (3 : Int32)), (.int (0 : Int32))])) target
      refine XS.icmpYes Xg83.here hx rfl (pc0 := 172) (pc' := 205) rfl (hb hby at_172) rfl (tlt (by decide : (0 : Int32) < (3 : Int32))).1 (by decide) (by decide) ?_
      show Steps p.tables e below (Tg83.setTop (mkF m 205 #[.val (.long q0), .second, .val (.long q1), .second, .val (.long q2), .second, .val (.int p3), .val (.int p4), .val (.int (0 : Int32)), .val (.ref b8), .val (.int v53), .val (.long (0 : Int64)), .second, .val (.int (1 : Int32))] [])) target
      refine XS.iload Xg83.here hx rfl (hb hby at_205) rfl ?_
      exact kt
    obtain ⟨fs, hr, hrun, hended, hW, hsame⟩ := Xg83.leave (v := some (.int (1 : Int32))) (fun h => by rw [Bd.returns] at h; cases h)
    have hend : Steps p.tables e below (Tg83.setTop (mkF m 207 #[.val (.long q0), .second, .val (.long q1), .second, .val (.long q2), .second, .val (.int p3), .val (.int p4), .val (.int (0 : Int32)), .val (.ref b8), .val (.int v53), .val (.long (0 : Int64)), .second, .val (.int (1 : Int32))] [(.int (1 : Int32))])) (Tg83.setFrames fs) := by
      exact retN Xg83 hx (t := .boolean) Bd.returns (by simp) (hb hby at_207) hr
    refine own_fin hend ⟨_, hrun, hended, _, _, rfl, ?_, ⟨_, rfl⟩, hW, hsame.mono (by decide) (by decide)⟩
    show own_Q0 Z q0 q1 q2 p3 p4 h0 n0 _ Tg83.heap _
    rw [eg83]
    exact ⟨rfl, Ng83⟩
  · subst hs6
    refine own_st (B := s₁.setTop (mkF m 8 #[.val (.long q0), .second, .val (.long q1), .second, .val (.long q2), .second, .val (.int p3), .val (.int p4), .val (.int (1 : Int32)), .unset, .unset, .unset, .unset, .unset] [(.int (1 : Int32))])) (fun target kt => ?_) ?_
    · show Steps p.tables e below (s₁.setTop (mkF m 6 #[.val (.long q0), .second, .val (.long q1), .second, .val (.long q2), .second, .val (.int p3), .val (.int p4), .val (.int (1 : Int32)), .unset, .unset, .unset, .unset, .unset] [])) target
      refine XS.iload X0.here hx rfl (hb hby at_6) rfl ?_
      exact kt
    obtain ⟨Tg8, hg8, kg8, Xg8, eg8, Eg8, Ag8, stg8⟩ := newP X0 hx hZ (hw _ (List.mem_of_getElem? (i := 0) rfl)) e0 (g := (mkF m 8 #[.val (.long q0), .second, .val (.long q1), .second, .val (.long q2), .second, .val (.int p3), .val (.int p4), .val (.int (1 : Int32)), .unset, .unset, .unset, .unset, .unset] [(.int (1 : Int32))])) rfl (hb hby at_8) rfl (by decide) (cap := 1) (by decide) (by decide) (by decide) (by decide)
    obtain ⟨b8, gg8⟩ : ∃ z, z = h0.size := ⟨_, rfl⟩
    rw [← gg8] at Ag8 stg8
    refine own_st stg8 ?_
    have g_b8 : n0 ≤ b8 := Nat.le_trans Z0 (Nat.le_of_eq gg8.symm)
    have Zz : n0 ≤ hg8.size := Nat.le_trans Z0 Eg8.1
    have F : own_RayJ Z hg8 b8 1 (fun _ => (0 : Int64)) := own_RayJ_new Ag8 (by decide) (by decide)
    refine own_st (B := Tg8.setTop (mkF m 22 #[.val (.long q0), .second, .val (.long q1), .second, .val (.long q2), .second, .val (.int p3), .val (.int p4), .val (.int (1 : Int32)), .val (.ref b8), .unset, .unset, .unset, .unset] [(.long q0), (.int (0 : Int32)), (.ref b8)])) (fun target kt => ?_) ?_
    · show Steps p.tables e below (Tg8.setTop (mkF m 10 #[.val (.long q0), .second, .val (.long q1), .second, .val (.long q2), .second, .val (.int p3), .val (.int p4), .val (.int (1 : Int32)), .unset, .unset, .unset, .unset, .unset] [(.ref b8)])) target
      refine XS.astore Xg8.here hx rfl (hb hby at_10) rfl rfl (l' := #[.val (.long q0), .second, .val (.long q1), .second, .val (.long q2), .second, .val (.int p3), .val (.int p4), .val (.int (1 : Int32)), .val (.ref b8), .unset, .unset, .unset, .unset]) rfl ?_
      show Steps p.tables e below (Tg8.setTop (mkF m 12 #[.val (.long q0), .second, .val (.long q1), .second, .val (.long q2), .second, .val (.int p3), .val (.int p4), .val (.int (1 : Int32)), .val (.ref b8), .unset, .unset, .unset, .unset] [])) target
      refine XS.iload Xg8.here hx rfl (hb hby at_12) rfl ?_
      show Steps p.tables e below (Tg8.setTop (mkF m 14 #[.val (.long q0), .second, .val (.long q1), .second, .val (.long q2), .second, .val (.int p3), .val (.int p4), .val (.int (1 : Int32)), .val (.ref b8), .unset, .unset, .unset, .unset] [(.int (1 : Int32))])) target
      refine XS.iconst Xg8.here hx rfl (hb hby at_14) ?_
      show Steps p.tables e below (Tg8.setTop (mkF m 15 #[.val (.long q0), .second, .val (.long q1), .second, .val (.long q2), .second, .val (.int p3), .val (.int p4), .val (.int (1 : Int32)), .val (.ref b8), .unset, .unset, .unset, .unset] [(.int (1 : Int32)), (.int (1 : Int32))])) target
      refine XS.icmpNo Xg8.here hx rfl (hb hby at_15) rfl (flt (by decide : ¬ ((1 : Int32) < (1 : Int32)))).1 ?_
      show Steps p.tables e below (Tg8.setTop (mkF m 18 #[.val (.long q0), .second, .val (.long q1), .second, .val (.long q2), .second, .val (.int p3), .val (.int p4), .val (.int (1 : Int32)), .val (.ref b8), .unset, .unset, .unset, .unset] [])) target
      refine XS.aload Xg8.here hx rfl (hb hby at_18) rfl rfl ?_
      show Steps p.tables e below (Tg8.setTop (mkF m 20 #[.val (.long q0), .second, .val (.long q1), .second, .val (.long q2), .second, .val (.int p3), .val (.int p4), .val (.int (1 : Int32)), .val (.ref b8), .unset, .unset, .unset, .unset] [(.ref b8)])) target
      refine XS.iconst Xg8.here hx rfl (hb hby at_20) ?_
      show Steps p.tables e below (Tg8.setTop (mkF m 21 #[.val (.long q0), .second, .val (.long q1), .second, .val (.long q2), .second, .val (.int p3), .val (.int p4), .val (.int (1 : Int32)), .val (.ref b8), .unset, .unset, .unset, .unset] [(.int (0 : Int32)), (.ref b8)])) target
      refine XS.lloadN Xg8.here hx rfl (hb hby at_21) rfl ?_
      exact kt
    obtain ⟨clg22, Arg22, Szg22, -⟩ := id F
    have hing22 : ¬ ((0 : Int32) < 0 ∨ clg22.slots.size ≤ ((0 : Int32)).toNatClampNeg) := own_inb Szg22 (by decide)
    obtain ⟨Tg22, hg22, Xg22, eg22, Wg22, stg22⟩ := stJ Xg8 hx hZ eg8 Arg22 (j := (0 : Int32)) hing22 (g := (mkF m 22 #[.val (.long q0), .second, .val (.long q1), .second, .val (.long q2), .second, .val (.int p3), .val (.int p4), .val (.int (1 : Int32)), .val (.ref b8), .unset, .unset, .unset, .unset] [(.long q0), (.int (0 : Int32)), (.ref b8)])) rfl rfl (hb hby at_22)
    refine own_st stg22 ?_
    have Ng22 := Fr.snoc Xg22 N0 g_b8
    obtain ⟨a22, ha22⟩ : ∃ gz : Nat → Int64, gz = fun i => if i = 0 then q0 else (fun _ => (0 : Int64)) i := ⟨_, rfl⟩
    have Zz_1 : n0 ≤ hg22.size := Nat.le_trans Zz (Keep.of_wr Wg22).1
    have F_2 : own_RayJ Z hg22 b8 1 a22 := by rw [ha22]; exact own_RayJ_set F Wg22 (by decide)
    obtain ⟨v53, hv53⟩ : ∃ z : Int32, z = ((1 : Int32) + (p4 &&& (63 : Int32))) := ⟨_, rfl⟩
    obtain ⟨v77, hv77⟩ : ∃ z : Int64, z = ((0 : Int64) + (v53.toInt64)) := ⟨_, rfl⟩
    refine own_st (B := Tg22.setTop (mkF m 83 #[.val (.long q0), .second, .val (.long q1), .second, .val (.long q2), .second, .val (.int p3), .val (.int p4), .val (.int (1 : Int32)), .val (.ref b8), .val (.int v53), .val (.long v77), .second, .unset] [(.long v77), (.ref b8)])) (fun target kt => ?_) ?_
    · show Steps p.tables e below (Tg22.setTop (mkF m 23 #[.val (.long q0), .second, .val (.long q1), .second, .val (.long q2), .second, .val (.int p3), .val (.int p4), .val (.int (1 : Int32)), .val (.ref b8), .unset, .unset, .unset, .unset] [])) target
      refine XS.iload Xg22.here hx rfl (hb hby at_23) rfl ?_
      show Steps p.tables e below (Tg22.setTop (mkF m 25 #[.val (.long q0), .second, .val (.long q1), .second, .val (.long q2), .second, .val (.int p3), .val (.int p4), .val (.int (1 : Int32)), .val (.ref b8), .unset, .unset, .unset, .unset] [(.int (1 : Int32))])) target
      refine XS.iconst Xg22.here hx rfl (hb hby at_25) ?_
      show Steps p.tables e below (Tg22.setTop (mkF m 26 #[.val (.long q0), .second, .val (.long q1), .second, .val (.long q2), .second, .val (.int p3), .val (.int p4), .val (.int (1 : Int32)), .val (.ref b8), .unset, .unset, .unset, .unset] [(.int (2 : Int32)), (.int (1 : Int32))])) target
      refine XS.icmpYes Xg22.here hx rfl (pc0 := 26) (pc' := 34) rfl (hb hby at_26) rfl (tlt (by decide : (1 : Int32) < (2 : Int32))).1 (by decide) (by decide) ?_
      show Steps p.tables e below (Tg22.setTop (mkF m 34 #[.val (.long q0), .second, .val (.long q1), .second, .val (.long q2), .second, .val (.int p3), .val (.int p4), .val (.int (1 : Int32)), .val (.ref b8), .unset, .unset, .unset, .unset] [])) target
      refine XS.iload Xg22.here hx rfl (hb hby at_34) rfl ?_
      show Steps p.tables e below (Tg22.setTop (mkF m 36 #[.val (.long q0), .second, .val (.long q1), .second, .val (.long q2), .second, .val (.int p3), .val (.int p4), .val (.int (1 : Int32)), .val (.ref b8), .unset, .unset, .unset, .unset] [(.int (1 : Int32))])) target
      refine XS.iconst Xg22.here hx rfl (hb hby at_36) ?_
      show Steps p.tables e below (Tg22.setTop (mkF m 37 #[.val (.long q0), .second, .val (.long q1), .second, .val (.long q2), .second, .val (.int p3), .val (.int p4), .val (.int (1 : Int32)), .val (.ref b8), .unset, .unset, .unset, .unset] [(.int (3 : Int32)), (.int (1 : Int32))])) target
      refine XS.icmpYes Xg22.here hx rfl (pc0 := 37) (pc' := 46) rfl (hb hby at_37) rfl (tlt (by decide : (1 : Int32) < (3 : Int32))).1 (by decide) (by decide) ?_
      show Steps p.tables e below (Tg22.setTop (mkF m 46 #[.val (.long q0), .second, .val (.long q1), .second, .val (.long q2), .second, .val (.int p3), .val (.int p4), .val (.int (1 : Int32)), .val (.ref b8), .unset, .unset, .unset, .unset] [])) target
      refine XS.iconst Xg22.here hx rfl (hb hby at_46) ?_
      show Steps p.tables e below (Tg22.setTop (mkF m 47 #[.val (.long q0), .second, .val (.long q1), .second, .val (.long q2), .second, .val (.int p3), .val (.int p4), .val (.int (1 : Int32)), .val (.ref b8), .unset, .unset, .unset, .unset] [(.int (1 : Int32))])) target
      refine XS.iload Xg22.here hx rfl (hb hby at_47) rfl ?_
      show Steps p.tables e below (Tg22.setTop (mkF m 49 #[.val (.long q0), .second, .val (.long q1), .second, .val (.long q2), .second, .val (.int p3), .val (.int p4), .val (.int (1 : Int32)), .val (.ref b8), .unset, .unset, .unset, .unset] [(.int p4), (.int (1 : Int32))])) target
      refine XS.bipush Xg22.here hx rfl (hb hby at_49) ?_
      show Steps p.tables e below (Tg22.setTop (mkF m 51 #[.val (.long q0), .second, .val (.long q1), .second, .val (.long q2), .second, .val (.int p3), .val (.int p4), .val (.int (1 : Int32)), .val (.ref b8), .unset, .unset, .unset, .unset] [(.int (63 : Int32)), (.int p4), (.int (1 : Int32))])) target
      refine XS.iand Xg22.here hx rfl (hb hby at_51) rfl ?_
      show Steps p.tables e below (Tg22.setTop (mkF m 52 #[.val (.long q0), .second, .val (.long q1), .second, .val (.long q2), .second, .val (.int p3), .val (.int p4), .val (.int (1 : Int32)), .val (.ref b8), .unset, .unset, .unset, .unset] [(.int (p4 &&& (63 : Int32))), (.int (1 : Int32))])) target
      refine XS.iadd Xg22.here hx rfl (hb hby at_52) rfl ?_
      show Steps p.tables e below (Tg22.setTop (mkF m 53 #[.val (.long q0), .second, .val (.long q1), .second, .val (.long q2), .second, .val (.int p3), .val (.int p4), .val (.int (1 : Int32)), .val (.ref b8), .unset, .unset, .unset, .unset] [(.int ((1 : Int32) + (p4 &&& (63 : Int32))))])) target
      refine XS.istore Xg22.here hx rfl (hb hby at_53) rfl (l' := #[.val (.long q0), .second, .val (.long q1), .second, .val (.long q2), .second, .val (.int p3), .val (.int p4), .val (.int (1 : Int32)), .val (.ref b8), .val (.int v53), .unset, .unset, .unset]) (by subst hv53; rfl) ?_
      show Steps p.tables e below (Tg22.setTop (mkF m 55 #[.val (.long q0), .second, .val (.long q1), .second, .val (.long q2), .second, .val (.int p3), .val (.int p4), .val (.int (1 : Int32)), .val (.ref b8), .val (.int v53), .unset, .unset, .unset] [])) target
      refine XS.iload Xg22.here hx rfl (hb hby at_55) rfl ?_
      show Steps p.tables e below (Tg22.setTop (mkF m 57 #[.val (.long q0), .second, .val (.long q1), .second, .val (.long q2), .second, .val (.int p3), .val (.int p4), .val (.int (1 : Int32)), .val (.ref b8), .val (.int v53), .unset, .unset, .unset] [(.int (1 : Int32))])) target
      refine XS.ifYes Xg22.here hx rfl (pc0 := 57) (pc' := 64) rfl (hb hby at_57) rfl ((if0 _ _).trans (feq (by decide : ¬ ((1 : Int32) = (0 : Int32)))).2) (by decide) (by decide) ?_
      show Steps p.tables e below (Tg22.setTop (mkF m 64 #[.val (.long q0), .second, .val (.long q1), .second, .val (.long q2), .second, .val (.int p3), .val (.int p4), .val (.int (1 : Int32)), .val (.ref b8), .val (.int v53), .unset, .unset, .unset] [])) target
      refine XS.iload Xg22.here hx rfl (hb hby at_64) rfl ?_
      show Steps p.tables e below (Tg22.setTop (mkF m 66 #[.val (.long q0), .second, .val (.long q1), .second, .val (.long q2), .second, .val (.int p3), .val (.int p4), .val (.int (1 : Int32)), .val (.ref b8), .val (.int v53), .unset, .unset, .unset] [(.int (1 : Int32))])) target
      refine XS.iconst Xg22.here hx rfl (hb hby at_66) ?_
      show Steps p.tables e below (Tg22.setTop (mkF m 67 #[.val (.long q0), .second, .val (.long q1), .second, .val (.long q2), .second, .val (.int p3), .val (.int p4), .val (.int (1 : Int32)), .val (.ref b8), .val (.int v53), .unset, .unset, .unset] [(.int (1 : Int32)), (.int (1 : Int32))])) target
      refine XS.isub Xg22.here hx rfl (hb hby at_67) rfl ?_
      show Steps p.tables e below (Tg22.setTop (mkF m 68 #[.val (.long q0), .second, .val (.long q1), .second, .val (.long q2), .second, .val (.int p3), .val (.int p4), .val (.int (1 : Int32)), .val (.ref b8), .val (.int v53), .unset, .unset, .unset] [(.int (0 : Int32))])) target
      refine XS.i2l Xg22.here hx rfl (hb hby at_68) rfl ?_
      show Steps p.tables e below (Tg22.setTop (mkF m 69 #[.val (.long q0), .second, .val (.long q1), .second, .val (.long q2), .second, .val (.int p3), .val (.int p4), .val (.int (1 : Int32)), .val (.ref b8), .val (.int v53), .unset, .unset, .unset] [(.long (0 : Int64))])) target
      refine Xg22.ldc2Long hx hown (mvT hZ (hw _ (List.mem_of_getElem? (i := 1) rfl))) (g := (mkF m 69 #[.val (.long q0), .second, .val (.long q1), .second, .val (.long q2), .second, .val (.int p3), .val (.int p4), .val (.int (1 : Int32)), .val (.ref b8), .val (.int v53), .unset, .unset, .unset] [(.long (0 : Int64))])) rfl (hb hby at_69) _ ?_
      show Steps p.tables e below (Tg22.setTop (mkF m 72 #[.val (.long q0), .second, .val (.long q1), .second, .val (.long q2), .second, .val (.int p3), .val (.int p4), .val (.int (1 : Int32)), .val (.ref b8), .val (.int v53), .unset, .unset, .unset] [(.long (64 : Int64)), (.long (0 : Int64))])) target
      refine XS.lmul Xg22.here hx rfl (hb hby at_72) rfl ?_
      show Steps p.tables e below (Tg22.setTop (mkF m 73 #[.val (.long q0), .second, .val (.long q1), .second, .val (.long q2), .second, .val (.int p3), .val (.int p4), .val (.int (1 : Int32)), .val (.ref b8), .val (.int v53), .unset, .unset, .unset] [(.long (0 : Int64))])) target
      refine XS.iload Xg22.here hx rfl (hb hby at_73) rfl ?_
      show Steps p.tables e below (Tg22.setTop (mkF m 75 #[.val (.long q0), .second, .val (.long q1), .second, .val (.long q2), .second, .val (.int p3), .val (.int p4), .val (.int (1 : Int32)), .val (.ref b8), .val (.int v53), .unset, .unset, .unset] [(.int v53), (.long (0 : Int64))])) target
      refine XS.i2l Xg22.here hx rfl (hb hby at_75) rfl ?_
      show Steps p.tables e below (Tg22.setTop (mkF m 76 #[.val (.long q0), .second, .val (.long q1), .second, .val (.long q2), .second, .val (.int p3), .val (.int p4), .val (.int (1 : Int32)), .val (.ref b8), .val (.int v53), .unset, .unset, .unset] [(.long (v53.toInt64)), (.long (0 : Int64))])) target
      refine XS.ladd Xg22.here hx rfl (hb hby at_76) rfl ?_
      show Steps p.tables e below (Tg22.setTop (mkF m 77 #[.val (.long q0), .second, .val (.long q1), .second, .val (.long q2), .second, .val (.int p3), .val (.int p4), .val (.int (1 : Int32)), .val (.ref b8), .val (.int v53), .unset, .unset, .unset] [(.long ((0 : Int64) + (v53.toInt64)))])) target
      refine XS.lstore Xg22.here hx rfl (hb hby at_77) rfl (l' := #[.val (.long q0), .second, .val (.long q1), .second, .val (.long q2), .second, .val (.int p3), .val (.int p4), .val (.int (1 : Int32)), .val (.ref b8), .val (.int v53), .val (.long v77), .second, .unset]) (by subst hv77; rfl) ?_
      show Steps p.tables e below (Tg22.setTop (mkF m 79 #[.val (.long q0), .second, .val (.long q1), .second, .val (.long q2), .second, .val (.int p3), .val (.int p4), .val (.int (1 : Int32)), .val (.ref b8), .val (.int v53), .val (.long v77), .second, .unset] [])) target
      refine XS.aload Xg22.here hx rfl (hb hby at_79) rfl rfl ?_
      show Steps p.tables e below (Tg22.setTop (mkF m 81 #[.val (.long q0), .second, .val (.long q1), .second, .val (.long q2), .second, .val (.int p3), .val (.int p4), .val (.int (1 : Int32)), .val (.ref b8), .val (.int v53), .val (.long v77), .second, .unset] [(.ref b8)])) target
      refine XS.lload Xg22.here hx rfl (hb hby at_81) rfl ?_
      exact kt
    obtain ⟨_, _, ⟨Tg83, Lg83, kg83, ng83⟩, -, Xg83, ⟨Lcg83, hQg83, lg83, yg83, zg83⟩, stg83⟩ := Jvm.LawKit.callS Xg22 hx (y := (⟨"com/example/barnacle/barnacle/WordBytes", "clearPast", "([JJ)V"⟩ : MethodName)) hown (mvT hZ (hw _ (List.mem_of_getElem? (i := 2) rfl))) (mvT hZ (hw _ (List.mem_of_getElem? (i := 3) rfl))) (mvT hZ (hw _ (List.mem_of_getElem? (i := 4) rfl))) (mvT hZ (hw _ (List.mem_of_getElem? (i := 5) rfl))) (by decide) (backOf (W := 0) (own_rm1_n1 l Z a0 hw [] b8 v77 a22 hg22 n0 Zz_1 F_2 g_b8) hZ (hw _ (List.mem_of_getElem? (i := 5) rfl)) (hw _ (List.mem_of_getElem? (i := 4) rfl)) (by decide) (by decide)) (g := (mkF m 83 #[.val (.long q0), .second, .val (.long q1), .second, .val (.long q2), .second, .val (.int p3), .val (.int p4), .val (.int (1 : Int32)), .val (.ref b8), .val (.int v53), .val (.long v77), .second, .unset] [(.long v77), (.ref b8)])) rfl (by rw [hml]; rfl) (argsL := [(.ref b8), (.long v77)]) (rest := []) (lenOf own_pd1 rfl) rfl (by show 2 * 0 + _ ≤ _; exact Nat.le_of_eq rfl) (hb hby at_83) (fun _ _ => ⟨rfl, eg22, (by decide : 1 + 0 ≤ _), (by decide : 1 + 0 ≤ _)⟩)
    dsimp only [Pt.U, Pt.locs, Pt.cells, Pt.slots] at Xg83 lg83 yg83 zg83 stg83 hQg83
    subst lg83 yg83 zg83
    obtain ⟨rfl, Ng83q, Kg83, F_3⟩ := hQg83
    have Zz_2 : n0 ≤ Tg83.heap.size := Nat.le_trans Zz_1 Kg83.1
    obtain ⟨a83, ha83⟩ : ∃ z : Nat → Int64, z = (if ((v77 &&& (63 : Int64)).toInt32) = (0 : Int32) then a22 else (fun i => if i = 0 then ((a22 0) &&& ((-1 : Int64) <<< (((64 : Int32) - ((v77 &&& (63 : Int64)).toInt32)) &&& 0x3f).toInt64)) else a22 i)) := ⟨_, rfl⟩
    have F_4 : own_RayJ Z Tg83.heap b8 1 a83 := by subst ha83; exact F_3
    have Ng83 := Fr.app Ng22 Ng83q
    refine own_st (stg83) ?_
    refine own_st (B := Tg83.setTop (mkF m 88 #[.val (.long q0), .second, .val (.long q1), .second, .val (.long q2), .second, .val (.int p3), .val (.int p4), .val (.int (1 : Int32)), .val (.ref b8), .val (.int v53), .val (.long v77), .second, .unset] [(.ref b8)])) (fun target kt => ?_) ?_
    · show Steps p.tables e below (Tg83.setTop (mkF m 86 #[.val (.long q0), .second, .val (.long q1), .second, .val (.long q2), .second, .val (.int p3), .val (.int p4), .val (.int (1 : Int32)), .val (.ref b8), .val (.int v53), .val (.long v77), .second, .unset] [])) target
      refine XS.aload Xg83.here hx rfl (hb hby at_86) rfl rfl ?_
      exact kt
    obtain ⟨clg88, Arg88, Szg88, -⟩ := id F_4
    refine own_st (B := Tg83.setTop (mkF m 89 #[.val (.long q0), .second, .val (.long q1), .second, .val (.long q2), .second, .val (.int p3), .val (.int p4), .val (.int (1 : Int32)), .val (.ref b8), .val (.int v53), .val (.long v77), .second, .unset] [(.int (1 : Int32))])) (fun target kt => ?_) ?_
    · refine Xg83.arraylength hx (by first | exact Arg88.1 | (rw [rfl]; exact Arg88.1)) (State.isArrayOf_alike hZ.alike Arg88.2.1) (g := (mkF m 88 #[.val (.long q0), .second, .val (.long q1), .second, .val (.long q2), .second, .val (.int p3), .val (.int p4), .val (.int (1 : Int32)), .val (.ref b8), .val (.int v53), .val (.long v77), .second, .unset] [(.ref b8)])) rfl rfl (hb hby at_88) _ ?_
      rw [Szg88]
      exact kt
    refine own_st (B := Tg83.setTop (mkF m 113 #[.val (.long q0), .second, .val (.long q1), .second, .val (.long q2), .second, .val (.int p3), .val (.int p4), .val (.int (1 : Int32)), .val (.ref b8), .val (.int v53), .val (.long v77), .second, .val (.int (1 : Int32))] [(.int (0 : Int32)), (.ref b8)])) (fun target kt => ?_) ?_
    · show Steps p.tables e below (Tg83.setTop (mkF m 89 #[.val (.long q0), .second, .val (.long q1), .second, .val (.long q2), .second, .val (.int p3), .val (.int p4), .val (.int (1 : Int32)), .val (.ref b8), .val (.int v53), .val (.long v77), .second, .unset] [(.int (1 : Int32))])) target
      refine XS.iload Xg83.here hx rfl (hb hby at_89) rfl ?_
      show Steps p.tables e below (Tg83.setTop (mkF m 91 #[.val (.long q0), .second, .val (.long q1), .second, .val (.long q2), .second, .val (.int p3), .val (.int p4), .val (.int (1 : Int32)), .val (.ref b8), .val (.int v53), .val (.long v77), .second, .unset] [(.int (1 : Int32)), (.int (1 : Int32))])) target
      refine XS.icmpYes Xg83.here hx rfl (pc0 := 91) (pc' := 96) rfl (hb hby at_91) rfl (teq (by decide : (1 : Int32) = (1 : Int32))).1 (by decide) (by decide) ?_
      show Steps p.tables e below (Tg83.setTop (mkF m 96 #[.val (.long q0), .second, .val (.long q1), .second, .val (.long q2), .second, .val (.int p3), .val (.int p4), .val (.int (1 : Int32)), .val (.ref b8), .val (.int v53), .val (.long v77), .second, .unset] [])) target
      refine XS.iconst Xg83.here hx rfl (hb hby at_96) ?_
      show Steps p.tables e below (Tg83.setTop (mkF m 97 #[.val (.long q0), .second, .val (.long q1), .second, .val (.long q2), .second, .val (.int p3), .val (.int p4), .val (.int (1 : Int32)), .val (.ref b8), .val (.int v53), .val (.long v77), .second, .unset] [(.int (1 : Int32))])) target
      refine XS.istore Xg83.here hx rfl (hb hby at_97) rfl (l' := #[.val (.long q0), .second, .val (.long q1), .second, .val (.long q2), .second, .val (.int p3), .val (.int p4), .val (.int (1 : Int32)), .val (.ref b8), .val (.int v53), .val (.long v77), .second, .val (.int (1 : Int32))]) rfl ?_
      show Steps p.tables e below (Tg83.setTop (mkF m 99 #[.val (.long q0), .second, .val (.long q1), .second, .val (.long q2), .second, .val (.int p3), .val (.int p4), .val (.int (1 : Int32)), .val (.ref b8), .val (.int v53), .val (.long v77), .second, .val (.int (1 : Int32))] [])) target
      refine XS.iload Xg83.here hx rfl (hb hby at_99) rfl ?_
      show Steps p.tables e below (Tg83.setTop (mkF m 101 #[.val (.long q0), .second, .val (.long q1), .second, .val (.long q2), .second, .val (.int p3), .val (.int p4), .val (.int (1 : Int32)), .val (.ref b8), .val (.int v53), .val (.long v77), .second, .val (.int (1 : Int32))] [(.int (1 : Int32))])) target
      refine XS.iconst Xg83.here hx rfl (hb hby at_101) ?_
      show Steps p.tables e below (Tg83.setTop (mkF m 102 #[.val (.long q0), .second, .val (.long q1), .second, .val (.long q2), .second, .val (.int p3), .val (.int p4), .val (.int (1 : Int32)), .val (.ref b8), .val (.int v53), .val (.long v77), .second, .val (.int (1 : Int32))] [(.int (1 : Int32)), (.int (1 : Int32))])) target
      refine XS.icmpNo Xg83.here hx rfl (hb hby at_102) rfl (flt (by decide : ¬ ((1 : Int32) < (1 : Int32)))).1 ?_
      show Steps p.tables e below (Tg83.setTop (mkF m 105 #[.val (.long q0), .second, .val (.long q1), .second, .val (.long q2), .second, .val (.int p3), .val (.int p4), .val (.int (1 : Int32)), .val (.ref b8), .val (.int v53), .val (.long v77), .second, .val (.int (1 : Int32))] [])) target
      refine XS.iload Xg83.here hx rfl (hb hby at_105) rfl ?_
      show Steps p.tables e below (Tg83.setTop (mkF m 107 #[.val (.long q0), .second, .val (.long q1), .second, .val (.long q2), .second, .val (.int p3), .val (.int p4), .val (.int (1 : Int32)), .val (.ref b8), .val (.int v53), .val (.long v77), .second, .val (.int (1 : Int32))] [(.int (1 : Int32))])) target
      refine XS.ifNo Xg83.here hx rfl (hb hby at_107) rfl ((if0 _ _).trans (feq (by decide : ¬ ((1 : Int32) = (0 : Int32)))).1) ?_
      show Steps p.tables e below (Tg83.setTop (mkF m 110 #[.val (.long q0), .second, .val (.long q1), .second, .val (.long q2), .second, .val (.int p3), .val (.int p4), .val (.int (1 : Int32)), .val (.ref b8), .val (.int v53), .val (.long v77), .second, .val (.int (1 : Int32))] [])) target
      refine XS.aload Xg83.here hx rfl (hb hby at_110) rfl rfl ?_
      show Steps p.tables e below (Tg83.setTop (mkF m 112 #[.val (.long q0), .second, .val (.long q1), .second, .val (.long q2), .second, .val (.int p3), .val (.int p4), .val (.int (1 : Int32)), .val (.ref b8), .val (.int v53), .val (.long v77), .second, .val (.int (1 : Int32))] [(.ref b8)])) target
      refine XS.iconst Xg83.here hx rfl (hb hby at_112) ?_
      exact kt
    obtain ⟨clg113, Arg113, Szg113, Atg113⟩ := id F_4
    have hing113 : ¬ ((0 : Int32) < 0 ∨ clg113.slots.size ≤ ((0 : Int32)).toNatClampNeg) := own_inb Szg113 (by decide)
    have hatg113 : clg113.slots[((0 : Int32)).toNatClampNeg]? = some (.long (a83 ((0 : Int32)).toNatClampNeg)) := own_RayJ_nth Atg113 Szg113 hing113
    refine own_st (B := Tg83.setTop (mkF m 114 #[.val (.long q0), .second, .val (.long q1), .second, .val (.long q2), .second, .val (.int p3), .val (.int p4), .val (.int (1 : Int32)), .val (.ref b8), .val (.int v53), .val (.long v77), .second, .val (.int (1 : Int32))] [(.long (a83 0))])) (fun target kt => ?_) ?_
    · refine Xg83.laload hx (j := (0 : Int32)) (v := (.long (a83 ((0 : Int32)).toNatClampNeg))) (by first | exact Arg113.1 | (rw [rfl]; exact Arg113.1)) (State.isArrayOf_alike hZ.alike Arg113.2.1) Arg113.2.2 hing113 hatg113 (g := (mkF m 113 #[.val (.long q0), .second, .val (.long q1), .second, .val (.long q2), .second, .val (.int p3), .val (.int p4), .val (.int (1 : Int32)), .val (.ref b8), .val (.int v53), .val (.long v77), .second, .val (.int (1 : Int32))] [(.int (0 : Int32)), (.ref b8)])) rfl rfl (hb hby at_113) _ ?_
      exact kt
    refine own_st (B := Tg83.setTop (mkF m 120 #[.val (.long q0), .second, .val (.long q1), .second, .val (.long q2), .second, .val (.int p3), .val (.int p4), .val (.int (1 : Int32)), .val (.ref b8), .val (.int v53), .val (.long v77), .second, .val (.int (1 : Int32))] [(.int v53), (.int (1 : Int32)), (.int (0 : Int32)), (.long q0), (.long (a83 0))])) (fun target kt => ?_) ?_
    · show Steps p.tables e below (Tg83.setTop (mkF m 114 #[.val (.long q0), .second, .val (.long q1), .second, .val (.long q2), .second, .val (.int p3), .val (.int p4), .val (.int (1 : Int32)), .val (.ref b8), .val (.int v53), .val (.long v77), .second, .val (.int (1 : Int32))] [(.long (a83 0))])) target
      refine XS.lloadN Xg83.here hx rfl (hb hby at_114) rfl ?_
      show Steps p.tables e below (Tg83.setTop (mkF m 115 #[.val (.long q0), .second, .val (.long q1), .second, .val (.long q2), .second, .val (.int p3), .val (.int p4), .val (.int (1 : Int32)), .val (.ref b8), .val (.int v53), .val (.long v77), .second, .val (.int (1 : Int32))] [(.long q0), (.long (a83 0))])) target
      refine XS.iconst Xg83.here hx rfl (hb hby at_115) ?_
      show Steps p.tables e below (Tg83.setTop (mkF m 116 #[.val (.long q0), .second, .val (.long q1), .second, .val (.long q2), .second, .val (.int p3), .val (.int p4), .val (.int (1 : Int32)), .val (.ref b8), .val (.int v53), .val (.long v77), .second, .val (.int (1 : Int32))] [(.int (0 : Int32)), (.long q0), (.long (a83 0))])) target
      refine XS.iload Xg83.here hx rfl (hb hby at_116) rfl ?_
      show Steps p.tables e below (Tg83.setTop (mkF m 118 #[.val (.long q0), .second, .val (.long q1), .second, .val (.long q2), .second, .val (.int p3), .val (.int p4), .val (.int (1 : Int32)), .val (.ref b8), .val (.int v53), .val (.long v77), .second, .val (.int (1 : Int32))] [(.int (1 : Int32)), (.int (0 : Int32)), (.long q0), (.long (a83 0))])) target
      refine XS.iload Xg83.here hx rfl (hb hby at_118) rfl ?_
      exact kt
    obtain ⟨_, _, ⟨Tg120, Lg120, kg120, ng120⟩, -, Xg120, ⟨Lcg120, hQg120, lg120, yg120, zg120⟩, stg120⟩ := Jvm.LawKit.callS Xg83 hx (y := (⟨"com/example/barnacle/barnacle/WordBytesClearPastPinLaw", "expected", "(JIII)J"⟩ : MethodName)) hown (mvT hZ (hw _ (List.mem_of_getElem? (i := 8) rfl))) (mvT hZ (hw _ (List.mem_of_getElem? (i := 9) rfl))) (mvT hZ (hw _ (List.mem_of_getElem? (i := 10) rfl))) (mvT hZ (hw _ (List.mem_of_getElem? (i := 11) rfl))) (by decide) (backOf (W := 2) (own_rm2 l Z a0 hw [] q0 (0 : Int32) (1 : Int32) v53 Tg83.heap n0 Zz_2) hZ (hw _ (List.mem_of_getElem? (i := 11) rfl)) (hw _ (List.mem_of_getElem? (i := 10) rfl)) (by decide) (by decide)) (g := (mkF m 120 #[.val (.long q0), .second, .val (.long q1), .second, .val (.long q2), .second, .val (.int p3), .val (.int p4), .val (.int (1 : Int32)), .val (.ref b8), .val (.int v53), .val (.long v77), .second, .val (.int (1 : Int32))] [(.int v53), (.int (1 : Int32)), (.int (0 : Int32)), (.long q0), (.long (a83 0))])) rfl (by rw [hml]; rfl) (argsL := [(.long q0), (.int (0 : Int32)), (.int (1 : Int32)), (.int v53)]) (rest := [(.long (a83 0))]) (lenOf own_pd2 rfl) rfl (by show 2 * 0 + _ ≤ _; exact Nat.le_of_eq rfl) (hb hby at_120) (fun _ _ => ⟨rfl, rfl, (by decide : 1 + 0 ≤ _), (by decide : 1 + 0 ≤ _)⟩)
    dsimp only [Pt.U, Pt.locs, Pt.cells, Pt.slots] at Xg120 lg120 yg120 zg120 stg120 hQg120
    subst lg120 yg120 zg120
    obtain ⟨rfl, Ng120q, eg120⟩ := hQg120
    have Ng120 := Fr.app Ng83 Ng120q
    refine own_st (stg120) ?_
    refine own_st (B := Tg120.setTop (mkF m 124 #[.val (.long q0), .second, .val (.long q1), .second, .val (.long q2), .second, .val (.int p3), .val (.int p4), .val (.int (1 : Int32)), .val (.ref b8), .val (.int v53), .val (.long v77), .second, .val (.int (1 : Int32))] [(.int (lcmpW (a83 0) (if (0 : Int32) < ((1 : Int32) - (1 : Int32)) then q0 else (if v53 < (64 : Int32) then (((q0.toUInt64 >>> ((((64 : Int32) - v53)) &&& 0x3f).toInt64.toUInt64).toInt64) <<< ((((64 : Int32) - v53)) &&& 0x3f).toInt64) else q0))))])) (fun target kt => ?_) ?_
    · show Steps p.tables e below (Tg120.setTop (mkF m 123 #[.val (.long q0), .second, .val (.long q1), .second, .val (.long q2), .second, .val (.int p3), .val (.int p4), .val (.int (1 : Int32)), .val (.ref b8), .val (.int v53), .val (.long v77), .second, .val (.int (1 : Int32))] [(.long (if (0 : Int32) < ((1 : Int32) - (1 : Int32)) then q0 else (if v53 < (64 : Int32) then (((q0.toUInt64 >>> ((((64 : Int32) - v53)) &&& 0x3f).toInt64.toUInt64).toInt64) <<< ((((64 : Int32) - v53)) &&& 0x3f).toInt64) else q0))), (.long (a83 0))])) target
      refine XS.lcmp Xg120.here hx rfl (hb hby at_123) rfl ?_
      exact kt
    have c124 : (a83 0) = (if (0 : Int32) < ((1 : Int32) - (1 : Int32)) then q0 else (if v53 < (64 : Int32) then (((q0.toUInt64 >>> ((((64 : Int32) - v53)) &&& 0x3f).toInt64.toUInt64).toInt64) <<< ((((64 : Int32) - v53)) &&& 0x3f).toInt64) else q0)) := by
      rw [if_neg (by decide), ← own_last q0 p4 v53 (0 : Int64) v77 (by decide) hv53 hv77, ha83]
      by_cases hC : ((v77 &&& (63 : Int64)).toInt32) = (0 : Int32)
      · rw [if_pos hC, if_pos hC]; simp [ha22]
      · rw [if_neg hC, if_neg hC]; simp [ha22]
    refine own_st (B := Tg120.setTop (mkF m 207 #[.val (.long q0), .second, .val (.long q1), .second, .val (.long q2), .second, .val (.int p3), .val (.int p4), .val (.int (1 : Int32)), .val (.ref b8), .val (.int v53), .val (.long v77), .second, .val (.int (1 : Int32))] [(.int (1 : Int32))])) (fun target kt => ?_) ?_
    · show Steps p.tables e below (Tg120.setTop (mkF m 124 #[.val (.long q0), .second, .val (.long q1), .second, .val (.long q2), .second, .val (.int p3), .val (.int p4), .val (.int (1 : Int32)), .val (.ref b8), .val (.int v53), .val (.long v77), .second, .val (.int (1 : Int32))] [(.int (lcmpW (a83 0) (if (0 : Int32) < ((1 : Int32) - (1 : Int32)) then q0 else (if v53 < (64 : Int32) then (((q0.toUInt64 >>> ((((64 : Int32) - v53)) &&& 0x3f).toInt64.toUInt64).toInt64) <<< ((((64 : Int32) - v53)) &&& 0x3f).toInt64) else q0))))])) target
      refine XS.ifNo Xg120.here hx rfl (hb hby at_124) rfl ((if0 _ _).trans (teq ((lw_eq (a83 0) (if (0 : Int32) < ((1 : Int32) - (1 : Int32)) then q0 else (if v53 < (64 : Int32) then (((q0.toUInt64 >>> ((((64 : Int32) - v53)) &&& 0x3f).toInt64.toUInt64).toInt64) <<< ((((64 : Int32) - v53)) &&& 0x3f).toInt64) else q0))).mpr c124)).2) ?_
      show Steps p.tables e below (Tg120.setTop (mkF m 127 #[.val (.long q0), .second, .val (.long q1), .second, .val (.long q2), .second, .val (.int p3), .val (.int p4), .val (.int (1 : Int32)), .val (.ref b8), .val (.int v53), .val (.long v77), .second, .val (.int (1 : Int32))] [])) target
      refine XS.iconst Xg120.here hx rfl (hb hby at_127) ?_
      show Steps p.tables e below (Tg120.setTop (mkF m 128 #[.val (.long q0), .second, .val (.long q1), .second, .val (.long q2), .second, .val (.int p3), .val (.int p4), .val (.int (1 : Int32)), .val (.ref b8), .val (.int v53), .val (.long v77), .second, .val (.int (1 : Int32))] [(.int (1 : Int32))])) target
      refine XS.goto Xg120.here hx rfl (pc0 := 128) (pc' := 132) rfl (hb hby at_128) (by decide) (by decide) ?_
      show Steps p.tables e below (Tg120.setTop (mkF m 132 #[.val (.long q0), .second, .val (.long q1), .second, .val (.long q2), .second, .val (.int p3), .val (.int p4), .val (.int (1 : Int32)), .val (.ref b8), .val (.int v53), .val (.long v77), .second, .val (.int (1 : Int32))] [(.int (1 : Int32))])) target
      refine XS.istore Xg120.here hx rfl (hb hby at_132) rfl (l' := #[.val (.long q0), .second, .val (.long q1), .second, .val (.long q2), .second, .val (.int p3), .val (.int p4), .val (.int (1 : Int32)), .val (.ref b8), .val (.int v53), .val (.long v77), .second, .val (.int (1 : Int32))]) rfl ?_
      show Steps p.tables e below (Tg120.setTop (mkF m 134 #[.val (.long q0), .second, .val (.long q1), .second, .val (.long q2), .second, .val (.int p3), .val (.int p4), .val (.int (1 : Int32)), .val (.ref b8), .val (.int v53), .val (.long v77), .second, .val (.int (1 : Int32))] [])) target
      refine XS.iload Xg120.here hx rfl (hb hby at_134) rfl ?_
      show Steps p.tables e below (Tg120.setTop (mkF m 136 #[.val (.long q0), .second, .val (.long q1), .second, .val (.long q2), .second, .val (.int p3), .val (.int p4), .val (.int (1 : Int32)), .val (.ref b8), .val (.int v53), .val (.long v77), .second, .val (.int (1 : Int32))] [(.int (1 : Int32))])) target
      refine XS.iconst Xg120.here hx rfl (hb hby at_136) ?_
      show Steps p.tables e below (Tg120.setTop (mkF m 137 #[.val (.long q0), .second, .val (.long q1), .second, .val (.long q2), .second, .val (.int p3), .val (.int p4), .val (.int (1 : Int32)), .val (.ref b8), .val (.int v53), .val (.long v77), .second, .val (.int (1 : Int32))] [(.int (2 : Int32)), (.int (1 : Int32))])) target
      refine XS.icmpYes Xg120.here hx rfl (pc0 := 137) (pc' := 169) rfl (hb hby at_137) rfl (tlt (by decide : (1 : Int32) < (2 : Int32))).1 (by decide) (by decide) ?_
      show Steps p.tables e below (Tg120.setTop (mkF m 169 #[.val (.long q0), .second, .val (.long q1), .second, .val (.long q2), .second, .val (.int p3), .val (.int p4), .val (.int (1 : Int32)), .val (.ref b8), .val (.int v53), .val (.long v77), .second, .val (.int (1 : Int32))] [])) target
      refine XS.iload Xg120.here hx rfl (hb hby at_169) rfl ?_
      show Steps p.tables e below (Tg120.setTop (mkF m 171 #[.val (.long q0), .second, .val (.long q1), .second, .val (.long q2), .second, .val (.int p3), .val (.int p4), .val (.int (1 : Int32)), .val (.ref b8), .val (.int v53), .val (.long v77), .second, .val (.int (1 : Int32))] [(.int (1 : Int32))])) target
      refine XS.iconst Xg120.here hx rfl (hb hby at_171) ?_
      show Steps p.tables e below (Tg120.setTop (mkF m 172 #[.val (.long q0), .second, .val (.long q1), .second, .val (.long q2), .second, .val (.int p3), .val (.int p4), .val (.int (1 : Int32)), .val (.ref b8), .val (.int v53), .val (.long v77), .second, .val (.int (1 : Int32))] [(.int (3 : Int32)), (.int (1 : Int32))])) target
      refine XS.icmpYes Xg120.here hx rfl (pc0 := 172) (pc' := 205) rfl (hb hby at_172) rfl (tlt (by decide : (1 : Int32) < (3 : Int32))).1 (by decide) (by decide) ?_
      show Steps p.tables e below (Tg120.setTop (mkF m 205 #[.val (.long q0), .second, .val (.long q1), .second, .val (.long q2), .second, .val (.int p3), .val (.int p4), .val (.int (1 : Int32)), .val (.ref b8), .val (.int v53), .val (.long v77), .second, .val (.int (1 : Int32))] [])) target
      refine XS.iload Xg120.here hx rfl (hb hby at_205) rfl ?_
      exact kt
    obtain ⟨fs, hr, hrun, hended, hW, hsame⟩ := Xg120.leave (v := some (.int (1 : Int32))) (fun h => by rw [Bd.returns] at h; cases h)
    have hend : Steps p.tables e below (Tg120.setTop (mkF m 207 #[.val (.long q0), .second, .val (.long q1), .second, .val (.long q2), .second, .val (.int p3), .val (.int p4), .val (.int (1 : Int32)), .val (.ref b8), .val (.int v53), .val (.long v77), .second, .val (.int (1 : Int32))] [(.int (1 : Int32))])) (Tg120.setFrames fs) := by
      exact retN Xg120 hx (t := .boolean) Bd.returns (by simp) (hb hby at_207) hr
    refine own_fin hend ⟨_, hrun, hended, _, _, rfl, ?_, ⟨_, rfl⟩, hW, hsame.mono (by decide) (by decide)⟩
    show own_Q0 Z q0 q1 q2 p3 p4 h0 n0 _ Tg120.heap _
    rw [eg120]
    exact ⟨rfl, Ng120⟩
  · subst hs6
    refine own_st (B := s₁.setTop (mkF m 8 #[.val (.long q0), .second, .val (.long q1), .second, .val (.long q2), .second, .val (.int p3), .val (.int p4), .val (.int (2 : Int32)), .unset, .unset, .unset, .unset, .unset] [(.int (2 : Int32))])) (fun target kt => ?_) ?_
    · show Steps p.tables e below (s₁.setTop (mkF m 6 #[.val (.long q0), .second, .val (.long q1), .second, .val (.long q2), .second, .val (.int p3), .val (.int p4), .val (.int (2 : Int32)), .unset, .unset, .unset, .unset, .unset] [])) target
      refine XS.iload X0.here hx rfl (hb hby at_6) rfl ?_
      exact kt
    obtain ⟨Tg8, hg8, kg8, Xg8, eg8, Eg8, Ag8, stg8⟩ := newP X0 hx hZ (hw _ (List.mem_of_getElem? (i := 0) rfl)) e0 (g := (mkF m 8 #[.val (.long q0), .second, .val (.long q1), .second, .val (.long q2), .second, .val (.int p3), .val (.int p4), .val (.int (2 : Int32)), .unset, .unset, .unset, .unset, .unset] [(.int (2 : Int32))])) rfl (hb hby at_8) rfl (by decide) (cap := 2) (by decide) (by decide) (by decide) (by decide)
    obtain ⟨b8, gg8⟩ : ∃ z, z = h0.size := ⟨_, rfl⟩
    rw [← gg8] at Ag8 stg8
    refine own_st stg8 ?_
    have g_b8 : n0 ≤ b8 := Nat.le_trans Z0 (Nat.le_of_eq gg8.symm)
    have Zz : n0 ≤ hg8.size := Nat.le_trans Z0 Eg8.1
    have F : own_RayJ Z hg8 b8 2 (fun _ => (0 : Int64)) := own_RayJ_new Ag8 (by decide) (by decide)
    refine own_st (B := Tg8.setTop (mkF m 22 #[.val (.long q0), .second, .val (.long q1), .second, .val (.long q2), .second, .val (.int p3), .val (.int p4), .val (.int (2 : Int32)), .val (.ref b8), .unset, .unset, .unset, .unset] [(.long q0), (.int (0 : Int32)), (.ref b8)])) (fun target kt => ?_) ?_
    · show Steps p.tables e below (Tg8.setTop (mkF m 10 #[.val (.long q0), .second, .val (.long q1), .second, .val (.long q2), .second, .val (.int p3), .val (.int p4), .val (.int (2 : Int32)), .unset, .unset, .unset, .unset, .unset] [(.ref b8)])) target
      refine XS.astore Xg8.here hx rfl (hb hby at_10) rfl rfl (l' := #[.val (.long q0), .second, .val (.long q1), .second, .val (.long q2), .second, .val (.int p3), .val (.int p4), .val (.int (2 : Int32)), .val (.ref b8), .unset, .unset, .unset, .unset]) rfl ?_
      show Steps p.tables e below (Tg8.setTop (mkF m 12 #[.val (.long q0), .second, .val (.long q1), .second, .val (.long q2), .second, .val (.int p3), .val (.int p4), .val (.int (2 : Int32)), .val (.ref b8), .unset, .unset, .unset, .unset] [])) target
      refine XS.iload Xg8.here hx rfl (hb hby at_12) rfl ?_
      show Steps p.tables e below (Tg8.setTop (mkF m 14 #[.val (.long q0), .second, .val (.long q1), .second, .val (.long q2), .second, .val (.int p3), .val (.int p4), .val (.int (2 : Int32)), .val (.ref b8), .unset, .unset, .unset, .unset] [(.int (2 : Int32))])) target
      refine XS.iconst Xg8.here hx rfl (hb hby at_14) ?_
      show Steps p.tables e below (Tg8.setTop (mkF m 15 #[.val (.long q0), .second, .val (.long q1), .second, .val (.long q2), .second, .val (.int p3), .val (.int p4), .val (.int (2 : Int32)), .val (.ref b8), .unset, .unset, .unset, .unset] [(.int (1 : Int32)), (.int (2 : Int32))])) target
      refine XS.icmpNo Xg8.here hx rfl (hb hby at_15) rfl (flt (by decide : ¬ ((2 : Int32) < (1 : Int32)))).1 ?_
      show Steps p.tables e below (Tg8.setTop (mkF m 18 #[.val (.long q0), .second, .val (.long q1), .second, .val (.long q2), .second, .val (.int p3), .val (.int p4), .val (.int (2 : Int32)), .val (.ref b8), .unset, .unset, .unset, .unset] [])) target
      refine XS.aload Xg8.here hx rfl (hb hby at_18) rfl rfl ?_
      show Steps p.tables e below (Tg8.setTop (mkF m 20 #[.val (.long q0), .second, .val (.long q1), .second, .val (.long q2), .second, .val (.int p3), .val (.int p4), .val (.int (2 : Int32)), .val (.ref b8), .unset, .unset, .unset, .unset] [(.ref b8)])) target
      refine XS.iconst Xg8.here hx rfl (hb hby at_20) ?_
      show Steps p.tables e below (Tg8.setTop (mkF m 21 #[.val (.long q0), .second, .val (.long q1), .second, .val (.long q2), .second, .val (.int p3), .val (.int p4), .val (.int (2 : Int32)), .val (.ref b8), .unset, .unset, .unset, .unset] [(.int (0 : Int32)), (.ref b8)])) target
      refine XS.lloadN Xg8.here hx rfl (hb hby at_21) rfl ?_
      exact kt
    obtain ⟨clg22, Arg22, Szg22, -⟩ := id F
    have hing22 : ¬ ((0 : Int32) < 0 ∨ clg22.slots.size ≤ ((0 : Int32)).toNatClampNeg) := own_inb Szg22 (by decide)
    obtain ⟨Tg22, hg22, Xg22, eg22, Wg22, stg22⟩ := stJ Xg8 hx hZ eg8 Arg22 (j := (0 : Int32)) hing22 (g := (mkF m 22 #[.val (.long q0), .second, .val (.long q1), .second, .val (.long q2), .second, .val (.int p3), .val (.int p4), .val (.int (2 : Int32)), .val (.ref b8), .unset, .unset, .unset, .unset] [(.long q0), (.int (0 : Int32)), (.ref b8)])) rfl rfl (hb hby at_22)
    refine own_st stg22 ?_
    have Ng22 := Fr.snoc Xg22 N0 g_b8
    obtain ⟨a22, ha22⟩ : ∃ gz : Nat → Int64, gz = fun i => if i = 0 then q0 else (fun _ => (0 : Int64)) i := ⟨_, rfl⟩
    have Zz_1 : n0 ≤ hg22.size := Nat.le_trans Zz (Keep.of_wr Wg22).1
    have F_2 : own_RayJ Z hg22 b8 2 a22 := by rw [ha22]; exact own_RayJ_set F Wg22 (by decide)
    refine own_st (B := Tg22.setTop (mkF m 33 #[.val (.long q0), .second, .val (.long q1), .second, .val (.long q2), .second, .val (.int p3), .val (.int p4), .val (.int (2 : Int32)), .val (.ref b8), .unset, .unset, .unset, .unset] [(.long q1), (.int (1 : Int32)), (.ref b8)])) (fun target kt => ?_) ?_
    · show Steps p.tables e below (Tg22.setTop (mkF m 23 #[.val (.long q0), .second, .val (.long q1), .second, .val (.long q2), .second, .val (.int p3), .val (.int p4), .val (.int (2 : Int32)), .val (.ref b8), .unset, .unset, .unset, .unset] [])) target
      refine XS.iload Xg22.here hx rfl (hb hby at_23) rfl ?_
      show Steps p.tables e below (Tg22.setTop (mkF m 25 #[.val (.long q0), .second, .val (.long q1), .second, .val (.long q2), .second, .val (.int p3), .val (.int p4), .val (.int (2 : Int32)), .val (.ref b8), .unset, .unset, .unset, .unset] [(.int (2 : Int32))])) target
      refine XS.iconst Xg22.here hx rfl (hb hby at_25) ?_
      show Steps p.tables e below (Tg22.setTop (mkF m 26 #[.val (.long q0), .second, .val (.long q1), .second, .val (.long q2), .second, .val (.int p3), .val (.int p4), .val (.int (2 : Int32)), .val (.ref b8), .unset, .unset, .unset, .unset] [(.int (2 : Int32)), (.int (2 : Int32))])) target
      refine XS.icmpNo Xg22.here hx rfl (hb hby at_26) rfl (flt (by decide : ¬ ((2 : Int32) < (2 : Int32)))).1 ?_
      show Steps p.tables e below (Tg22.setTop (mkF m 29 #[.val (.long q0), .second, .val (.long q1), .second, .val (.long q2), .second, .val (.int p3), .val (.int p4), .val (.int (2 : Int32)), .val (.ref b8), .unset, .unset, .unset, .unset] [])) target
      refine XS.aload Xg22.here hx rfl (hb hby at_29) rfl rfl ?_
      show Steps p.tables e below (Tg22.setTop (mkF m 31 #[.val (.long q0), .second, .val (.long q1), .second, .val (.long q2), .second, .val (.int p3), .val (.int p4), .val (.int (2 : Int32)), .val (.ref b8), .unset, .unset, .unset, .unset] [(.ref b8)])) target
      refine XS.iconst Xg22.here hx rfl (hb hby at_31) ?_
      show Steps p.tables e below (Tg22.setTop (mkF m 32 #[.val (.long q0), .second, .val (.long q1), .second, .val (.long q2), .second, .val (.int p3), .val (.int p4), .val (.int (2 : Int32)), .val (.ref b8), .unset, .unset, .unset, .unset] [(.int (1 : Int32)), (.ref b8)])) target
      refine XS.lloadN Xg22.here hx rfl (hb hby at_32) rfl ?_
      exact kt
    obtain ⟨clg33, Arg33, Szg33, -⟩ := id F_2
    have hing33 : ¬ ((1 : Int32) < 0 ∨ clg33.slots.size ≤ ((1 : Int32)).toNatClampNeg) := own_inb Szg33 (by decide)
    obtain ⟨Tg33, hg33, Xg33, eg33, Wg33, stg33⟩ := stJ Xg22 hx hZ eg22 Arg33 (j := (1 : Int32)) hing33 (g := (mkF m 33 #[.val (.long q0), .second, .val (.long q1), .second, .val (.long q2), .second, .val (.int p3), .val (.int p4), .val (.int (2 : Int32)), .val (.ref b8), .unset, .unset, .unset, .unset] [(.long q1), (.int (1 : Int32)), (.ref b8)])) rfl rfl (hb hby at_33)
    refine own_st stg33 ?_
    have Ng33 := Fr.snoc Xg33 Ng22 g_b8
    obtain ⟨a33, ha33⟩ : ∃ gz : Nat → Int64, gz = fun i => if i = 1 then q1 else a22 i := ⟨_, rfl⟩
    have Zz_2 : n0 ≤ hg33.size := Nat.le_trans Zz_1 (Keep.of_wr Wg33).1
    have F_4 : own_RayJ Z hg33 b8 2 a33 := by rw [ha33]; exact own_RayJ_set F_2 Wg33 (by decide)
    obtain ⟨v53, hv53⟩ : ∃ z : Int32, z = ((1 : Int32) + (p4 &&& (63 : Int32))) := ⟨_, rfl⟩
    obtain ⟨v77, hv77⟩ : ∃ z : Int64, z = ((64 : Int64) + (v53.toInt64)) := ⟨_, rfl⟩
    refine own_st (B := Tg33.setTop (mkF m 83 #[.val (.long q0), .second, .val (.long q1), .second, .val (.long q2), .second, .val (.int p3), .val (.int p4), .val (.int (2 : Int32)), .val (.ref b8), .val (.int v53), .val (.long v77), .second, .unset] [(.long v77), (.ref b8)])) (fun target kt => ?_) ?_
    · show Steps p.tables e below (Tg33.setTop (mkF m 34 #[.val (.long q0), .second, .val (.long q1), .second, .val (.long q2), .second, .val (.int p3), .val (.int p4), .val (.int (2 : Int32)), .val (.ref b8), .unset, .unset, .unset, .unset] [])) target
      refine XS.iload Xg33.here hx rfl (hb hby at_34) rfl ?_
      show Steps p.tables e below (Tg33.setTop (mkF m 36 #[.val (.long q0), .second, .val (.long q1), .second, .val (.long q2), .second, .val (.int p3), .val (.int p4), .val (.int (2 : Int32)), .val (.ref b8), .unset, .unset, .unset, .unset] [(.int (2 : Int32))])) target
      refine XS.iconst Xg33.here hx rfl (hb hby at_36) ?_
      show Steps p.tables e below (Tg33.setTop (mkF m 37 #[.val (.long q0), .second, .val (.long q1), .second, .val (.long q2), .second, .val (.int p3), .val (.int p4), .val (.int (2 : Int32)), .val (.ref b8), .unset, .unset, .unset, .unset] [(.int (3 : Int32)), (.int (2 : Int32))])) target
      refine XS.icmpYes Xg33.here hx rfl (pc0 := 37) (pc' := 46) rfl (hb hby at_37) rfl (tlt (by decide : (2 : Int32) < (3 : Int32))).1 (by decide) (by decide) ?_
      show Steps p.tables e below (Tg33.setTop (mkF m 46 #[.val (.long q0), .second, .val (.long q1), .second, .val (.long q2), .second, .val (.int p3), .val (.int p4), .val (.int (2 : Int32)), .val (.ref b8), .unset, .unset, .unset, .unset] [])) target
      refine XS.iconst Xg33.here hx rfl (hb hby at_46) ?_
      show Steps p.tables e below (Tg33.setTop (mkF m 47 #[.val (.long q0), .second, .val (.long q1), .second, .val (.long q2), .second, .val (.int p3), .val (.int p4), .val (.int (2 : Int32)), .val (.ref b8), .unset, .unset, .unset, .unset] [(.int (1 : Int32))])) target
      refine XS.iload Xg33.here hx rfl (hb hby at_47) rfl ?_
      show Steps p.tables e below (Tg33.setTop (mkF m 49 #[.val (.long q0), .second, .val (.long q1), .second, .val (.long q2), .second, .val (.int p3), .val (.int p4), .val (.int (2 : Int32)), .val (.ref b8), .unset, .unset, .unset, .unset] [(.int p4), (.int (1 : Int32))])) target
      refine XS.bipush Xg33.here hx rfl (hb hby at_49) ?_
      show Steps p.tables e below (Tg33.setTop (mkF m 51 #[.val (.long q0), .second, .val (.long q1), .second, .val (.long q2), .second, .val (.int p3), .val (.int p4), .val (.int (2 : Int32)), .val (.ref b8), .unset, .unset, .unset, .unset] [(.int (63 : Int32)), (.int p4), (.int (1 : Int32))])) target
      refine XS.iand Xg33.here hx rfl (hb hby at_51) rfl ?_
      show Steps p.tables e below (Tg33.setTop (mkF m 52 #[.val (.long q0), .second, .val (.long q1), .second, .val (.long q2), .second, .val (.int p3), .val (.int p4), .val (.int (2 : Int32)), .val (.ref b8), .unset, .unset, .unset, .unset] [(.int (p4 &&& (63 : Int32))), (.int (1 : Int32))])) target
      refine XS.iadd Xg33.here hx rfl (hb hby at_52) rfl ?_
      show Steps p.tables e below (Tg33.setTop (mkF m 53 #[.val (.long q0), .second, .val (.long q1), .second, .val (.long q2), .second, .val (.int p3), .val (.int p4), .val (.int (2 : Int32)), .val (.ref b8), .unset, .unset, .unset, .unset] [(.int ((1 : Int32) + (p4 &&& (63 : Int32))))])) target
      refine XS.istore Xg33.here hx rfl (hb hby at_53) rfl (l' := #[.val (.long q0), .second, .val (.long q1), .second, .val (.long q2), .second, .val (.int p3), .val (.int p4), .val (.int (2 : Int32)), .val (.ref b8), .val (.int v53), .unset, .unset, .unset]) (by subst hv53; rfl) ?_
      show Steps p.tables e below (Tg33.setTop (mkF m 55 #[.val (.long q0), .second, .val (.long q1), .second, .val (.long q2), .second, .val (.int p3), .val (.int p4), .val (.int (2 : Int32)), .val (.ref b8), .val (.int v53), .unset, .unset, .unset] [])) target
      refine XS.iload Xg33.here hx rfl (hb hby at_55) rfl ?_
      show Steps p.tables e below (Tg33.setTop (mkF m 57 #[.val (.long q0), .second, .val (.long q1), .second, .val (.long q2), .second, .val (.int p3), .val (.int p4), .val (.int (2 : Int32)), .val (.ref b8), .val (.int v53), .unset, .unset, .unset] [(.int (2 : Int32))])) target
      refine XS.ifYes Xg33.here hx rfl (pc0 := 57) (pc' := 64) rfl (hb hby at_57) rfl ((if0 _ _).trans (feq (by decide : ¬ ((2 : Int32) = (0 : Int32)))).2) (by decide) (by decide) ?_
      show Steps p.tables e below (Tg33.setTop (mkF m 64 #[.val (.long q0), .second, .val (.long q1), .second, .val (.long q2), .second, .val (.int p3), .val (.int p4), .val (.int (2 : Int32)), .val (.ref b8), .val (.int v53), .unset, .unset, .unset] [])) target
      refine XS.iload Xg33.here hx rfl (hb hby at_64) rfl ?_
      show Steps p.tables e below (Tg33.setTop (mkF m 66 #[.val (.long q0), .second, .val (.long q1), .second, .val (.long q2), .second, .val (.int p3), .val (.int p4), .val (.int (2 : Int32)), .val (.ref b8), .val (.int v53), .unset, .unset, .unset] [(.int (2 : Int32))])) target
      refine XS.iconst Xg33.here hx rfl (hb hby at_66) ?_
      show Steps p.tables e below (Tg33.setTop (mkF m 67 #[.val (.long q0), .second, .val (.long q1), .second, .val (.long q2), .second, .val (.int p3), .val (.int p4), .val (.int (2 : Int32)), .val (.ref b8), .val (.int v53), .unset, .unset, .unset] [(.int (1 : Int32)), (.int (2 : Int32))])) target
      refine XS.isub Xg33.here hx rfl (hb hby at_67) rfl ?_
      show Steps p.tables e below (Tg33.setTop (mkF m 68 #[.val (.long q0), .second, .val (.long q1), .second, .val (.long q2), .second, .val (.int p3), .val (.int p4), .val (.int (2 : Int32)), .val (.ref b8), .val (.int v53), .unset, .unset, .unset] [(.int (1 : Int32))])) target
      refine XS.i2l Xg33.here hx rfl (hb hby at_68) rfl ?_
      show Steps p.tables e below (Tg33.setTop (mkF m 69 #[.val (.long q0), .second, .val (.long q1), .second, .val (.long q2), .second, .val (.int p3), .val (.int p4), .val (.int (2 : Int32)), .val (.ref b8), .val (.int v53), .unset, .unset, .unset] [(.long (1 : Int64))])) target
      refine Xg33.ldc2Long hx hown (mvT hZ (hw _ (List.mem_of_getElem? (i := 1) rfl))) (g := (mkF m 69 #[.val (.long q0), .second, .val (.long q1), .second, .val (.long q2), .second, .val (.int p3), .val (.int p4), .val (.int (2 : Int32)), .val (.ref b8), .val (.int v53), .unset, .unset, .unset] [(.long (1 : Int64))])) rfl (hb hby at_69) _ ?_
      show Steps p.tables e below (Tg33.setTop (mkF m 72 #[.val (.long q0), .second, .val (.long q1), .second, .val (.long q2), .second, .val (.int p3), .val (.int p4), .val (.int (2 : Int32)), .val (.ref b8), .val (.int v53), .unset, .unset, .unset] [(.long (64 : Int64)), (.long (1 : Int64))])) target
      refine XS.lmul Xg33.here hx rfl (hb hby at_72) rfl ?_
      show Steps p.tables e below (Tg33.setTop (mkF m 73 #[.val (.long q0), .second, .val (.long q1), .second, .val (.long q2), .second, .val (.int p3), .val (.int p4), .val (.int (2 : Int32)), .val (.ref b8), .val (.int v53), .unset, .unset, .unset] [(.long (64 : Int64))])) target
      refine XS.iload Xg33.here hx rfl (hb hby at_73) rfl ?_
      show Steps p.tables e below (Tg33.setTop (mkF m 75 #[.val (.long q0), .second, .val (.long q1), .second, .val (.long q2), .second, .val (.int p3), .val (.int p4), .val (.int (2 : Int32)), .val (.ref b8), .val (.int v53), .unset, .unset, .unset] [(.int v53), (.long (64 : Int64))])) target
      refine XS.i2l Xg33.here hx rfl (hb hby at_75) rfl ?_
      show Steps p.tables e below (Tg33.setTop (mkF m 76 #[.val (.long q0), .second, .val (.long q1), .second, .val (.long q2), .second, .val (.int p3), .val (.int p4), .val (.int (2 : Int32)), .val (.ref b8), .val (.int v53), .unset, .unset, .unset] [(.long (v53.toInt64)), (.long (64 : Int64))])) target
      refine XS.ladd Xg33.here hx rfl (hb hby at_76) rfl ?_
      show Steps p.tables e below (Tg33.setTop (mkF m 77 #[.val (.long q0), .second, .val (.long q1), .second, .val (.long q2), .second, .val (.int p3), .val (.int p4), .val (.int (2 : Int32)), .val (.ref b8), .val (.int v53), .unset, .unset, .unset] [(.long ((64 : Int64) + (v53.toInt64)))])) target
      refine XS.lstore Xg33.here hx rfl (hb hby at_77) rfl (l' := #[.val (.long q0), .second, .val (.long q1), .second, .val (.long q2), .second, .val (.int p3), .val (.int p4), .val (.int (2 : Int32)), .val (.ref b8), .val (.int v53), .val (.long v77), .second, .unset]) (by subst hv77; rfl) ?_
      show Steps p.tables e below (Tg33.setTop (mkF m 79 #[.val (.long q0), .second, .val (.long q1), .second, .val (.long q2), .second, .val (.int p3), .val (.int p4), .val (.int (2 : Int32)), .val (.ref b8), .val (.int v53), .val (.long v77), .second, .unset] [])) target
      refine XS.aload Xg33.here hx rfl (hb hby at_79) rfl rfl ?_
      show Steps p.tables e below (Tg33.setTop (mkF m 81 #[.val (.long q0), .second, .val (.long q1), .second, .val (.long q2), .second, .val (.int p3), .val (.int p4), .val (.int (2 : Int32)), .val (.ref b8), .val (.int v53), .val (.long v77), .second, .unset] [(.ref b8)])) target
      refine XS.lload Xg33.here hx rfl (hb hby at_81) rfl ?_
      exact kt
    obtain ⟨_, _, ⟨Tg83, Lg83, kg83, ng83⟩, -, Xg83, ⟨Lcg83, hQg83, lg83, yg83, zg83⟩, stg83⟩ := Jvm.LawKit.callS Xg33 hx (y := (⟨"com/example/barnacle/barnacle/WordBytes", "clearPast", "([JJ)V"⟩ : MethodName)) hown (mvT hZ (hw _ (List.mem_of_getElem? (i := 2) rfl))) (mvT hZ (hw _ (List.mem_of_getElem? (i := 3) rfl))) (mvT hZ (hw _ (List.mem_of_getElem? (i := 4) rfl))) (mvT hZ (hw _ (List.mem_of_getElem? (i := 5) rfl))) (by decide) (backOf (W := 0) (own_rm1_n2 l Z a0 hw [] b8 v77 a33 hg33 n0 Zz_2 F_4 g_b8) hZ (hw _ (List.mem_of_getElem? (i := 5) rfl)) (hw _ (List.mem_of_getElem? (i := 4) rfl)) (by decide) (by decide)) (g := (mkF m 83 #[.val (.long q0), .second, .val (.long q1), .second, .val (.long q2), .second, .val (.int p3), .val (.int p4), .val (.int (2 : Int32)), .val (.ref b8), .val (.int v53), .val (.long v77), .second, .unset] [(.long v77), (.ref b8)])) rfl (by rw [hml]; rfl) (argsL := [(.ref b8), (.long v77)]) (rest := []) (lenOf own_pd1 rfl) rfl (by show 2 * 0 + _ ≤ _; exact Nat.le_of_eq rfl) (hb hby at_83) (fun _ _ => ⟨rfl, eg33, (by decide : 1 + 0 ≤ _), (by decide : 2 + 0 ≤ _)⟩)
    dsimp only [Pt.U, Pt.locs, Pt.cells, Pt.slots] at Xg83 lg83 yg83 zg83 stg83 hQg83
    subst lg83 yg83 zg83
    obtain ⟨rfl, Ng83q, Kg83, F_5⟩ := hQg83
    have Zz_3 : n0 ≤ Tg83.heap.size := Nat.le_trans Zz_2 Kg83.1
    obtain ⟨a83, ha83⟩ : ∃ z : Nat → Int64, z = (if ((v77 &&& (63 : Int64)).toInt32) = (0 : Int32) then a33 else (fun i => if i = 1 then ((a33 1) &&& ((-1 : Int64) <<< (((64 : Int32) - ((v77 &&& (63 : Int64)).toInt32)) &&& 0x3f).toInt64)) else a33 i)) := ⟨_, rfl⟩
    have F_6 : own_RayJ Z Tg83.heap b8 2 a83 := by subst ha83; exact F_5
    have Ng83 := Fr.app Ng33 Ng83q
    refine own_st (stg83) ?_
    refine own_st (B := Tg83.setTop (mkF m 88 #[.val (.long q0), .second, .val (.long q1), .second, .val (.long q2), .second, .val (.int p3), .val (.int p4), .val (.int (2 : Int32)), .val (.ref b8), .val (.int v53), .val (.long v77), .second, .unset] [(.ref b8)])) (fun target kt => ?_) ?_
    · show Steps p.tables e below (Tg83.setTop (mkF m 86 #[.val (.long q0), .second, .val (.long q1), .second, .val (.long q2), .second, .val (.int p3), .val (.int p4), .val (.int (2 : Int32)), .val (.ref b8), .val (.int v53), .val (.long v77), .second, .unset] [])) target
      refine XS.aload Xg83.here hx rfl (hb hby at_86) rfl rfl ?_
      exact kt
    obtain ⟨clg88, Arg88, Szg88, -⟩ := id F_6
    refine own_st (B := Tg83.setTop (mkF m 89 #[.val (.long q0), .second, .val (.long q1), .second, .val (.long q2), .second, .val (.int p3), .val (.int p4), .val (.int (2 : Int32)), .val (.ref b8), .val (.int v53), .val (.long v77), .second, .unset] [(.int (2 : Int32))])) (fun target kt => ?_) ?_
    · refine Xg83.arraylength hx (by first | exact Arg88.1 | (rw [rfl]; exact Arg88.1)) (State.isArrayOf_alike hZ.alike Arg88.2.1) (g := (mkF m 88 #[.val (.long q0), .second, .val (.long q1), .second, .val (.long q2), .second, .val (.int p3), .val (.int p4), .val (.int (2 : Int32)), .val (.ref b8), .val (.int v53), .val (.long v77), .second, .unset] [(.ref b8)])) rfl rfl (hb hby at_88) _ ?_
      rw [Szg88]
      exact kt
    refine own_st (B := Tg83.setTop (mkF m 113 #[.val (.long q0), .second, .val (.long q1), .second, .val (.long q2), .second, .val (.int p3), .val (.int p4), .val (.int (2 : Int32)), .val (.ref b8), .val (.int v53), .val (.long v77), .second, .val (.int (1 : Int32))] [(.int (0 : Int32)), (.ref b8)])) (fun target kt => ?_) ?_
    · show Steps p.tables e below (Tg83.setTop (mkF m 89 #[.val (.long q0), .second, .val (.long q1), .second, .val (.long q2), .second, .val (.int p3), .val (.int p4), .val (.int (2 : Int32)), .val (.ref b8), .val (.int v53), .val (.long v77), .second, .unset] [(.int (2 : Int32))])) target
      refine XS.iload Xg83.here hx rfl (hb hby at_89) rfl ?_
      show Steps p.tables e below (Tg83.setTop (mkF m 91 #[.val (.long q0), .second, .val (.long q1), .second, .val (.long q2), .second, .val (.int p3), .val (.int p4), .val (.int (2 : Int32)), .val (.ref b8), .val (.int v53), .val (.long v77), .second, .unset] [(.int (2 : Int32)), (.int (2 : Int32))])) target
      refine XS.icmpYes Xg83.here hx rfl (pc0 := 91) (pc' := 96) rfl (hb hby at_91) rfl (teq (by decide : (2 : Int32) = (2 : Int32))).1 (by decide) (by decide) ?_
      show Steps p.tables e below (Tg83.setTop (mkF m 96 #[.val (.long q0), .second, .val (.long q1), .second, .val (.long q2), .second, .val (.int p3), .val (.int p4), .val (.int (2 : Int32)), .val (.ref b8), .val (.int v53), .val (.long v77), .second, .unset] [])) target
      refine XS.iconst Xg83.here hx rfl (hb hby at_96) ?_
      show Steps p.tables e below (Tg83.setTop (mkF m 97 #[.val (.long q0), .second, .val (.long q1), .second, .val (.long q2), .second, .val (.int p3), .val (.int p4), .val (.int (2 : Int32)), .val (.ref b8), .val (.int v53), .val (.long v77), .second, .unset] [(.int (1 : Int32))])) target
      refine XS.istore Xg83.here hx rfl (hb hby at_97) rfl (l' := #[.val (.long q0), .second, .val (.long q1), .second, .val (.long q2), .second, .val (.int p3), .val (.int p4), .val (.int (2 : Int32)), .val (.ref b8), .val (.int v53), .val (.long v77), .second, .val (.int (1 : Int32))]) rfl ?_
      show Steps p.tables e below (Tg83.setTop (mkF m 99 #[.val (.long q0), .second, .val (.long q1), .second, .val (.long q2), .second, .val (.int p3), .val (.int p4), .val (.int (2 : Int32)), .val (.ref b8), .val (.int v53), .val (.long v77), .second, .val (.int (1 : Int32))] [])) target
      refine XS.iload Xg83.here hx rfl (hb hby at_99) rfl ?_
      show Steps p.tables e below (Tg83.setTop (mkF m 101 #[.val (.long q0), .second, .val (.long q1), .second, .val (.long q2), .second, .val (.int p3), .val (.int p4), .val (.int (2 : Int32)), .val (.ref b8), .val (.int v53), .val (.long v77), .second, .val (.int (1 : Int32))] [(.int (2 : Int32))])) target
      refine XS.iconst Xg83.here hx rfl (hb hby at_101) ?_
      show Steps p.tables e below (Tg83.setTop (mkF m 102 #[.val (.long q0), .second, .val (.long q1), .second, .val (.long q2), .second, .val (.int p3), .val (.int p4), .val (.int (2 : Int32)), .val (.ref b8), .val (.int v53), .val (.long v77), .second, .val (.int (1 : Int32))] [(.int (1 : Int32)), (.int (2 : Int32))])) target
      refine XS.icmpNo Xg83.here hx rfl (hb hby at_102) rfl (flt (by decide : ¬ ((2 : Int32) < (1 : Int32)))).1 ?_
      show Steps p.tables e below (Tg83.setTop (mkF m 105 #[.val (.long q0), .second, .val (.long q1), .second, .val (.long q2), .second, .val (.int p3), .val (.int p4), .val (.int (2 : Int32)), .val (.ref b8), .val (.int v53), .val (.long v77), .second, .val (.int (1 : Int32))] [])) target
      refine XS.iload Xg83.here hx rfl (hb hby at_105) rfl ?_
      show Steps p.tables e below (Tg83.setTop (mkF m 107 #[.val (.long q0), .second, .val (.long q1), .second, .val (.long q2), .second, .val (.int p3), .val (.int p4), .val (.int (2 : Int32)), .val (.ref b8), .val (.int v53), .val (.long v77), .second, .val (.int (1 : Int32))] [(.int (1 : Int32))])) target
      refine XS.ifNo Xg83.here hx rfl (hb hby at_107) rfl ((if0 _ _).trans (feq (by decide : ¬ ((1 : Int32) = (0 : Int32)))).1) ?_
      show Steps p.tables e below (Tg83.setTop (mkF m 110 #[.val (.long q0), .second, .val (.long q1), .second, .val (.long q2), .second, .val (.int p3), .val (.int p4), .val (.int (2 : Int32)), .val (.ref b8), .val (.int v53), .val (.long v77), .second, .val (.int (1 : Int32))] [])) target
      refine XS.aload Xg83.here hx rfl (hb hby at_110) rfl rfl ?_
      show Steps p.tables e below (Tg83.setTop (mkF m 112 #[.val (.long q0), .second, .val (.long q1), .second, .val (.long q2), .second, .val (.int p3), .val (.int p4), .val (.int (2 : Int32)), .val (.ref b8), .val (.int v53), .val (.long v77), .second, .val (.int (1 : Int32))] [(.ref b8)])) target
      refine XS.iconst Xg83.here hx rfl (hb hby at_112) ?_
      exact kt
    obtain ⟨clg113, Arg113, Szg113, Atg113⟩ := id F_6
    have hing113 : ¬ ((0 : Int32) < 0 ∨ clg113.slots.size ≤ ((0 : Int32)).toNatClampNeg) := own_inb Szg113 (by decide)
    have hatg113 : clg113.slots[((0 : Int32)).toNatClampNeg]? = some (.long (a83 ((0 : Int32)).toNatClampNeg)) := own_RayJ_nth Atg113 Szg113 hing113
    refine own_st (B := Tg83.setTop (mkF m 114 #[.val (.long q0), .second, .val (.long q1), .second, .val (.long q2), .second, .val (.int p3), .val (.int p4), .val (.int (2 : Int32)), .val (.ref b8), .val (.int v53), .val (.long v77), .second, .val (.int (1 : Int32))] [(.long (a83 0))])) (fun target kt => ?_) ?_
    · refine Xg83.laload hx (j := (0 : Int32)) (v := (.long (a83 ((0 : Int32)).toNatClampNeg))) (by first | exact Arg113.1 | (rw [rfl]; exact Arg113.1)) (State.isArrayOf_alike hZ.alike Arg113.2.1) Arg113.2.2 hing113 hatg113 (g := (mkF m 113 #[.val (.long q0), .second, .val (.long q1), .second, .val (.long q2), .second, .val (.int p3), .val (.int p4), .val (.int (2 : Int32)), .val (.ref b8), .val (.int v53), .val (.long v77), .second, .val (.int (1 : Int32))] [(.int (0 : Int32)), (.ref b8)])) rfl rfl (hb hby at_113) _ ?_
      exact kt
    refine own_st (B := Tg83.setTop (mkF m 120 #[.val (.long q0), .second, .val (.long q1), .second, .val (.long q2), .second, .val (.int p3), .val (.int p4), .val (.int (2 : Int32)), .val (.ref b8), .val (.int v53), .val (.long v77), .second, .val (.int (1 : Int32))] [(.int v53), (.int (2 : Int32)), (.int (0 : Int32)), (.long q0), (.long (a83 0))])) (fun target kt => ?_) ?_
    · show Steps p.tables e below (Tg83.setTop (mkF m 114 #[.val (.long q0), .second, .val (.long q1), .second, .val (.long q2), .second, .val (.int p3), .val (.int p4), .val (.int (2 : Int32)), .val (.ref b8), .val (.int v53), .val (.long v77), .second, .val (.int (1 : Int32))] [(.long (a83 0))])) target
      refine XS.lloadN Xg83.here hx rfl (hb hby at_114) rfl ?_
      show Steps p.tables e below (Tg83.setTop (mkF m 115 #[.val (.long q0), .second, .val (.long q1), .second, .val (.long q2), .second, .val (.int p3), .val (.int p4), .val (.int (2 : Int32)), .val (.ref b8), .val (.int v53), .val (.long v77), .second, .val (.int (1 : Int32))] [(.long q0), (.long (a83 0))])) target
      refine XS.iconst Xg83.here hx rfl (hb hby at_115) ?_
      show Steps p.tables e below (Tg83.setTop (mkF m 116 #[.val (.long q0), .second, .val (.long q1), .second, .val (.long q2), .second, .val (.int p3), .val (.int p4), .val (.int (2 : Int32)), .val (.ref b8), .val (.int v53), .val (.long v77), .second, .val (.int (1 : Int32))] [(.int (0 : Int32)), (.long q0), (.long (a83 0))])) target
      refine XS.iload Xg83.here hx rfl (hb hby at_116) rfl ?_
      show Steps p.tables e below (Tg83.setTop (mkF m 118 #[.val (.long q0), .second, .val (.long q1), .second, .val (.long q2), .second, .val (.int p3), .val (.int p4), .val (.int (2 : Int32)), .val (.ref b8), .val (.int v53), .val (.long v77), .second, .val (.int (1 : Int32))] [(.int (2 : Int32)), (.int (0 : Int32)), (.long q0), (.long (a83 0))])) target
      refine XS.iload Xg83.here hx rfl (hb hby at_118) rfl ?_
      exact kt
    obtain ⟨_, _, ⟨Tg120, Lg120, kg120, ng120⟩, -, Xg120, ⟨Lcg120, hQg120, lg120, yg120, zg120⟩, stg120⟩ := Jvm.LawKit.callS Xg83 hx (y := (⟨"com/example/barnacle/barnacle/WordBytesClearPastPinLaw", "expected", "(JIII)J"⟩ : MethodName)) hown (mvT hZ (hw _ (List.mem_of_getElem? (i := 8) rfl))) (mvT hZ (hw _ (List.mem_of_getElem? (i := 9) rfl))) (mvT hZ (hw _ (List.mem_of_getElem? (i := 10) rfl))) (mvT hZ (hw _ (List.mem_of_getElem? (i := 11) rfl))) (by decide) (backOf (W := 2) (own_rm2 l Z a0 hw [] q0 (0 : Int32) (2 : Int32) v53 Tg83.heap n0 Zz_3) hZ (hw _ (List.mem_of_getElem? (i := 11) rfl)) (hw _ (List.mem_of_getElem? (i := 10) rfl)) (by decide) (by decide)) (g := (mkF m 120 #[.val (.long q0), .second, .val (.long q1), .second, .val (.long q2), .second, .val (.int p3), .val (.int p4), .val (.int (2 : Int32)), .val (.ref b8), .val (.int v53), .val (.long v77), .second, .val (.int (1 : Int32))] [(.int v53), (.int (2 : Int32)), (.int (0 : Int32)), (.long q0), (.long (a83 0))])) rfl (by rw [hml]; rfl) (argsL := [(.long q0), (.int (0 : Int32)), (.int (2 : Int32)), (.int v53)]) (rest := [(.long (a83 0))]) (lenOf own_pd2 rfl) rfl (by show 2 * 0 + _ ≤ _; exact Nat.le_of_eq rfl) (hb hby at_120) (fun _ _ => ⟨rfl, rfl, (by decide : 1 + 0 ≤ _), (by decide : 2 + 0 ≤ _)⟩)
    dsimp only [Pt.U, Pt.locs, Pt.cells, Pt.slots] at Xg120 lg120 yg120 zg120 stg120 hQg120
    subst lg120 yg120 zg120
    obtain ⟨rfl, Ng120q, eg120⟩ := hQg120
    have Ng120 := Fr.app Ng83 Ng120q
    refine own_st (stg120) ?_
    refine own_st (B := Tg120.setTop (mkF m 124 #[.val (.long q0), .second, .val (.long q1), .second, .val (.long q2), .second, .val (.int p3), .val (.int p4), .val (.int (2 : Int32)), .val (.ref b8), .val (.int v53), .val (.long v77), .second, .val (.int (1 : Int32))] [(.int (lcmpW (a83 0) (if (0 : Int32) < ((2 : Int32) - (1 : Int32)) then q0 else (if v53 < (64 : Int32) then (((q0.toUInt64 >>> ((((64 : Int32) - v53)) &&& 0x3f).toInt64.toUInt64).toInt64) <<< ((((64 : Int32) - v53)) &&& 0x3f).toInt64) else q0))))])) (fun target kt => ?_) ?_
    · show Steps p.tables e below (Tg120.setTop (mkF m 123 #[.val (.long q0), .second, .val (.long q1), .second, .val (.long q2), .second, .val (.int p3), .val (.int p4), .val (.int (2 : Int32)), .val (.ref b8), .val (.int v53), .val (.long v77), .second, .val (.int (1 : Int32))] [(.long (if (0 : Int32) < ((2 : Int32) - (1 : Int32)) then q0 else (if v53 < (64 : Int32) then (((q0.toUInt64 >>> ((((64 : Int32) - v53)) &&& 0x3f).toInt64.toUInt64).toInt64) <<< ((((64 : Int32) - v53)) &&& 0x3f).toInt64) else q0))), (.long (a83 0))])) target
      refine XS.lcmp Xg120.here hx rfl (hb hby at_123) rfl ?_
      exact kt
    have c124 : (a83 0) = (if (0 : Int32) < ((2 : Int32) - (1 : Int32)) then q0 else (if v53 < (64 : Int32) then (((q0.toUInt64 >>> ((((64 : Int32) - v53)) &&& 0x3f).toInt64.toUInt64).toInt64) <<< ((((64 : Int32) - v53)) &&& 0x3f).toInt64) else q0)) := by
      rw [if_pos (by decide), ha83]
      by_cases hC : ((v77 &&& (63 : Int64)).toInt32) = (0 : Int32)
      · rw [if_pos hC]; simp [ha33, ha22]
      · rw [if_neg hC]; simp [ha33, ha22]
    refine own_st (B := Tg120.setTop (mkF m 148 #[.val (.long q0), .second, .val (.long q1), .second, .val (.long q2), .second, .val (.int p3), .val (.int p4), .val (.int (2 : Int32)), .val (.ref b8), .val (.int v53), .val (.long v77), .second, .val (.int (1 : Int32))] [(.int (1 : Int32)), (.ref b8)])) (fun target kt => ?_) ?_
    · show Steps p.tables e below (Tg120.setTop (mkF m 124 #[.val (.long q0), .second, .val (.long q1), .second, .val (.long q2), .second, .val (.int p3), .val (.int p4), .val (.int (2 : Int32)), .val (.ref b8), .val (.int v53), .val (.long v77), .second, .val (.int (1 : Int32))] [(.int (lcmpW (a83 0) (if (0 : Int32) < ((2 : Int32) - (1 : Int32)) then q0 else (if v53 < (64 : Int32) then (((q0.toUInt64 >>> ((((64 : Int32) - v53)) &&& 0x3f).toInt64.toUInt64).toInt64) <<< ((((64 : Int32) - v53)) &&& 0x3f).toInt64) else q0))))])) target
      refine XS.ifNo Xg120.here hx rfl (hb hby at_124) rfl ((if0 _ _).trans (teq ((lw_eq (a83 0) (if (0 : Int32) < ((2 : Int32) - (1 : Int32)) then q0 else (if v53 < (64 : Int32) then (((q0.toUInt64 >>> ((((64 : Int32) - v53)) &&& 0x3f).toInt64.toUInt64).toInt64) <<< ((((64 : Int32) - v53)) &&& 0x3f).toInt64) else q0))).mpr c124)).2) ?_
      show Steps p.tables e below (Tg120.setTop (mkF m 127 #[.val (.long q0), .second, .val (.long q1), .second, .val (.long q2), .second, .val (.int p3), .val (.int p4), .val (.int (2 : Int32)), .val (.ref b8), .val (.int v53), .val (.long v77), .second, .val (.int (1 : Int32))] [])) target
      refine XS.iconst Xg120.here hx rfl (hb hby at_127) ?_
      show Steps p.tables e below (Tg120.setTop (mkF m 128 #[.val (.long q0), .second, .val (.long q1), .second, .val (.long q2), .second, .val (.int p3), .val (.int p4), .val (.int (2 : Int32)), .val (.ref b8), .val (.int v53), .val (.long v77), .second, .val (.int (1 : Int32))] [(.int (1 : Int32))])) target
      refine XS.goto Xg120.here hx rfl (pc0 := 128) (pc' := 132) rfl (hb hby at_128) (by decide) (by decide) ?_
      show Steps p.tables e below (Tg120.setTop (mkF m 132 #[.val (.long q0), .second, .val (.long q1), .second, .val (.long q2), .second, .val (.int p3), .val (.int p4), .val (.int (2 : Int32)), .val (.ref b8), .val (.int v53), .val (.long v77), .second, .val (.int (1 : Int32))] [(.int (1 : Int32))])) target
      refine XS.istore Xg120.here hx rfl (hb hby at_132) rfl (l' := #[.val (.long q0), .second, .val (.long q1), .second, .val (.long q2), .second, .val (.int p3), .val (.int p4), .val (.int (2 : Int32)), .val (.ref b8), .val (.int v53), .val (.long v77), .second, .val (.int (1 : Int32))]) rfl ?_
      show Steps p.tables e below (Tg120.setTop (mkF m 134 #[.val (.long q0), .second, .val (.long q1), .second, .val (.long q2), .second, .val (.int p3), .val (.int p4), .val (.int (2 : Int32)), .val (.ref b8), .val (.int v53), .val (.long v77), .second, .val (.int (1 : Int32))] [])) target
      refine XS.iload Xg120.here hx rfl (hb hby at_134) rfl ?_
      show Steps p.tables e below (Tg120.setTop (mkF m 136 #[.val (.long q0), .second, .val (.long q1), .second, .val (.long q2), .second, .val (.int p3), .val (.int p4), .val (.int (2 : Int32)), .val (.ref b8), .val (.int v53), .val (.long v77), .second, .val (.int (1 : Int32))] [(.int (2 : Int32))])) target
      refine XS.iconst Xg120.here hx rfl (hb hby at_136) ?_
      show Steps p.tables e below (Tg120.setTop (mkF m 137 #[.val (.long q0), .second, .val (.long q1), .second, .val (.long q2), .second, .val (.int p3), .val (.int p4), .val (.int (2 : Int32)), .val (.ref b8), .val (.int v53), .val (.long v77), .second, .val (.int (1 : Int32))] [(.int (2 : Int32)), (.int (2 : Int32))])) target
      refine XS.icmpNo Xg120.here hx rfl (hb hby at_137) rfl (flt (by decide : ¬ ((2 : Int32) < (2 : Int32)))).1 ?_
      show Steps p.tables e below (Tg120.setTop (mkF m 140 #[.val (.long q0), .second, .val (.long q1), .second, .val (.long q2), .second, .val (.int p3), .val (.int p4), .val (.int (2 : Int32)), .val (.ref b8), .val (.int v53), .val (.long v77), .second, .val (.int (1 : Int32))] [])) target
      refine XS.iload Xg120.here hx rfl (hb hby at_140) rfl ?_
      show Steps p.tables e below (Tg120.setTop (mkF m 142 #[.val (.long q0), .second, .val (.long q1), .second, .val (.long q2), .second, .val (.int p3), .val (.int p4), .val (.int (2 : Int32)), .val (.ref b8), .val (.int v53), .val (.long v77), .second, .val (.int (1 : Int32))] [(.int (1 : Int32))])) target
      refine XS.ifNo Xg120.here hx rfl (hb hby at_142) rfl ((if0 _ _).trans (feq (by decide : ¬ ((1 : Int32) = (0 : Int32)))).1) ?_
      show Steps p.tables e below (Tg120.setTop (mkF m 145 #[.val (.long q0), .second, .val (.long q1), .second, .val (.long q2), .second, .val (.int p3), .val (.int p4), .val (.int (2 : Int32)), .val (.ref b8), .val (.int v53), .val (.long v77), .second, .val (.int (1 : Int32))] [])) target
      refine XS.aload Xg120.here hx rfl (hb hby at_145) rfl rfl ?_
      show Steps p.tables e below (Tg120.setTop (mkF m 147 #[.val (.long q0), .second, .val (.long q1), .second, .val (.long q2), .second, .val (.int p3), .val (.int p4), .val (.int (2 : Int32)), .val (.ref b8), .val (.int v53), .val (.long v77), .second, .val (.int (1 : Int32))] [(.ref b8)])) target
      refine XS.iconst Xg120.here hx rfl (hb hby at_147) ?_
      exact kt
    obtain ⟨clg148, Arg148, Szg148, Atg148⟩ := id F_6
    have hing148 : ¬ ((1 : Int32) < 0 ∨ clg148.slots.size ≤ ((1 : Int32)).toNatClampNeg) := own_inb Szg148 (by decide)
    have hatg148 : clg148.slots[((1 : Int32)).toNatClampNeg]? = some (.long (a83 ((1 : Int32)).toNatClampNeg)) := own_RayJ_nth Atg148 Szg148 hing148
    refine own_st (B := Tg120.setTop (mkF m 149 #[.val (.long q0), .second, .val (.long q1), .second, .val (.long q2), .second, .val (.int p3), .val (.int p4), .val (.int (2 : Int32)), .val (.ref b8), .val (.int v53), .val (.long v77), .second, .val (.int (1 : Int32))] [(.long (a83 1))])) (fun target kt => ?_) ?_
    · refine Xg120.laload hx (j := (1 : Int32)) (v := (.long (a83 ((1 : Int32)).toNatClampNeg))) (by first | exact Arg148.1 | (rw [eg120]; exact Arg148.1)) (State.isArrayOf_alike hZ.alike Arg148.2.1) Arg148.2.2 hing148 hatg148 (g := (mkF m 148 #[.val (.long q0), .second, .val (.long q1), .second, .val (.long q2), .second, .val (.int p3), .val (.int p4), .val (.int (2 : Int32)), .val (.ref b8), .val (.int v53), .val (.long v77), .second, .val (.int (1 : Int32))] [(.int (1 : Int32)), (.ref b8)])) rfl rfl (hb hby at_148) _ ?_
      exact kt
    refine own_st (B := Tg120.setTop (mkF m 155 #[.val (.long q0), .second, .val (.long q1), .second, .val (.long q2), .second, .val (.int p3), .val (.int p4), .val (.int (2 : Int32)), .val (.ref b8), .val (.int v53), .val (.long v77), .second, .val (.int (1 : Int32))] [(.int v53), (.int (2 : Int32)), (.int (1 : Int32)), (.long q1), (.long (a83 1))])) (fun target kt => ?_) ?_
    · show Steps p.tables e below (Tg120.setTop (mkF m 149 #[.val (.long q0), .second, .val (.long q1), .second, .val (.long q2), .second, .val (.int p3), .val (.int p4), .val (.int (2 : Int32)), .val (.ref b8), .val (.int v53), .val (.long v77), .second, .val (.int (1 : Int32))] [(.long (a83 1))])) target
      refine XS.lloadN Xg120.here hx rfl (hb hby at_149) rfl ?_
      show Steps p.tables e below (Tg120.setTop (mkF m 150 #[.val (.long q0), .second, .val (.long q1), .second, .val (.long q2), .second, .val (.int p3), .val (.int p4), .val (.int (2 : Int32)), .val (.ref b8), .val (.int v53), .val (.long v77), .second, .val (.int (1 : Int32))] [(.long q1), (.long (a83 1))])) target
      refine XS.iconst Xg120.here hx rfl (hb hby at_150) ?_
      show Steps p.tables e below (Tg120.setTop (mkF m 151 #[.val (.long q0), .second, .val (.long q1), .second, .val (.long q2), .second, .val (.int p3), .val (.int p4), .val (.int (2 : Int32)), .val (.ref b8), .val (.int v53), .val (.long v77), .second, .val (.int (1 : Int32))] [(.int (1 : Int32)), (.long q1), (.long (a83 1))])) target
      refine XS.iload Xg120.here hx rfl (hb hby at_151) rfl ?_
      show Steps p.tables e below (Tg120.setTop (mkF m 153 #[.val (.long q0), .second, .val (.long q1), .second, .val (.long q2), .second, .val (.int p3), .val (.int p4), .val (.int (2 : Int32)), .val (.ref b8), .val (.int v53), .val (.long v77), .second, .val (.int (1 : Int32))] [(.int (2 : Int32)), (.int (1 : Int32)), (.long q1), (.long (a83 1))])) target
      refine XS.iload Xg120.here hx rfl (hb hby at_153) rfl ?_
      exact kt
    obtain ⟨_, _, ⟨Tg155, Lg155, kg155, ng155⟩, -, Xg155, ⟨Lcg155, hQg155, lg155, yg155, zg155⟩, stg155⟩ := Jvm.LawKit.callS Xg120 hx (y := (⟨"com/example/barnacle/barnacle/WordBytesClearPastPinLaw", "expected", "(JIII)J"⟩ : MethodName)) hown (mvT hZ (hw _ (List.mem_of_getElem? (i := 8) rfl))) (mvT hZ (hw _ (List.mem_of_getElem? (i := 9) rfl))) (mvT hZ (hw _ (List.mem_of_getElem? (i := 10) rfl))) (mvT hZ (hw _ (List.mem_of_getElem? (i := 11) rfl))) (by decide) (backOf (W := 2) (own_rm2 l Z a0 hw [] q1 (1 : Int32) (2 : Int32) v53 Tg83.heap n0 Zz_3) hZ (hw _ (List.mem_of_getElem? (i := 11) rfl)) (hw _ (List.mem_of_getElem? (i := 10) rfl)) (by decide) (by decide)) (g := (mkF m 155 #[.val (.long q0), .second, .val (.long q1), .second, .val (.long q2), .second, .val (.int p3), .val (.int p4), .val (.int (2 : Int32)), .val (.ref b8), .val (.int v53), .val (.long v77), .second, .val (.int (1 : Int32))] [(.int v53), (.int (2 : Int32)), (.int (1 : Int32)), (.long q1), (.long (a83 1))])) rfl (by rw [hml]; rfl) (argsL := [(.long q1), (.int (1 : Int32)), (.int (2 : Int32)), (.int v53)]) (rest := [(.long (a83 1))]) (lenOf own_pd2 rfl) rfl (by show 2 * 0 + _ ≤ _; exact Nat.le_of_eq rfl) (hb hby at_155) (fun _ _ => ⟨rfl, eg120, (by decide : 1 + 0 ≤ _), (by decide : 2 + 0 ≤ _)⟩)
    dsimp only [Pt.U, Pt.locs, Pt.cells, Pt.slots] at Xg155 lg155 yg155 zg155 stg155 hQg155
    subst lg155 yg155 zg155
    obtain ⟨rfl, Ng155q, eg155⟩ := hQg155
    have Ng155 := Fr.app Ng120 Ng155q
    refine own_st (stg155) ?_
    refine own_st (B := Tg155.setTop (mkF m 159 #[.val (.long q0), .second, .val (.long q1), .second, .val (.long q2), .second, .val (.int p3), .val (.int p4), .val (.int (2 : Int32)), .val (.ref b8), .val (.int v53), .val (.long v77), .second, .val (.int (1 : Int32))] [(.int (lcmpW (a83 1) (if (1 : Int32) < ((2 : Int32) - (1 : Int32)) then q1 else (if v53 < (64 : Int32) then (((q1.toUInt64 >>> ((((64 : Int32) - v53)) &&& 0x3f).toInt64.toUInt64).toInt64) <<< ((((64 : Int32) - v53)) &&& 0x3f).toInt64) else q1))))])) (fun target kt => ?_) ?_
    · show Steps p.tables e below (Tg155.setTop (mkF m 158 #[.val (.long q0), .second, .val (.long q1), .second, .val (.long q2), .second, .val (.int p3), .val (.int p4), .val (.int (2 : Int32)), .val (.ref b8), .val (.int v53), .val (.long v77), .second, .val (.int (1 : Int32))] [(.long (if (1 : Int32) < ((2 : Int32) - (1 : Int32)) then q1 else (if v53 < (64 : Int32) then (((q1.toUInt64 >>> ((((64 : Int32) - v53)) &&& 0x3f).toInt64.toUInt64).toInt64) <<< ((((64 : Int32) - v53)) &&& 0x3f).toInt64) else q1))), (.long (a83 1))])) target
      refine XS.lcmp Xg155.here hx rfl (hb hby at_158) rfl ?_
      exact kt
    have c159 : (a83 1) = (if (1 : Int32) < ((2 : Int32) - (1 : Int32)) then q1 else (if v53 < (64 : Int32) then (((q1.toUInt64 >>> ((((64 : Int32) - v53)) &&& 0x3f).toInt64.toUInt64).toInt64) <<< ((((64 : Int32) - v53)) &&& 0x3f).toInt64) else q1)) := by
      rw [if_neg (by decide), ← own_last q1 p4 v53 (64 : Int64) v77 (by decide) hv53 hv77, ha83]
      by_cases hC : ((v77 &&& (63 : Int64)).toInt32) = (0 : Int32)
      · rw [if_pos hC, if_pos hC]; simp [ha33, ha22]
      · rw [if_neg hC, if_neg hC]; simp [ha33, ha22]
    refine own_st (B := Tg155.setTop (mkF m 207 #[.val (.long q0), .second, .val (.long q1), .second, .val (.long q2), .second, .val (.int p3), .val (.int p4), .val (.int (2 : Int32)), .val (.ref b8), .val (.int v53), .val (.long v77), .second, .val (.int (1 : Int32))] [(.int (1 : Int32))])) (fun target kt => ?_) ?_
    · show Steps p.tables e below (Tg155.setTop (mkF m 159 #[.val (.long q0), .second, .val (.long q1), .second, .val (.long q2), .second, .val (.int p3), .val (.int p4), .val (.int (2 : Int32)), .val (.ref b8), .val (.int v53), .val (.long v77), .second, .val (.int (1 : Int32))] [(.int (lcmpW (a83 1) (if (1 : Int32) < ((2 : Int32) - (1 : Int32)) then q1 else (if v53 < (64 : Int32) then (((q1.toUInt64 >>> ((((64 : Int32) - v53)) &&& 0x3f).toInt64.toUInt64).toInt64) <<< ((((64 : Int32) - v53)) &&& 0x3f).toInt64) else q1))))])) target
      refine XS.ifNo Xg155.here hx rfl (hb hby at_159) rfl ((if0 _ _).trans (teq ((lw_eq (a83 1) (if (1 : Int32) < ((2 : Int32) - (1 : Int32)) then q1 else (if v53 < (64 : Int32) then (((q1.toUInt64 >>> ((((64 : Int32) - v53)) &&& 0x3f).toInt64.toUInt64).toInt64) <<< ((((64 : Int32) - v53)) &&& 0x3f).toInt64) else q1))).mpr c159)).2) ?_
      show Steps p.tables e below (Tg155.setTop (mkF m 162 #[.val (.long q0), .second, .val (.long q1), .second, .val (.long q2), .second, .val (.int p3), .val (.int p4), .val (.int (2 : Int32)), .val (.ref b8), .val (.int v53), .val (.long v77), .second, .val (.int (1 : Int32))] [])) target
      refine XS.iconst Xg155.here hx rfl (hb hby at_162) ?_
      show Steps p.tables e below (Tg155.setTop (mkF m 163 #[.val (.long q0), .second, .val (.long q1), .second, .val (.long q2), .second, .val (.int p3), .val (.int p4), .val (.int (2 : Int32)), .val (.ref b8), .val (.int v53), .val (.long v77), .second, .val (.int (1 : Int32))] [(.int (1 : Int32))])) target
      refine XS.goto Xg155.here hx rfl (pc0 := 163) (pc' := 167) rfl (hb hby at_163) (by decide) (by decide) ?_
      show Steps p.tables e below (Tg155.setTop (mkF m 167 #[.val (.long q0), .second, .val (.long q1), .second, .val (.long q2), .second, .val (.int p3), .val (.int p4), .val (.int (2 : Int32)), .val (.ref b8), .val (.int v53), .val (.long v77), .second, .val (.int (1 : Int32))] [(.int (1 : Int32))])) target
      refine XS.istore Xg155.here hx rfl (hb hby at_167) rfl (l' := #[.val (.long q0), .second, .val (.long q1), .second, .val (.long q2), .second, .val (.int p3), .val (.int p4), .val (.int (2 : Int32)), .val (.ref b8), .val (.int v53), .val (.long v77), .second, .val (.int (1 : Int32))]) rfl ?_
      show Steps p.tables e below (Tg155.setTop (mkF m 169 #[.val (.long q0), .second, .val (.long q1), .second, .val (.long q2), .second, .val (.int p3), .val (.int p4), .val (.int (2 : Int32)), .val (.ref b8), .val (.int v53), .val (.long v77), .second, .val (.int (1 : Int32))] [])) target
      refine XS.iload Xg155.here hx rfl (hb hby at_169) rfl ?_
      show Steps p.tables e below (Tg155.setTop (mkF m 171 #[.val (.long q0), .second, .val (.long q1), .second, .val (.long q2), .second, .val (.int p3), .val (.int p4), .val (.int (2 : Int32)), .val (.ref b8), .val (.int v53), .val (.long v77), .second, .val (.int (1 : Int32))] [(.int (2 : Int32))])) target
      refine XS.iconst Xg155.here hx rfl (hb hby at_171) ?_
      show Steps p.tables e below (Tg155.setTop (mkF m 172 #[.val (.long q0), .second, .val (.long q1), .second, .val (.long q2), .second, .val (.int p3), .val (.int p4), .val (.int (2 : Int32)), .val (.ref b8), .val (.int v53), .val (.long v77), .second, .val (.int (1 : Int32))] [(.int (3 : Int32)), (.int (2 : Int32))])) target
      refine XS.icmpYes Xg155.here hx rfl (pc0 := 172) (pc' := 205) rfl (hb hby at_172) rfl (tlt (by decide : (2 : Int32) < (3 : Int32))).1 (by decide) (by decide) ?_
      show Steps p.tables e below (Tg155.setTop (mkF m 205 #[.val (.long q0), .second, .val (.long q1), .second, .val (.long q2), .second, .val (.int p3), .val (.int p4), .val (.int (2 : Int32)), .val (.ref b8), .val (.int v53), .val (.long v77), .second, .val (.int (1 : Int32))] [])) target
      refine XS.iload Xg155.here hx rfl (hb hby at_205) rfl ?_
      exact kt
    obtain ⟨fs, hr, hrun, hended, hW, hsame⟩ := Xg155.leave (v := some (.int (1 : Int32))) (fun h => by rw [Bd.returns] at h; cases h)
    have hend : Steps p.tables e below (Tg155.setTop (mkF m 207 #[.val (.long q0), .second, .val (.long q1), .second, .val (.long q2), .second, .val (.int p3), .val (.int p4), .val (.int (2 : Int32)), .val (.ref b8), .val (.int v53), .val (.long v77), .second, .val (.int (1 : Int32))] [(.int (1 : Int32))])) (Tg155.setFrames fs) := by
      exact retN Xg155 hx (t := .boolean) Bd.returns (by simp) (hb hby at_207) hr
    refine own_fin hend ⟨_, hrun, hended, _, _, rfl, ?_, ⟨_, rfl⟩, hW, hsame.mono (by decide) (by decide)⟩
    show own_Q0 Z q0 q1 q2 p3 p4 h0 n0 _ Tg155.heap _
    rw [eg155]
    exact ⟨rfl, Ng155⟩
  · subst hs6
    refine own_st (B := s₁.setTop (mkF m 8 #[.val (.long q0), .second, .val (.long q1), .second, .val (.long q2), .second, .val (.int p3), .val (.int p4), .val (.int (3 : Int32)), .unset, .unset, .unset, .unset, .unset] [(.int (3 : Int32))])) (fun target kt => ?_) ?_
    · show Steps p.tables e below (s₁.setTop (mkF m 6 #[.val (.long q0), .second, .val (.long q1), .second, .val (.long q2), .second, .val (.int p3), .val (.int p4), .val (.int (3 : Int32)), .unset, .unset, .unset, .unset, .unset] [])) target
      refine XS.iload X0.here hx rfl (hb hby at_6) rfl ?_
      exact kt
    obtain ⟨Tg8, hg8, kg8, Xg8, eg8, Eg8, Ag8, stg8⟩ := newP X0 hx hZ (hw _ (List.mem_of_getElem? (i := 0) rfl)) e0 (g := (mkF m 8 #[.val (.long q0), .second, .val (.long q1), .second, .val (.long q2), .second, .val (.int p3), .val (.int p4), .val (.int (3 : Int32)), .unset, .unset, .unset, .unset, .unset] [(.int (3 : Int32))])) rfl (hb hby at_8) rfl (by decide) (cap := 3) (by decide) (by decide) (by decide) (by decide)
    obtain ⟨b8, gg8⟩ : ∃ z, z = h0.size := ⟨_, rfl⟩
    rw [← gg8] at Ag8 stg8
    refine own_st stg8 ?_
    have g_b8 : n0 ≤ b8 := Nat.le_trans Z0 (Nat.le_of_eq gg8.symm)
    have Zz : n0 ≤ hg8.size := Nat.le_trans Z0 Eg8.1
    have F : own_RayJ Z hg8 b8 3 (fun _ => (0 : Int64)) := own_RayJ_new Ag8 (by decide) (by decide)
    refine own_st (B := Tg8.setTop (mkF m 22 #[.val (.long q0), .second, .val (.long q1), .second, .val (.long q2), .second, .val (.int p3), .val (.int p4), .val (.int (3 : Int32)), .val (.ref b8), .unset, .unset, .unset, .unset] [(.long q0), (.int (0 : Int32)), (.ref b8)])) (fun target kt => ?_) ?_
    · show Steps p.tables e below (Tg8.setTop (mkF m 10 #[.val (.long q0), .second, .val (.long q1), .second, .val (.long q2), .second, .val (.int p3), .val (.int p4), .val (.int (3 : Int32)), .unset, .unset, .unset, .unset, .unset] [(.ref b8)])) target
      refine XS.astore Xg8.here hx rfl (hb hby at_10) rfl rfl (l' := #[.val (.long q0), .second, .val (.long q1), .second, .val (.long q2), .second, .val (.int p3), .val (.int p4), .val (.int (3 : Int32)), .val (.ref b8), .unset, .unset, .unset, .unset]) rfl ?_
      show Steps p.tables e below (Tg8.setTop (mkF m 12 #[.val (.long q0), .second, .val (.long q1), .second, .val (.long q2), .second, .val (.int p3), .val (.int p4), .val (.int (3 : Int32)), .val (.ref b8), .unset, .unset, .unset, .unset] [])) target
      refine XS.iload Xg8.here hx rfl (hb hby at_12) rfl ?_
      show Steps p.tables e below (Tg8.setTop (mkF m 14 #[.val (.long q0), .second, .val (.long q1), .second, .val (.long q2), .second, .val (.int p3), .val (.int p4), .val (.int (3 : Int32)), .val (.ref b8), .unset, .unset, .unset, .unset] [(.int (3 : Int32))])) target
      refine XS.iconst Xg8.here hx rfl (hb hby at_14) ?_
      show Steps p.tables e below (Tg8.setTop (mkF m 15 #[.val (.long q0), .second, .val (.long q1), .second, .val (.long q2), .second, .val (.int p3), .val (.int p4), .val (.int (3 : Int32)), .val (.ref b8), .unset, .unset, .unset, .unset] [(.int (1 : Int32)), (.int (3 : Int32))])) target
      refine XS.icmpNo Xg8.here hx rfl (hb hby at_15) rfl (flt (by decide : ¬ ((3 : Int32) < (1 : Int32)))).1 ?_
      show Steps p.tables e below (Tg8.setTop (mkF m 18 #[.val (.long q0), .second, .val (.long q1), .second, .val (.long q2), .second, .val (.int p3), .val (.int p4), .val (.int (3 : Int32)), .val (.ref b8), .unset, .unset, .unset, .unset] [])) target
      refine XS.aload Xg8.here hx rfl (hb hby at_18) rfl rfl ?_
      show Steps p.tables e below (Tg8.setTop (mkF m 20 #[.val (.long q0), .second, .val (.long q1), .second, .val (.long q2), .second, .val (.int p3), .val (.int p4), .val (.int (3 : Int32)), .val (.ref b8), .unset, .unset, .unset, .unset] [(.ref b8)])) target
      refine XS.iconst Xg8.here hx rfl (hb hby at_20) ?_
      show Steps p.tables e below (Tg8.setTop (mkF m 21 #[.val (.long q0), .second, .val (.long q1), .second, .val (.long q2), .second, .val (.int p3), .val (.int p4), .val (.int (3 : Int32)), .val (.ref b8), .unset, .unset, .unset, .unset] [(.int (0 : Int32)), (.ref b8)])) target
      refine XS.lloadN Xg8.here hx rfl (hb hby at_21) rfl ?_
      exact kt
    obtain ⟨clg22, Arg22, Szg22, -⟩ := id F
    have hing22 : ¬ ((0 : Int32) < 0 ∨ clg22.slots.size ≤ ((0 : Int32)).toNatClampNeg) := own_inb Szg22 (by decide)
    obtain ⟨Tg22, hg22, Xg22, eg22, Wg22, stg22⟩ := stJ Xg8 hx hZ eg8 Arg22 (j := (0 : Int32)) hing22 (g := (mkF m 22 #[.val (.long q0), .second, .val (.long q1), .second, .val (.long q2), .second, .val (.int p3), .val (.int p4), .val (.int (3 : Int32)), .val (.ref b8), .unset, .unset, .unset, .unset] [(.long q0), (.int (0 : Int32)), (.ref b8)])) rfl rfl (hb hby at_22)
    refine own_st stg22 ?_
    have Ng22 := Fr.snoc Xg22 N0 g_b8
    obtain ⟨a22, ha22⟩ : ∃ gz : Nat → Int64, gz = fun i => if i = 0 then q0 else (fun _ => (0 : Int64)) i := ⟨_, rfl⟩
    have Zz_1 : n0 ≤ hg22.size := Nat.le_trans Zz (Keep.of_wr Wg22).1
    have F_2 : own_RayJ Z hg22 b8 3 a22 := by rw [ha22]; exact own_RayJ_set F Wg22 (by decide)
    refine own_st (B := Tg22.setTop (mkF m 33 #[.val (.long q0), .second, .val (.long q1), .second, .val (.long q2), .second, .val (.int p3), .val (.int p4), .val (.int (3 : Int32)), .val (.ref b8), .unset, .unset, .unset, .unset] [(.long q1), (.int (1 : Int32)), (.ref b8)])) (fun target kt => ?_) ?_
    · show Steps p.tables e below (Tg22.setTop (mkF m 23 #[.val (.long q0), .second, .val (.long q1), .second, .val (.long q2), .second, .val (.int p3), .val (.int p4), .val (.int (3 : Int32)), .val (.ref b8), .unset, .unset, .unset, .unset] [])) target
      refine XS.iload Xg22.here hx rfl (hb hby at_23) rfl ?_
      show Steps p.tables e below (Tg22.setTop (mkF m 25 #[.val (.long q0), .second, .val (.long q1), .second, .val (.long q2), .second, .val (.int p3), .val (.int p4), .val (.int (3 : Int32)), .val (.ref b8), .unset, .unset, .unset, .unset] [(.int (3 : Int32))])) target
      refine XS.iconst Xg22.here hx rfl (hb hby at_25) ?_
      show Steps p.tables e below (Tg22.setTop (mkF m 26 #[.val (.long q0), .second, .val (.long q1), .second, .val (.long q2), .second, .val (.int p3), .val (.int p4), .val (.int (3 : Int32)), .val (.ref b8), .unset, .unset, .unset, .unset] [(.int (2 : Int32)), (.int (3 : Int32))])) target
      refine XS.icmpNo Xg22.here hx rfl (hb hby at_26) rfl (flt (by decide : ¬ ((3 : Int32) < (2 : Int32)))).1 ?_
      show Steps p.tables e below (Tg22.setTop (mkF m 29 #[.val (.long q0), .second, .val (.long q1), .second, .val (.long q2), .second, .val (.int p3), .val (.int p4), .val (.int (3 : Int32)), .val (.ref b8), .unset, .unset, .unset, .unset] [])) target
      refine XS.aload Xg22.here hx rfl (hb hby at_29) rfl rfl ?_
      show Steps p.tables e below (Tg22.setTop (mkF m 31 #[.val (.long q0), .second, .val (.long q1), .second, .val (.long q2), .second, .val (.int p3), .val (.int p4), .val (.int (3 : Int32)), .val (.ref b8), .unset, .unset, .unset, .unset] [(.ref b8)])) target
      refine XS.iconst Xg22.here hx rfl (hb hby at_31) ?_
      show Steps p.tables e below (Tg22.setTop (mkF m 32 #[.val (.long q0), .second, .val (.long q1), .second, .val (.long q2), .second, .val (.int p3), .val (.int p4), .val (.int (3 : Int32)), .val (.ref b8), .unset, .unset, .unset, .unset] [(.int (1 : Int32)), (.ref b8)])) target
      refine XS.lloadN Xg22.here hx rfl (hb hby at_32) rfl ?_
      exact kt
    obtain ⟨clg33, Arg33, Szg33, -⟩ := id F_2
    have hing33 : ¬ ((1 : Int32) < 0 ∨ clg33.slots.size ≤ ((1 : Int32)).toNatClampNeg) := own_inb Szg33 (by decide)
    obtain ⟨Tg33, hg33, Xg33, eg33, Wg33, stg33⟩ := stJ Xg22 hx hZ eg22 Arg33 (j := (1 : Int32)) hing33 (g := (mkF m 33 #[.val (.long q0), .second, .val (.long q1), .second, .val (.long q2), .second, .val (.int p3), .val (.int p4), .val (.int (3 : Int32)), .val (.ref b8), .unset, .unset, .unset, .unset] [(.long q1), (.int (1 : Int32)), (.ref b8)])) rfl rfl (hb hby at_33)
    refine own_st stg33 ?_
    have Ng33 := Fr.snoc Xg33 Ng22 g_b8
    obtain ⟨a33, ha33⟩ : ∃ gz : Nat → Int64, gz = fun i => if i = 1 then q1 else a22 i := ⟨_, rfl⟩
    have Zz_2 : n0 ≤ hg33.size := Nat.le_trans Zz_1 (Keep.of_wr Wg33).1
    have F_4 : own_RayJ Z hg33 b8 3 a33 := by rw [ha33]; exact own_RayJ_set F_2 Wg33 (by decide)
    refine own_st (B := Tg33.setTop (mkF m 45 #[.val (.long q0), .second, .val (.long q1), .second, .val (.long q2), .second, .val (.int p3), .val (.int p4), .val (.int (3 : Int32)), .val (.ref b8), .unset, .unset, .unset, .unset] [(.long q2), (.int (2 : Int32)), (.ref b8)])) (fun target kt => ?_) ?_
    · show Steps p.tables e below (Tg33.setTop (mkF m 34 #[.val (.long q0), .second, .val (.long q1), .second, .val (.long q2), .second, .val (.int p3), .val (.int p4), .val (.int (3 : Int32)), .val (.ref b8), .unset, .unset, .unset, .unset] [])) target
      refine XS.iload Xg33.here hx rfl (hb hby at_34) rfl ?_
      show Steps p.tables e below (Tg33.setTop (mkF m 36 #[.val (.long q0), .second, .val (.long q1), .second, .val (.long q2), .second, .val (.int p3), .val (.int p4), .val (.int (3 : Int32)), .val (.ref b8), .unset, .unset, .unset, .unset] [(.int (3 : Int32))])) target
      refine XS.iconst Xg33.here hx rfl (hb hby at_36) ?_
      show Steps p.tables e below (Tg33.setTop (mkF m 37 #[.val (.long q0), .second, .val (.long q1), .second, .val (.long q2), .second, .val (.int p3), .val (.int p4), .val (.int (3 : Int32)), .val (.ref b8), .unset, .unset, .unset, .unset] [(.int (3 : Int32)), (.int (3 : Int32))])) target
      refine XS.icmpNo Xg33.here hx rfl (hb hby at_37) rfl (flt (by decide : ¬ ((3 : Int32) < (3 : Int32)))).1 ?_
      show Steps p.tables e below (Tg33.setTop (mkF m 40 #[.val (.long q0), .second, .val (.long q1), .second, .val (.long q2), .second, .val (.int p3), .val (.int p4), .val (.int (3 : Int32)), .val (.ref b8), .unset, .unset, .unset, .unset] [])) target
      refine XS.aload Xg33.here hx rfl (hb hby at_40) rfl rfl ?_
      show Steps p.tables e below (Tg33.setTop (mkF m 42 #[.val (.long q0), .second, .val (.long q1), .second, .val (.long q2), .second, .val (.int p3), .val (.int p4), .val (.int (3 : Int32)), .val (.ref b8), .unset, .unset, .unset, .unset] [(.ref b8)])) target
      refine XS.iconst Xg33.here hx rfl (hb hby at_42) ?_
      show Steps p.tables e below (Tg33.setTop (mkF m 43 #[.val (.long q0), .second, .val (.long q1), .second, .val (.long q2), .second, .val (.int p3), .val (.int p4), .val (.int (3 : Int32)), .val (.ref b8), .unset, .unset, .unset, .unset] [(.int (2 : Int32)), (.ref b8)])) target
      refine XS.lload Xg33.here hx rfl (hb hby at_43) rfl ?_
      exact kt
    obtain ⟨clg45, Arg45, Szg45, -⟩ := id F_4
    have hing45 : ¬ ((2 : Int32) < 0 ∨ clg45.slots.size ≤ ((2 : Int32)).toNatClampNeg) := own_inb Szg45 (by decide)
    obtain ⟨Tg45, hg45, Xg45, eg45, Wg45, stg45⟩ := stJ Xg33 hx hZ eg33 Arg45 (j := (2 : Int32)) hing45 (g := (mkF m 45 #[.val (.long q0), .second, .val (.long q1), .second, .val (.long q2), .second, .val (.int p3), .val (.int p4), .val (.int (3 : Int32)), .val (.ref b8), .unset, .unset, .unset, .unset] [(.long q2), (.int (2 : Int32)), (.ref b8)])) rfl rfl (hb hby at_45)
    refine own_st stg45 ?_
    have Ng45 := Fr.snoc Xg45 Ng33 g_b8
    obtain ⟨a45, ha45⟩ : ∃ gz : Nat → Int64, gz = fun i => if i = 2 then q2 else a33 i := ⟨_, rfl⟩
    have Zz_3 : n0 ≤ hg45.size := Nat.le_trans Zz_2 (Keep.of_wr Wg45).1
    have F_6 : own_RayJ Z hg45 b8 3 a45 := by rw [ha45]; exact own_RayJ_set F_4 Wg45 (by decide)
    obtain ⟨v53, hv53⟩ : ∃ z : Int32, z = ((1 : Int32) + (p4 &&& (63 : Int32))) := ⟨_, rfl⟩
    obtain ⟨v77, hv77⟩ : ∃ z : Int64, z = ((128 : Int64) + (v53.toInt64)) := ⟨_, rfl⟩
    refine own_st (B := Tg45.setTop (mkF m 83 #[.val (.long q0), .second, .val (.long q1), .second, .val (.long q2), .second, .val (.int p3), .val (.int p4), .val (.int (3 : Int32)), .val (.ref b8), .val (.int v53), .val (.long v77), .second, .unset] [(.long v77), (.ref b8)])) (fun target kt => ?_) ?_
    · show Steps p.tables e below (Tg45.setTop (mkF m 46 #[.val (.long q0), .second, .val (.long q1), .second, .val (.long q2), .second, .val (.int p3), .val (.int p4), .val (.int (3 : Int32)), .val (.ref b8), .unset, .unset, .unset, .unset] [])) target
      refine XS.iconst Xg45.here hx rfl (hb hby at_46) ?_
      show Steps p.tables e below (Tg45.setTop (mkF m 47 #[.val (.long q0), .second, .val (.long q1), .second, .val (.long q2), .second, .val (.int p3), .val (.int p4), .val (.int (3 : Int32)), .val (.ref b8), .unset, .unset, .unset, .unset] [(.int (1 : Int32))])) target
      refine XS.iload Xg45.here hx rfl (hb hby at_47) rfl ?_
      show Steps p.tables e below (Tg45.setTop (mkF m 49 #[.val (.long q0), .second, .val (.long q1), .second, .val (.long q2), .second, .val (.int p3), .val (.int p4), .val (.int (3 : Int32)), .val (.ref b8), .unset, .unset, .unset, .unset] [(.int p4), (.int (1 : Int32))])) target
      refine XS.bipush Xg45.here hx rfl (hb hby at_49) ?_
      show Steps p.tables e below (Tg45.setTop (mkF m 51 #[.val (.long q0), .second, .val (.long q1), .second, .val (.long q2), .second, .val (.int p3), .val (.int p4), .val (.int (3 : Int32)), .val (.ref b8), .unset, .unset, .unset, .unset] [(.int (63 : Int32)), (.int p4), (.int (1 : Int32))])) target
      refine XS.iand Xg45.here hx rfl (hb hby at_51) rfl ?_
      show Steps p.tables e below (Tg45.setTop (mkF m 52 #[.val (.long q0), .second, .val (.long q1), .second, .val (.long q2), .second, .val (.int p3), .val (.int p4), .val (.int (3 : Int32)), .val (.ref b8), .unset, .unset, .unset, .unset] [(.int (p4 &&& (63 : Int32))), (.int (1 : Int32))])) target
      refine XS.iadd Xg45.here hx rfl (hb hby at_52) rfl ?_
      show Steps p.tables e below (Tg45.setTop (mkF m 53 #[.val (.long q0), .second, .val (.long q1), .second, .val (.long q2), .second, .val (.int p3), .val (.int p4), .val (.int (3 : Int32)), .val (.ref b8), .unset, .unset, .unset, .unset] [(.int ((1 : Int32) + (p4 &&& (63 : Int32))))])) target
      refine XS.istore Xg45.here hx rfl (hb hby at_53) rfl (l' := #[.val (.long q0), .second, .val (.long q1), .second, .val (.long q2), .second, .val (.int p3), .val (.int p4), .val (.int (3 : Int32)), .val (.ref b8), .val (.int v53), .unset, .unset, .unset]) (by subst hv53; rfl) ?_
      show Steps p.tables e below (Tg45.setTop (mkF m 55 #[.val (.long q0), .second, .val (.long q1), .second, .val (.long q2), .second, .val (.int p3), .val (.int p4), .val (.int (3 : Int32)), .val (.ref b8), .val (.int v53), .unset, .unset, .unset] [])) target
      refine XS.iload Xg45.here hx rfl (hb hby at_55) rfl ?_
      show Steps p.tables e below (Tg45.setTop (mkF m 57 #[.val (.long q0), .second, .val (.long q1), .second, .val (.long q2), .second, .val (.int p3), .val (.int p4), .val (.int (3 : Int32)), .val (.ref b8), .val (.int v53), .unset, .unset, .unset] [(.int (3 : Int32))])) target
      refine XS.ifYes Xg45.here hx rfl (pc0 := 57) (pc' := 64) rfl (hb hby at_57) rfl ((if0 _ _).trans (feq (by decide : ¬ ((3 : Int32) = (0 : Int32)))).2) (by decide) (by decide) ?_
      show Steps p.tables e below (Tg45.setTop (mkF m 64 #[.val (.long q0), .second, .val (.long q1), .second, .val (.long q2), .second, .val (.int p3), .val (.int p4), .val (.int (3 : Int32)), .val (.ref b8), .val (.int v53), .unset, .unset, .unset] [])) target
      refine XS.iload Xg45.here hx rfl (hb hby at_64) rfl ?_
      show Steps p.tables e below (Tg45.setTop (mkF m 66 #[.val (.long q0), .second, .val (.long q1), .second, .val (.long q2), .second, .val (.int p3), .val (.int p4), .val (.int (3 : Int32)), .val (.ref b8), .val (.int v53), .unset, .unset, .unset] [(.int (3 : Int32))])) target
      refine XS.iconst Xg45.here hx rfl (hb hby at_66) ?_
      show Steps p.tables e below (Tg45.setTop (mkF m 67 #[.val (.long q0), .second, .val (.long q1), .second, .val (.long q2), .second, .val (.int p3), .val (.int p4), .val (.int (3 : Int32)), .val (.ref b8), .val (.int v53), .unset, .unset, .unset] [(.int (1 : Int32)), (.int (3 : Int32))])) target
      refine XS.isub Xg45.here hx rfl (hb hby at_67) rfl ?_
      show Steps p.tables e below (Tg45.setTop (mkF m 68 #[.val (.long q0), .second, .val (.long q1), .second, .val (.long q2), .second, .val (.int p3), .val (.int p4), .val (.int (3 : Int32)), .val (.ref b8), .val (.int v53), .unset, .unset, .unset] [(.int (2 : Int32))])) target
      refine XS.i2l Xg45.here hx rfl (hb hby at_68) rfl ?_
      show Steps p.tables e below (Tg45.setTop (mkF m 69 #[.val (.long q0), .second, .val (.long q1), .second, .val (.long q2), .second, .val (.int p3), .val (.int p4), .val (.int (3 : Int32)), .val (.ref b8), .val (.int v53), .unset, .unset, .unset] [(.long (2 : Int64))])) target
      refine Xg45.ldc2Long hx hown (mvT hZ (hw _ (List.mem_of_getElem? (i := 1) rfl))) (g := (mkF m 69 #[.val (.long q0), .second, .val (.long q1), .second, .val (.long q2), .second, .val (.int p3), .val (.int p4), .val (.int (3 : Int32)), .val (.ref b8), .val (.int v53), .unset, .unset, .unset] [(.long (2 : Int64))])) rfl (hb hby at_69) _ ?_
      show Steps p.tables e below (Tg45.setTop (mkF m 72 #[.val (.long q0), .second, .val (.long q1), .second, .val (.long q2), .second, .val (.int p3), .val (.int p4), .val (.int (3 : Int32)), .val (.ref b8), .val (.int v53), .unset, .unset, .unset] [(.long (64 : Int64)), (.long (2 : Int64))])) target
      refine XS.lmul Xg45.here hx rfl (hb hby at_72) rfl ?_
      show Steps p.tables e below (Tg45.setTop (mkF m 73 #[.val (.long q0), .second, .val (.long q1), .second, .val (.long q2), .second, .val (.int p3), .val (.int p4), .val (.int (3 : Int32)), .val (.ref b8), .val (.int v53), .unset, .unset, .unset] [(.long (128 : Int64))])) target
      refine XS.iload Xg45.here hx rfl (hb hby at_73) rfl ?_
      show Steps p.tables e below (Tg45.setTop (mkF m 75 #[.val (.long q0), .second, .val (.long q1), .second, .val (.long q2), .second, .val (.int p3), .val (.int p4), .val (.int (3 : Int32)), .val (.ref b8), .val (.int v53), .unset, .unset, .unset] [(.int v53), (.long (128 : Int64))])) target
      refine XS.i2l Xg45.here hx rfl (hb hby at_75) rfl ?_
      show Steps p.tables e below (Tg45.setTop (mkF m 76 #[.val (.long q0), .second, .val (.long q1), .second, .val (.long q2), .second, .val (.int p3), .val (.int p4), .val (.int (3 : Int32)), .val (.ref b8), .val (.int v53), .unset, .unset, .unset] [(.long (v53.toInt64)), (.long (128 : Int64))])) target
      refine XS.ladd Xg45.here hx rfl (hb hby at_76) rfl ?_
      show Steps p.tables e below (Tg45.setTop (mkF m 77 #[.val (.long q0), .second, .val (.long q1), .second, .val (.long q2), .second, .val (.int p3), .val (.int p4), .val (.int (3 : Int32)), .val (.ref b8), .val (.int v53), .unset, .unset, .unset] [(.long ((128 : Int64) + (v53.toInt64)))])) target
      refine XS.lstore Xg45.here hx rfl (hb hby at_77) rfl (l' := #[.val (.long q0), .second, .val (.long q1), .second, .val (.long q2), .second, .val (.int p3), .val (.int p4), .val (.int (3 : Int32)), .val (.ref b8), .val (.int v53), .val (.long v77), .second, .unset]) (by subst hv77; rfl) ?_
      show Steps p.tables e below (Tg45.setTop (mkF m 79 #[.val (.long q0), .second, .val (.long q1), .second, .val (.long q2), .second, .val (.int p3), .val (.int p4), .val (.int (3 : Int32)), .val (.ref b8), .val (.int v53), .val (.long v77), .second, .unset] [])) target
      refine XS.aload Xg45.here hx rfl (hb hby at_79) rfl rfl ?_
      show Steps p.tables e below (Tg45.setTop (mkF m 81 #[.val (.long q0), .second, .val (.long q1), .second, .val (.long q2), .second, .val (.int p3), .val (.int p4), .val (.int (3 : Int32)), .val (.ref b8), .val (.int v53), .val (.long v77), .second, .unset] [(.ref b8)])) target
      refine XS.lload Xg45.here hx rfl (hb hby at_81) rfl ?_
      exact kt
    obtain ⟨_, _, ⟨Tg83, Lg83, kg83, ng83⟩, -, Xg83, ⟨Lcg83, hQg83, lg83, yg83, zg83⟩, stg83⟩ := Jvm.LawKit.callS Xg45 hx (y := (⟨"com/example/barnacle/barnacle/WordBytes", "clearPast", "([JJ)V"⟩ : MethodName)) hown (mvT hZ (hw _ (List.mem_of_getElem? (i := 2) rfl))) (mvT hZ (hw _ (List.mem_of_getElem? (i := 3) rfl))) (mvT hZ (hw _ (List.mem_of_getElem? (i := 4) rfl))) (mvT hZ (hw _ (List.mem_of_getElem? (i := 5) rfl))) (by decide) (backOf (W := 0) (own_rm1_n3 l Z a0 hw [] b8 v77 a45 hg45 n0 Zz_3 F_6 g_b8) hZ (hw _ (List.mem_of_getElem? (i := 5) rfl)) (hw _ (List.mem_of_getElem? (i := 4) rfl)) (by decide) (by decide)) (g := (mkF m 83 #[.val (.long q0), .second, .val (.long q1), .second, .val (.long q2), .second, .val (.int p3), .val (.int p4), .val (.int (3 : Int32)), .val (.ref b8), .val (.int v53), .val (.long v77), .second, .unset] [(.long v77), (.ref b8)])) rfl (by rw [hml]; rfl) (argsL := [(.ref b8), (.long v77)]) (rest := []) (lenOf own_pd1 rfl) rfl (by show 2 * 0 + _ ≤ _; exact Nat.le_of_eq rfl) (hb hby at_83) (fun _ _ => ⟨rfl, eg45, (by decide : 1 + 0 ≤ _), (by decide : 3 + 0 ≤ _)⟩)
    dsimp only [Pt.U, Pt.locs, Pt.cells, Pt.slots] at Xg83 lg83 yg83 zg83 stg83 hQg83
    subst lg83 yg83 zg83
    obtain ⟨rfl, Ng83q, Kg83, F_7⟩ := hQg83
    have Zz_4 : n0 ≤ Tg83.heap.size := Nat.le_trans Zz_3 Kg83.1
    obtain ⟨a83, ha83⟩ : ∃ z : Nat → Int64, z = (if ((v77 &&& (63 : Int64)).toInt32) = (0 : Int32) then a45 else (fun i => if i = 2 then ((a45 2) &&& ((-1 : Int64) <<< (((64 : Int32) - ((v77 &&& (63 : Int64)).toInt32)) &&& 0x3f).toInt64)) else a45 i)) := ⟨_, rfl⟩
    have F_8 : own_RayJ Z Tg83.heap b8 3 a83 := by subst ha83; exact F_7
    have Ng83 := Fr.app Ng45 Ng83q
    refine own_st (stg83) ?_
    refine own_st (B := Tg83.setTop (mkF m 88 #[.val (.long q0), .second, .val (.long q1), .second, .val (.long q2), .second, .val (.int p3), .val (.int p4), .val (.int (3 : Int32)), .val (.ref b8), .val (.int v53), .val (.long v77), .second, .unset] [(.ref b8)])) (fun target kt => ?_) ?_
    · show Steps p.tables e below (Tg83.setTop (mkF m 86 #[.val (.long q0), .second, .val (.long q1), .second, .val (.long q2), .second, .val (.int p3), .val (.int p4), .val (.int (3 : Int32)), .val (.ref b8), .val (.int v53), .val (.long v77), .second, .unset] [])) target
      refine XS.aload Xg83.here hx rfl (hb hby at_86) rfl rfl ?_
      exact kt
    obtain ⟨clg88, Arg88, Szg88, -⟩ := id F_8
    refine own_st (B := Tg83.setTop (mkF m 89 #[.val (.long q0), .second, .val (.long q1), .second, .val (.long q2), .second, .val (.int p3), .val (.int p4), .val (.int (3 : Int32)), .val (.ref b8), .val (.int v53), .val (.long v77), .second, .unset] [(.int (3 : Int32))])) (fun target kt => ?_) ?_
    · refine Xg83.arraylength hx (by first | exact Arg88.1 | (rw [rfl]; exact Arg88.1)) (State.isArrayOf_alike hZ.alike Arg88.2.1) (g := (mkF m 88 #[.val (.long q0), .second, .val (.long q1), .second, .val (.long q2), .second, .val (.int p3), .val (.int p4), .val (.int (3 : Int32)), .val (.ref b8), .val (.int v53), .val (.long v77), .second, .unset] [(.ref b8)])) rfl rfl (hb hby at_88) _ ?_
      rw [Szg88]
      exact kt
    refine own_st (B := Tg83.setTop (mkF m 113 #[.val (.long q0), .second, .val (.long q1), .second, .val (.long q2), .second, .val (.int p3), .val (.int p4), .val (.int (3 : Int32)), .val (.ref b8), .val (.int v53), .val (.long v77), .second, .val (.int (1 : Int32))] [(.int (0 : Int32)), (.ref b8)])) (fun target kt => ?_) ?_
    · show Steps p.tables e below (Tg83.setTop (mkF m 89 #[.val (.long q0), .second, .val (.long q1), .second, .val (.long q2), .second, .val (.int p3), .val (.int p4), .val (.int (3 : Int32)), .val (.ref b8), .val (.int v53), .val (.long v77), .second, .unset] [(.int (3 : Int32))])) target
      refine XS.iload Xg83.here hx rfl (hb hby at_89) rfl ?_
      show Steps p.tables e below (Tg83.setTop (mkF m 91 #[.val (.long q0), .second, .val (.long q1), .second, .val (.long q2), .second, .val (.int p3), .val (.int p4), .val (.int (3 : Int32)), .val (.ref b8), .val (.int v53), .val (.long v77), .second, .unset] [(.int (3 : Int32)), (.int (3 : Int32))])) target
      refine XS.icmpYes Xg83.here hx rfl (pc0 := 91) (pc' := 96) rfl (hb hby at_91) rfl (teq (by decide : (3 : Int32) = (3 : Int32))).1 (by decide) (by decide) ?_
      show Steps p.tables e below (Tg83.setTop (mkF m 96 #[.val (.long q0), .second, .val (.long q1), .second, .val (.long q2), .second, .val (.int p3), .val (.int p4), .val (.int (3 : Int32)), .val (.ref b8), .val (.int v53), .val (.long v77), .second, .unset] [])) target
      refine XS.iconst Xg83.here hx rfl (hb hby at_96) ?_
      show Steps p.tables e below (Tg83.setTop (mkF m 97 #[.val (.long q0), .second, .val (.long q1), .second, .val (.long q2), .second, .val (.int p3), .val (.int p4), .val (.int (3 : Int32)), .val (.ref b8), .val (.int v53), .val (.long v77), .second, .unset] [(.int (1 : Int32))])) target
      refine XS.istore Xg83.here hx rfl (hb hby at_97) rfl (l' := #[.val (.long q0), .second, .val (.long q1), .second, .val (.long q2), .second, .val (.int p3), .val (.int p4), .val (.int (3 : Int32)), .val (.ref b8), .val (.int v53), .val (.long v77), .second, .val (.int (1 : Int32))]) rfl ?_
      show Steps p.tables e below (Tg83.setTop (mkF m 99 #[.val (.long q0), .second, .val (.long q1), .second, .val (.long q2), .second, .val (.int p3), .val (.int p4), .val (.int (3 : Int32)), .val (.ref b8), .val (.int v53), .val (.long v77), .second, .val (.int (1 : Int32))] [])) target
      refine XS.iload Xg83.here hx rfl (hb hby at_99) rfl ?_
      show Steps p.tables e below (Tg83.setTop (mkF m 101 #[.val (.long q0), .second, .val (.long q1), .second, .val (.long q2), .second, .val (.int p3), .val (.int p4), .val (.int (3 : Int32)), .val (.ref b8), .val (.int v53), .val (.long v77), .second, .val (.int (1 : Int32))] [(.int (3 : Int32))])) target
      refine XS.iconst Xg83.here hx rfl (hb hby at_101) ?_
      show Steps p.tables e below (Tg83.setTop (mkF m 102 #[.val (.long q0), .second, .val (.long q1), .second, .val (.long q2), .second, .val (.int p3), .val (.int p4), .val (.int (3 : Int32)), .val (.ref b8), .val (.int v53), .val (.long v77), .second, .val (.int (1 : Int32))] [(.int (1 : Int32)), (.int (3 : Int32))])) target
      refine XS.icmpNo Xg83.here hx rfl (hb hby at_102) rfl (flt (by decide : ¬ ((3 : Int32) < (1 : Int32)))).1 ?_
      show Steps p.tables e below (Tg83.setTop (mkF m 105 #[.val (.long q0), .second, .val (.long q1), .second, .val (.long q2), .second, .val (.int p3), .val (.int p4), .val (.int (3 : Int32)), .val (.ref b8), .val (.int v53), .val (.long v77), .second, .val (.int (1 : Int32))] [])) target
      refine XS.iload Xg83.here hx rfl (hb hby at_105) rfl ?_
      show Steps p.tables e below (Tg83.setTop (mkF m 107 #[.val (.long q0), .second, .val (.long q1), .second, .val (.long q2), .second, .val (.int p3), .val (.int p4), .val (.int (3 : Int32)), .val (.ref b8), .val (.int v53), .val (.long v77), .second, .val (.int (1 : Int32))] [(.int (1 : Int32))])) target
      refine XS.ifNo Xg83.here hx rfl (hb hby at_107) rfl ((if0 _ _).trans (feq (by decide : ¬ ((1 : Int32) = (0 : Int32)))).1) ?_
      show Steps p.tables e below (Tg83.setTop (mkF m 110 #[.val (.long q0), .second, .val (.long q1), .second, .val (.long q2), .second, .val (.int p3), .val (.int p4), .val (.int (3 : Int32)), .val (.ref b8), .val (.int v53), .val (.long v77), .second, .val (.int (1 : Int32))] [])) target
      refine XS.aload Xg83.here hx rfl (hb hby at_110) rfl rfl ?_
      show Steps p.tables e below (Tg83.setTop (mkF m 112 #[.val (.long q0), .second, .val (.long q1), .second, .val (.long q2), .second, .val (.int p3), .val (.int p4), .val (.int (3 : Int32)), .val (.ref b8), .val (.int v53), .val (.long v77), .second, .val (.int (1 : Int32))] [(.ref b8)])) target
      refine XS.iconst Xg83.here hx rfl (hb hby at_112) ?_
      exact kt
    obtain ⟨clg113, Arg113, Szg113, Atg113⟩ := id F_8
    have hing113 : ¬ ((0 : Int32) < 0 ∨ clg113.slots.size ≤ ((0 : Int32)).toNatClampNeg) := own_inb Szg113 (by decide)
    have hatg113 : clg113.slots[((0 : Int32)).toNatClampNeg]? = some (.long (a83 ((0 : Int32)).toNatClampNeg)) := own_RayJ_nth Atg113 Szg113 hing113
    refine own_st (B := Tg83.setTop (mkF m 114 #[.val (.long q0), .second, .val (.long q1), .second, .val (.long q2), .second, .val (.int p3), .val (.int p4), .val (.int (3 : Int32)), .val (.ref b8), .val (.int v53), .val (.long v77), .second, .val (.int (1 : Int32))] [(.long (a83 0))])) (fun target kt => ?_) ?_
    · refine Xg83.laload hx (j := (0 : Int32)) (v := (.long (a83 ((0 : Int32)).toNatClampNeg))) (by first | exact Arg113.1 | (rw [rfl]; exact Arg113.1)) (State.isArrayOf_alike hZ.alike Arg113.2.1) Arg113.2.2 hing113 hatg113 (g := (mkF m 113 #[.val (.long q0), .second, .val (.long q1), .second, .val (.long q2), .second, .val (.int p3), .val (.int p4), .val (.int (3 : Int32)), .val (.ref b8), .val (.int v53), .val (.long v77), .second, .val (.int (1 : Int32))] [(.int (0 : Int32)), (.ref b8)])) rfl rfl (hb hby at_113) _ ?_
      exact kt
    refine own_st (B := Tg83.setTop (mkF m 120 #[.val (.long q0), .second, .val (.long q1), .second, .val (.long q2), .second, .val (.int p3), .val (.int p4), .val (.int (3 : Int32)), .val (.ref b8), .val (.int v53), .val (.long v77), .second, .val (.int (1 : Int32))] [(.int v53), (.int (3 : Int32)), (.int (0 : Int32)), (.long q0), (.long (a83 0))])) (fun target kt => ?_) ?_
    · show Steps p.tables e below (Tg83.setTop (mkF m 114 #[.val (.long q0), .second, .val (.long q1), .second, .val (.long q2), .second, .val (.int p3), .val (.int p4), .val (.int (3 : Int32)), .val (.ref b8), .val (.int v53), .val (.long v77), .second, .val (.int (1 : Int32))] [(.long (a83 0))])) target
      refine XS.lloadN Xg83.here hx rfl (hb hby at_114) rfl ?_
      show Steps p.tables e below (Tg83.setTop (mkF m 115 #[.val (.long q0), .second, .val (.long q1), .second, .val (.long q2), .second, .val (.int p3), .val (.int p4), .val (.int (3 : Int32)), .val (.ref b8), .val (.int v53), .val (.long v77), .second, .val (.int (1 : Int32))] [(.long q0), (.long (a83 0))])) target
      refine XS.iconst Xg83.here hx rfl (hb hby at_115) ?_
      show Steps p.tables e below (Tg83.setTop (mkF m 116 #[.val (.long q0), .second, .val (.long q1), .second, .val (.long q2), .second, .val (.int p3), .val (.int p4), .val (.int (3 : Int32)), .val (.ref b8), .val (.int v53), .val (.long v77), .second, .val (.int (1 : Int32))] [(.int (0 : Int32)), (.long q0), (.long (a83 0))])) target
      refine XS.iload Xg83.here hx rfl (hb hby at_116) rfl ?_
      show Steps p.tables e below (Tg83.setTop (mkF m 118 #[.val (.long q0), .second, .val (.long q1), .second, .val (.long q2), .second, .val (.int p3), .val (.int p4), .val (.int (3 : Int32)), .val (.ref b8), .val (.int v53), .val (.long v77), .second, .val (.int (1 : Int32))] [(.int (3 : Int32)), (.int (0 : Int32)), (.long q0), (.long (a83 0))])) target
      refine XS.iload Xg83.here hx rfl (hb hby at_118) rfl ?_
      exact kt
    obtain ⟨_, _, ⟨Tg120, Lg120, kg120, ng120⟩, -, Xg120, ⟨Lcg120, hQg120, lg120, yg120, zg120⟩, stg120⟩ := Jvm.LawKit.callS Xg83 hx (y := (⟨"com/example/barnacle/barnacle/WordBytesClearPastPinLaw", "expected", "(JIII)J"⟩ : MethodName)) hown (mvT hZ (hw _ (List.mem_of_getElem? (i := 8) rfl))) (mvT hZ (hw _ (List.mem_of_getElem? (i := 9) rfl))) (mvT hZ (hw _ (List.mem_of_getElem? (i := 10) rfl))) (mvT hZ (hw _ (List.mem_of_getElem? (i := 11) rfl))) (by decide) (backOf (W := 2) (own_rm2 l Z a0 hw [] q0 (0 : Int32) (3 : Int32) v53 Tg83.heap n0 Zz_4) hZ (hw _ (List.mem_of_getElem? (i := 11) rfl)) (hw _ (List.mem_of_getElem? (i := 10) rfl)) (by decide) (by decide)) (g := (mkF m 120 #[.val (.long q0), .second, .val (.long q1), .second, .val (.long q2), .second, .val (.int p3), .val (.int p4), .val (.int (3 : Int32)), .val (.ref b8), .val (.int v53), .val (.long v77), .second, .val (.int (1 : Int32))] [(.int v53), (.int (3 : Int32)), (.int (0 : Int32)), (.long q0), (.long (a83 0))])) rfl (by rw [hml]; rfl) (argsL := [(.long q0), (.int (0 : Int32)), (.int (3 : Int32)), (.int v53)]) (rest := [(.long (a83 0))]) (lenOf own_pd2 rfl) rfl (by show 2 * 0 + _ ≤ _; exact Nat.le_of_eq rfl) (hb hby at_120) (fun _ _ => ⟨rfl, rfl, (by decide : 1 + 0 ≤ _), (by decide : 3 + 0 ≤ _)⟩)
    dsimp only [Pt.U, Pt.locs, Pt.cells, Pt.slots] at Xg120 lg120 yg120 zg120 stg120 hQg120
    subst lg120 yg120 zg120
    obtain ⟨rfl, Ng120q, eg120⟩ := hQg120
    have Ng120 := Fr.app Ng83 Ng120q
    refine own_st (stg120) ?_
    refine own_st (B := Tg120.setTop (mkF m 124 #[.val (.long q0), .second, .val (.long q1), .second, .val (.long q2), .second, .val (.int p3), .val (.int p4), .val (.int (3 : Int32)), .val (.ref b8), .val (.int v53), .val (.long v77), .second, .val (.int (1 : Int32))] [(.int (lcmpW (a83 0) (if (0 : Int32) < ((3 : Int32) - (1 : Int32)) then q0 else (if v53 < (64 : Int32) then (((q0.toUInt64 >>> ((((64 : Int32) - v53)) &&& 0x3f).toInt64.toUInt64).toInt64) <<< ((((64 : Int32) - v53)) &&& 0x3f).toInt64) else q0))))])) (fun target kt => ?_) ?_
    · show Steps p.tables e below (Tg120.setTop (mkF m 123 #[.val (.long q0), .second, .val (.long q1), .second, .val (.long q2), .second, .val (.int p3), .val (.int p4), .val (.int (3 : Int32)), .val (.ref b8), .val (.int v53), .val (.long v77), .second, .val (.int (1 : Int32))] [(.long (if (0 : Int32) < ((3 : Int32) - (1 : Int32)) then q0 else (if v53 < (64 : Int32) then (((q0.toUInt64 >>> ((((64 : Int32) - v53)) &&& 0x3f).toInt64.toUInt64).toInt64) <<< ((((64 : Int32) - v53)) &&& 0x3f).toInt64) else q0))), (.long (a83 0))])) target
      refine XS.lcmp Xg120.here hx rfl (hb hby at_123) rfl ?_
      exact kt
    have c124 : (a83 0) = (if (0 : Int32) < ((3 : Int32) - (1 : Int32)) then q0 else (if v53 < (64 : Int32) then (((q0.toUInt64 >>> ((((64 : Int32) - v53)) &&& 0x3f).toInt64.toUInt64).toInt64) <<< ((((64 : Int32) - v53)) &&& 0x3f).toInt64) else q0)) := by
      rw [if_pos (by decide), ha83]
      by_cases hC : ((v77 &&& (63 : Int64)).toInt32) = (0 : Int32)
      · rw [if_pos hC]; simp [ha45, ha33, ha22]
      · rw [if_neg hC]; simp [ha45, ha33, ha22]
    refine own_st (B := Tg120.setTop (mkF m 148 #[.val (.long q0), .second, .val (.long q1), .second, .val (.long q2), .second, .val (.int p3), .val (.int p4), .val (.int (3 : Int32)), .val (.ref b8), .val (.int v53), .val (.long v77), .second, .val (.int (1 : Int32))] [(.int (1 : Int32)), (.ref b8)])) (fun target kt => ?_) ?_
    · show Steps p.tables e below (Tg120.setTop (mkF m 124 #[.val (.long q0), .second, .val (.long q1), .second, .val (.long q2), .second, .val (.int p3), .val (.int p4), .val (.int (3 : Int32)), .val (.ref b8), .val (.int v53), .val (.long v77), .second, .val (.int (1 : Int32))] [(.int (lcmpW (a83 0) (if (0 : Int32) < ((3 : Int32) - (1 : Int32)) then q0 else (if v53 < (64 : Int32) then (((q0.toUInt64 >>> ((((64 : Int32) - v53)) &&& 0x3f).toInt64.toUInt64).toInt64) <<< ((((64 : Int32) - v53)) &&& 0x3f).toInt64) else q0))))])) target
      refine XS.ifNo Xg120.here hx rfl (hb hby at_124) rfl ((if0 _ _).trans (teq ((lw_eq (a83 0) (if (0 : Int32) < ((3 : Int32) - (1 : Int32)) then q0 else (if v53 < (64 : Int32) then (((q0.toUInt64 >>> ((((64 : Int32) - v53)) &&& 0x3f).toInt64.toUInt64).toInt64) <<< ((((64 : Int32) - v53)) &&& 0x3f).toInt64) else q0))).mpr c124)).2) ?_
      show Steps p.tables e below (Tg120.setTop (mkF m 127 #[.val (.long q0), .second, .val (.long q1), .second, .val (.long q2), .second, .val (.int p3), .val (.int p4), .val (.int (3 : Int32)), .val (.ref b8), .val (.int v53), .val (.long v77), .second, .val (.int (1 : Int32))] [])) target
      refine XS.iconst Xg120.here hx rfl (hb hby at_127) ?_
      show Steps p.tables e below (Tg120.setTop (mkF m 128 #[.val (.long q0), .second, .val (.long q1), .second, .val (.long q2), .second, .val (.int p3), .val (.int p4), .val (.int (3 : Int32)), .val (.ref b8), .val (.int v53), .val (.long v77), .second, .val (.int (1 : Int32))] [(.int (1 : Int32))])) target
      refine XS.goto Xg120.here hx rfl (pc0 := 128) (pc' := 132) rfl (hb hby at_128) (by decide) (by decide) ?_
      show Steps p.tables e below (Tg120.setTop (mkF m 132 #[.val (.long q0), .second, .val (.long q1), .second, .val (.long q2), .second, .val (.int p3), .val (.int p4), .val (.int (3 : Int32)), .val (.ref b8), .val (.int v53), .val (.long v77), .second, .val (.int (1 : Int32))] [(.int (1 : Int32))])) target
      refine XS.istore Xg120.here hx rfl (hb hby at_132) rfl (l' := #[.val (.long q0), .second, .val (.long q1), .second, .val (.long q2), .second, .val (.int p3), .val (.int p4), .val (.int (3 : Int32)), .val (.ref b8), .val (.int v53), .val (.long v77), .second, .val (.int (1 : Int32))]) rfl ?_
      show Steps p.tables e below (Tg120.setTop (mkF m 134 #[.val (.long q0), .second, .val (.long q1), .second, .val (.long q2), .second, .val (.int p3), .val (.int p4), .val (.int (3 : Int32)), .val (.ref b8), .val (.int v53), .val (.long v77), .second, .val (.int (1 : Int32))] [])) target
      refine XS.iload Xg120.here hx rfl (hb hby at_134) rfl ?_
      show Steps p.tables e below (Tg120.setTop (mkF m 136 #[.val (.long q0), .second, .val (.long q1), .second, .val (.long q2), .second, .val (.int p3), .val (.int p4), .val (.int (3 : Int32)), .val (.ref b8), .val (.int v53), .val (.long v77), .second, .val (.int (1 : Int32))] [(.int (3 : Int32))])) target
      refine XS.iconst Xg120.here hx rfl (hb hby at_136) ?_
      show Steps p.tables e below (Tg120.setTop (mkF m 137 #[.val (.long q0), .second, .val (.long q1), .second, .val (.long q2), .second, .val (.int p3), .val (.int p4), .val (.int (3 : Int32)), .val (.ref b8), .val (.int v53), .val (.long v77), .second, .val (.int (1 : Int32))] [(.int (2 : Int32)), (.int (3 : Int32))])) target
      refine XS.icmpNo Xg120.here hx rfl (hb hby at_137) rfl (flt (by decide : ¬ ((3 : Int32) < (2 : Int32)))).1 ?_
      show Steps p.tables e below (Tg120.setTop (mkF m 140 #[.val (.long q0), .second, .val (.long q1), .second, .val (.long q2), .second, .val (.int p3), .val (.int p4), .val (.int (3 : Int32)), .val (.ref b8), .val (.int v53), .val (.long v77), .second, .val (.int (1 : Int32))] [])) target
      refine XS.iload Xg120.here hx rfl (hb hby at_140) rfl ?_
      show Steps p.tables e below (Tg120.setTop (mkF m 142 #[.val (.long q0), .second, .val (.long q1), .second, .val (.long q2), .second, .val (.int p3), .val (.int p4), .val (.int (3 : Int32)), .val (.ref b8), .val (.int v53), .val (.long v77), .second, .val (.int (1 : Int32))] [(.int (1 : Int32))])) target
      refine XS.ifNo Xg120.here hx rfl (hb hby at_142) rfl ((if0 _ _).trans (feq (by decide : ¬ ((1 : Int32) = (0 : Int32)))).1) ?_
      show Steps p.tables e below (Tg120.setTop (mkF m 145 #[.val (.long q0), .second, .val (.long q1), .second, .val (.long q2), .second, .val (.int p3), .val (.int p4), .val (.int (3 : Int32)), .val (.ref b8), .val (.int v53), .val (.long v77), .second, .val (.int (1 : Int32))] [])) target
      refine XS.aload Xg120.here hx rfl (hb hby at_145) rfl rfl ?_
      show Steps p.tables e below (Tg120.setTop (mkF m 147 #[.val (.long q0), .second, .val (.long q1), .second, .val (.long q2), .second, .val (.int p3), .val (.int p4), .val (.int (3 : Int32)), .val (.ref b8), .val (.int v53), .val (.long v77), .second, .val (.int (1 : Int32))] [(.ref b8)])) target
      refine XS.iconst Xg120.here hx rfl (hb hby at_147) ?_
      exact kt
    obtain ⟨clg148, Arg148, Szg148, Atg148⟩ := id F_8
    have hing148 : ¬ ((1 : Int32) < 0 ∨ clg148.slots.size ≤ ((1 : Int32)).toNatClampNeg) := own_inb Szg148 (by decide)
    have hatg148 : clg148.slots[((1 : Int32)).toNatClampNeg]? = some (.long (a83 ((1 : Int32)).toNatClampNeg)) := own_RayJ_nth Atg148 Szg148 hing148
    refine own_st (B := Tg120.setTop (mkF m 149 #[.val (.long q0), .second, .val (.long q1), .second, .val (.long q2), .second, .val (.int p3), .val (.int p4), .val (.int (3 : Int32)), .val (.ref b8), .val (.int v53), .val (.long v77), .second, .val (.int (1 : Int32))] [(.long (a83 1))])) (fun target kt => ?_) ?_
    · refine Xg120.laload hx (j := (1 : Int32)) (v := (.long (a83 ((1 : Int32)).toNatClampNeg))) (by first | exact Arg148.1 | (rw [eg120]; exact Arg148.1)) (State.isArrayOf_alike hZ.alike Arg148.2.1) Arg148.2.2 hing148 hatg148 (g := (mkF m 148 #[.val (.long q0), .second, .val (.long q1), .second, .val (.long q2), .second, .val (.int p3), .val (.int p4), .val (.int (3 : Int32)), .val (.ref b8), .val (.int v53), .val (.long v77), .second, .val (.int (1 : Int32))] [(.int (1 : Int32)), (.ref b8)])) rfl rfl (hb hby at_148) _ ?_
      exact kt
    refine own_st (B := Tg120.setTop (mkF m 155 #[.val (.long q0), .second, .val (.long q1), .second, .val (.long q2), .second, .val (.int p3), .val (.int p4), .val (.int (3 : Int32)), .val (.ref b8), .val (.int v53), .val (.long v77), .second, .val (.int (1 : Int32))] [(.int v53), (.int (3 : Int32)), (.int (1 : Int32)), (.long q1), (.long (a83 1))])) (fun target kt => ?_) ?_
    · show Steps p.tables e below (Tg120.setTop (mkF m 149 #[.val (.long q0), .second, .val (.long q1), .second, .val (.long q2), .second, .val (.int p3), .val (.int p4), .val (.int (3 : Int32)), .val (.ref b8), .val (.int v53), .val (.long v77), .second, .val (.int (1 : Int32))] [(.long (a83 1))])) target
      refine XS.lloadN Xg120.here hx rfl (hb hby at_149) rfl ?_
      show Steps p.tables e below (Tg120.setTop (mkF m 150 #[.val (.long q0), .second, .val (.long q1), .second, .val (.long q2), .second, .val (.int p3), .val (.int p4), .val (.int (3 : Int32)), .val (.ref b8), .val (.int v53), .val (.long v77), .second, .val (.int (1 : Int32))] [(.long q1), (.long (a83 1))])) target
      refine XS.iconst Xg120.here hx rfl (hb hby at_150) ?_
      show Steps p.tables e below (Tg120.setTop (mkF m 151 #[.val (.long q0), .second, .val (.long q1), .second, .val (.long q2), .second, .val (.int p3), .val (.int p4), .val (.int (3 : Int32)), .val (.ref b8), .val (.int v53), .val (.long v77), .second, .val (.int (1 : Int32))] [(.int (1 : Int32)), (.long q1), (.long (a83 1))])) target
      refine XS.iload Xg120.here hx rfl (hb hby at_151) rfl ?_
      show Steps p.tables e below (Tg120.setTop (mkF m 153 #[.val (.long q0), .second, .val (.long q1), .second, .val (.long q2), .second, .val (.int p3), .val (.int p4), .val (.int (3 : Int32)), .val (.ref b8), .val (.int v53), .val (.long v77), .second, .val (.int (1 : Int32))] [(.int (3 : Int32)), (.int (1 : Int32)), (.long q1), (.long (a83 1))])) target
      refine XS.iload Xg120.here hx rfl (hb hby at_153) rfl ?_
      exact kt
    obtain ⟨_, _, ⟨Tg155, Lg155, kg155, ng155⟩, -, Xg155, ⟨Lcg155, hQg155, lg155, yg155, zg155⟩, stg155⟩ := Jvm.LawKit.callS Xg120 hx (y := (⟨"com/example/barnacle/barnacle/WordBytesClearPastPinLaw", "expected", "(JIII)J"⟩ : MethodName)) hown (mvT hZ (hw _ (List.mem_of_getElem? (i := 8) rfl))) (mvT hZ (hw _ (List.mem_of_getElem? (i := 9) rfl))) (mvT hZ (hw _ (List.mem_of_getElem? (i := 10) rfl))) (mvT hZ (hw _ (List.mem_of_getElem? (i := 11) rfl))) (by decide) (backOf (W := 2) (own_rm2 l Z a0 hw [] q1 (1 : Int32) (3 : Int32) v53 Tg83.heap n0 Zz_4) hZ (hw _ (List.mem_of_getElem? (i := 11) rfl)) (hw _ (List.mem_of_getElem? (i := 10) rfl)) (by decide) (by decide)) (g := (mkF m 155 #[.val (.long q0), .second, .val (.long q1), .second, .val (.long q2), .second, .val (.int p3), .val (.int p4), .val (.int (3 : Int32)), .val (.ref b8), .val (.int v53), .val (.long v77), .second, .val (.int (1 : Int32))] [(.int v53), (.int (3 : Int32)), (.int (1 : Int32)), (.long q1), (.long (a83 1))])) rfl (by rw [hml]; rfl) (argsL := [(.long q1), (.int (1 : Int32)), (.int (3 : Int32)), (.int v53)]) (rest := [(.long (a83 1))]) (lenOf own_pd2 rfl) rfl (by show 2 * 0 + _ ≤ _; exact Nat.le_of_eq rfl) (hb hby at_155) (fun _ _ => ⟨rfl, eg120, (by decide : 1 + 0 ≤ _), (by decide : 3 + 0 ≤ _)⟩)
    dsimp only [Pt.U, Pt.locs, Pt.cells, Pt.slots] at Xg155 lg155 yg155 zg155 stg155 hQg155
    subst lg155 yg155 zg155
    obtain ⟨rfl, Ng155q, eg155⟩ := hQg155
    have Ng155 := Fr.app Ng120 Ng155q
    refine own_st (stg155) ?_
    refine own_st (B := Tg155.setTop (mkF m 159 #[.val (.long q0), .second, .val (.long q1), .second, .val (.long q2), .second, .val (.int p3), .val (.int p4), .val (.int (3 : Int32)), .val (.ref b8), .val (.int v53), .val (.long v77), .second, .val (.int (1 : Int32))] [(.int (lcmpW (a83 1) (if (1 : Int32) < ((3 : Int32) - (1 : Int32)) then q1 else (if v53 < (64 : Int32) then (((q1.toUInt64 >>> ((((64 : Int32) - v53)) &&& 0x3f).toInt64.toUInt64).toInt64) <<< ((((64 : Int32) - v53)) &&& 0x3f).toInt64) else q1))))])) (fun target kt => ?_) ?_
    · show Steps p.tables e below (Tg155.setTop (mkF m 158 #[.val (.long q0), .second, .val (.long q1), .second, .val (.long q2), .second, .val (.int p3), .val (.int p4), .val (.int (3 : Int32)), .val (.ref b8), .val (.int v53), .val (.long v77), .second, .val (.int (1 : Int32))] [(.long (if (1 : Int32) < ((3 : Int32) - (1 : Int32)) then q1 else (if v53 < (64 : Int32) then (((q1.toUInt64 >>> ((((64 : Int32) - v53)) &&& 0x3f).toInt64.toUInt64).toInt64) <<< ((((64 : Int32) - v53)) &&& 0x3f).toInt64) else q1))), (.long (a83 1))])) target
      refine XS.lcmp Xg155.here hx rfl (hb hby at_158) rfl ?_
      exact kt
    have c159 : (a83 1) = (if (1 : Int32) < ((3 : Int32) - (1 : Int32)) then q1 else (if v53 < (64 : Int32) then (((q1.toUInt64 >>> ((((64 : Int32) - v53)) &&& 0x3f).toInt64.toUInt64).toInt64) <<< ((((64 : Int32) - v53)) &&& 0x3f).toInt64) else q1)) := by
      rw [if_pos (by decide), ha83]
      by_cases hC : ((v77 &&& (63 : Int64)).toInt32) = (0 : Int32)
      · rw [if_pos hC]; simp [ha45, ha33, ha22]
      · rw [if_neg hC]; simp [ha45, ha33, ha22]
    refine own_st (B := Tg155.setTop (mkF m 183 #[.val (.long q0), .second, .val (.long q1), .second, .val (.long q2), .second, .val (.int p3), .val (.int p4), .val (.int (3 : Int32)), .val (.ref b8), .val (.int v53), .val (.long v77), .second, .val (.int (1 : Int32))] [(.int (2 : Int32)), (.ref b8)])) (fun target kt => ?_) ?_
    · show Steps p.tables e below (Tg155.setTop (mkF m 159 #[.val (.long q0), .second, .val (.long q1), .second, .val (.long q2), .second, .val (.int p3), .val (.int p4), .val (.int (3 : Int32)), .val (.ref b8), .val (.int v53), .val (.long v77), .second, .val (.int (1 : Int32))] [(.int (lcmpW (a83 1) (if (1 : Int32) < ((3 : Int32) - (1 : Int32)) then q1 else (if v53 < (64 : Int32) then (((q1.toUInt64 >>> ((((64 : Int32) - v53)) &&& 0x3f).toInt64.toUInt64).toInt64) <<< ((((64 : Int32) - v53)) &&& 0x3f).toInt64) else q1))))])) target
      refine XS.ifNo Xg155.here hx rfl (hb hby at_159) rfl ((if0 _ _).trans (teq ((lw_eq (a83 1) (if (1 : Int32) < ((3 : Int32) - (1 : Int32)) then q1 else (if v53 < (64 : Int32) then (((q1.toUInt64 >>> ((((64 : Int32) - v53)) &&& 0x3f).toInt64.toUInt64).toInt64) <<< ((((64 : Int32) - v53)) &&& 0x3f).toInt64) else q1))).mpr c159)).2) ?_
      show Steps p.tables e below (Tg155.setTop (mkF m 162 #[.val (.long q0), .second, .val (.long q1), .second, .val (.long q2), .second, .val (.int p3), .val (.int p4), .val (.int (3 : Int32)), .val (.ref b8), .val (.int v53), .val (.long v77), .second, .val (.int (1 : Int32))] [])) target
      refine XS.iconst Xg155.here hx rfl (hb hby at_162) ?_
      show Steps p.tables e below (Tg155.setTop (mkF m 163 #[.val (.long q0), .second, .val (.long q1), .second, .val (.long q2), .second, .val (.int p3), .val (.int p4), .val (.int (3 : Int32)), .val (.ref b8), .val (.int v53), .val (.long v77), .second, .val (.int (1 : Int32))] [(.int (1 : Int32))])) target
      refine XS.goto Xg155.here hx rfl (pc0 := 163) (pc' := 167) rfl (hb hby at_163) (by decide) (by decide) ?_
      show Steps p.tables e below (Tg155.setTop (mkF m 167 #[.val (.long q0), .second, .val (.long q1), .second, .val (.long q2), .second, .val (.int p3), .val (.int p4), .val (.int (3 : Int32)), .val (.ref b8), .val (.int v53), .val (.long v77), .second, .val (.int (1 : Int32))] [(.int (1 : Int32))])) target
      refine XS.istore Xg155.here hx rfl (hb hby at_167) rfl (l' := #[.val (.long q0), .second, .val (.long q1), .second, .val (.long q2), .second, .val (.int p3), .val (.int p4), .val (.int (3 : Int32)), .val (.ref b8), .val (.int v53), .val (.long v77), .second, .val (.int (1 : Int32))]) rfl ?_
      show Steps p.tables e below (Tg155.setTop (mkF m 169 #[.val (.long q0), .second, .val (.long q1), .second, .val (.long q2), .second, .val (.int p3), .val (.int p4), .val (.int (3 : Int32)), .val (.ref b8), .val (.int v53), .val (.long v77), .second, .val (.int (1 : Int32))] [])) target
      refine XS.iload Xg155.here hx rfl (hb hby at_169) rfl ?_
      show Steps p.tables e below (Tg155.setTop (mkF m 171 #[.val (.long q0), .second, .val (.long q1), .second, .val (.long q2), .second, .val (.int p3), .val (.int p4), .val (.int (3 : Int32)), .val (.ref b8), .val (.int v53), .val (.long v77), .second, .val (.int (1 : Int32))] [(.int (3 : Int32))])) target
      refine XS.iconst Xg155.here hx rfl (hb hby at_171) ?_
      show Steps p.tables e below (Tg155.setTop (mkF m 172 #[.val (.long q0), .second, .val (.long q1), .second, .val (.long q2), .second, .val (.int p3), .val (.int p4), .val (.int (3 : Int32)), .val (.ref b8), .val (.int v53), .val (.long v77), .second, .val (.int (1 : Int32))] [(.int (3 : Int32)), (.int (3 : Int32))])) target
      refine XS.icmpNo Xg155.here hx rfl (hb hby at_172) rfl (flt (by decide : ¬ ((3 : Int32) < (3 : Int32)))).1 ?_
      show Steps p.tables e below (Tg155.setTop (mkF m 175 #[.val (.long q0), .second, .val (.long q1), .second, .val (.long q2), .second, .val (.int p3), .val (.int p4), .val (.int (3 : Int32)), .val (.ref b8), .val (.int v53), .val (.long v77), .second, .val (.int (1 : Int32))] [])) target
      refine XS.iload Xg155.here hx rfl (hb hby at_175) rfl ?_
      show Steps p.tables e below (Tg155.setTop (mkF m 177 #[.val (.long q0), .second, .val (.long q1), .second, .val (.long q2), .second, .val (.int p3), .val (.int p4), .val (.int (3 : Int32)), .val (.ref b8), .val (.int v53), .val (.long v77), .second, .val (.int (1 : Int32))] [(.int (1 : Int32))])) target
      refine XS.ifNo Xg155.here hx rfl (hb hby at_177) rfl ((if0 _ _).trans (feq (by decide : ¬ ((1 : Int32) = (0 : Int32)))).1) ?_
      show Steps p.tables e below (Tg155.setTop (mkF m 180 #[.val (.long q0), .second, .val (.long q1), .second, .val (.long q2), .second, .val (.int p3), .val (.int p4), .val (.int (3 : Int32)), .val (.ref b8), .val (.int v53), .val (.long v77), .second, .val (.int (1 : Int32))] [])) target
      refine XS.aload Xg155.here hx rfl (hb hby at_180) rfl rfl ?_
      show Steps p.tables e below (Tg155.setTop (mkF m 182 #[.val (.long q0), .second, .val (.long q1), .second, .val (.long q2), .second, .val (.int p3), .val (.int p4), .val (.int (3 : Int32)), .val (.ref b8), .val (.int v53), .val (.long v77), .second, .val (.int (1 : Int32))] [(.ref b8)])) target
      refine XS.iconst Xg155.here hx rfl (hb hby at_182) ?_
      exact kt
    obtain ⟨clg183, Arg183, Szg183, Atg183⟩ := id F_8
    have hing183 : ¬ ((2 : Int32) < 0 ∨ clg183.slots.size ≤ ((2 : Int32)).toNatClampNeg) := own_inb Szg183 (by decide)
    have hatg183 : clg183.slots[((2 : Int32)).toNatClampNeg]? = some (.long (a83 ((2 : Int32)).toNatClampNeg)) := own_RayJ_nth Atg183 Szg183 hing183
    refine own_st (B := Tg155.setTop (mkF m 184 #[.val (.long q0), .second, .val (.long q1), .second, .val (.long q2), .second, .val (.int p3), .val (.int p4), .val (.int (3 : Int32)), .val (.ref b8), .val (.int v53), .val (.long v77), .second, .val (.int (1 : Int32))] [(.long (a83 2))])) (fun target kt => ?_) ?_
    · refine Xg155.laload hx (j := (2 : Int32)) (v := (.long (a83 ((2 : Int32)).toNatClampNeg))) (by first | exact Arg183.1 | (rw [eg155]; exact Arg183.1)) (State.isArrayOf_alike hZ.alike Arg183.2.1) Arg183.2.2 hing183 hatg183 (g := (mkF m 183 #[.val (.long q0), .second, .val (.long q1), .second, .val (.long q2), .second, .val (.int p3), .val (.int p4), .val (.int (3 : Int32)), .val (.ref b8), .val (.int v53), .val (.long v77), .second, .val (.int (1 : Int32))] [(.int (2 : Int32)), (.ref b8)])) rfl rfl (hb hby at_183) _ ?_
      exact kt
    refine own_st (B := Tg155.setTop (mkF m 191 #[.val (.long q0), .second, .val (.long q1), .second, .val (.long q2), .second, .val (.int p3), .val (.int p4), .val (.int (3 : Int32)), .val (.ref b8), .val (.int v53), .val (.long v77), .second, .val (.int (1 : Int32))] [(.int v53), (.int (3 : Int32)), (.int (2 : Int32)), (.long q2), (.long (a83 2))])) (fun target kt => ?_) ?_
    · show Steps p.tables e below (Tg155.setTop (mkF m 184 #[.val (.long q0), .second, .val (.long q1), .second, .val (.long q2), .second, .val (.int p3), .val (.int p4), .val (.int (3 : Int32)), .val (.ref b8), .val (.int v53), .val (.long v77), .second, .val (.int (1 : Int32))] [(.long (a83 2))])) target
      refine XS.lload Xg155.here hx rfl (hb hby at_184) rfl ?_
      show Steps p.tables e below (Tg155.setTop (mkF m 186 #[.val (.long q0), .second, .val (.long q1), .second, .val (.long q2), .second, .val (.int p3), .val (.int p4), .val (.int (3 : Int32)), .val (.ref b8), .val (.int v53), .val (.long v77), .second, .val (.int (1 : Int32))] [(.long q2), (.long (a83 2))])) target
      refine XS.iconst Xg155.here hx rfl (hb hby at_186) ?_
      show Steps p.tables e below (Tg155.setTop (mkF m 187 #[.val (.long q0), .second, .val (.long q1), .second, .val (.long q2), .second, .val (.int p3), .val (.int p4), .val (.int (3 : Int32)), .val (.ref b8), .val (.int v53), .val (.long v77), .second, .val (.int (1 : Int32))] [(.int (2 : Int32)), (.long q2), (.long (a83 2))])) target
      refine XS.iload Xg155.here hx rfl (hb hby at_187) rfl ?_
      show Steps p.tables e below (Tg155.setTop (mkF m 189 #[.val (.long q0), .second, .val (.long q1), .second, .val (.long q2), .second, .val (.int p3), .val (.int p4), .val (.int (3 : Int32)), .val (.ref b8), .val (.int v53), .val (.long v77), .second, .val (.int (1 : Int32))] [(.int (3 : Int32)), (.int (2 : Int32)), (.long q2), (.long (a83 2))])) target
      refine XS.iload Xg155.here hx rfl (hb hby at_189) rfl ?_
      exact kt
    obtain ⟨_, _, ⟨Tg191, Lg191, kg191, ng191⟩, -, Xg191, ⟨Lcg191, hQg191, lg191, yg191, zg191⟩, stg191⟩ := Jvm.LawKit.callS Xg155 hx (y := (⟨"com/example/barnacle/barnacle/WordBytesClearPastPinLaw", "expected", "(JIII)J"⟩ : MethodName)) hown (mvT hZ (hw _ (List.mem_of_getElem? (i := 8) rfl))) (mvT hZ (hw _ (List.mem_of_getElem? (i := 9) rfl))) (mvT hZ (hw _ (List.mem_of_getElem? (i := 10) rfl))) (mvT hZ (hw _ (List.mem_of_getElem? (i := 11) rfl))) (by decide) (backOf (W := 2) (own_rm2 l Z a0 hw [] q2 (2 : Int32) (3 : Int32) v53 Tg83.heap n0 Zz_4) hZ (hw _ (List.mem_of_getElem? (i := 11) rfl)) (hw _ (List.mem_of_getElem? (i := 10) rfl)) (by decide) (by decide)) (g := (mkF m 191 #[.val (.long q0), .second, .val (.long q1), .second, .val (.long q2), .second, .val (.int p3), .val (.int p4), .val (.int (3 : Int32)), .val (.ref b8), .val (.int v53), .val (.long v77), .second, .val (.int (1 : Int32))] [(.int v53), (.int (3 : Int32)), (.int (2 : Int32)), (.long q2), (.long (a83 2))])) rfl (by rw [hml]; rfl) (argsL := [(.long q2), (.int (2 : Int32)), (.int (3 : Int32)), (.int v53)]) (rest := [(.long (a83 2))]) (lenOf own_pd2 rfl) rfl (by show 2 * 0 + _ ≤ _; exact Nat.le_of_eq rfl) (hb hby at_191) (fun _ _ => ⟨rfl, eg155, (by decide : 1 + 0 ≤ _), (by decide : 3 + 0 ≤ _)⟩)
    dsimp only [Pt.U, Pt.locs, Pt.cells, Pt.slots] at Xg191 lg191 yg191 zg191 stg191 hQg191
    subst lg191 yg191 zg191
    obtain ⟨rfl, Ng191q, eg191⟩ := hQg191
    have Ng191 := Fr.app Ng155 Ng191q
    refine own_st (stg191) ?_
    refine own_st (B := Tg191.setTop (mkF m 195 #[.val (.long q0), .second, .val (.long q1), .second, .val (.long q2), .second, .val (.int p3), .val (.int p4), .val (.int (3 : Int32)), .val (.ref b8), .val (.int v53), .val (.long v77), .second, .val (.int (1 : Int32))] [(.int (lcmpW (a83 2) (if (2 : Int32) < ((3 : Int32) - (1 : Int32)) then q2 else (if v53 < (64 : Int32) then (((q2.toUInt64 >>> ((((64 : Int32) - v53)) &&& 0x3f).toInt64.toUInt64).toInt64) <<< ((((64 : Int32) - v53)) &&& 0x3f).toInt64) else q2))))])) (fun target kt => ?_) ?_
    · show Steps p.tables e below (Tg191.setTop (mkF m 194 #[.val (.long q0), .second, .val (.long q1), .second, .val (.long q2), .second, .val (.int p3), .val (.int p4), .val (.int (3 : Int32)), .val (.ref b8), .val (.int v53), .val (.long v77), .second, .val (.int (1 : Int32))] [(.long (if (2 : Int32) < ((3 : Int32) - (1 : Int32)) then q2 else (if v53 < (64 : Int32) then (((q2.toUInt64 >>> ((((64 : Int32) - v53)) &&& 0x3f).toInt64.toUInt64).toInt64) <<< ((((64 : Int32) - v53)) &&& 0x3f).toInt64) else q2))), (.long (a83 2))])) target
      refine XS.lcmp Xg191.here hx rfl (hb hby at_194) rfl ?_
      exact kt
    have c195 : (a83 2) = (if (2 : Int32) < ((3 : Int32) - (1 : Int32)) then q2 else (if v53 < (64 : Int32) then (((q2.toUInt64 >>> ((((64 : Int32) - v53)) &&& 0x3f).toInt64.toUInt64).toInt64) <<< ((((64 : Int32) - v53)) &&& 0x3f).toInt64) else q2)) := by
      rw [if_neg (by decide), ← own_last q2 p4 v53 (128 : Int64) v77 (by decide) hv53 hv77, ha83]
      by_cases hC : ((v77 &&& (63 : Int64)).toInt32) = (0 : Int32)
      · rw [if_pos hC, if_pos hC]; simp [ha45, ha33, ha22]
      · rw [if_neg hC, if_neg hC]; simp [ha45, ha33, ha22]
    refine own_st (B := Tg191.setTop (mkF m 207 #[.val (.long q0), .second, .val (.long q1), .second, .val (.long q2), .second, .val (.int p3), .val (.int p4), .val (.int (3 : Int32)), .val (.ref b8), .val (.int v53), .val (.long v77), .second, .val (.int (1 : Int32))] [(.int (1 : Int32))])) (fun target kt => ?_) ?_
    · show Steps p.tables e below (Tg191.setTop (mkF m 195 #[.val (.long q0), .second, .val (.long q1), .second, .val (.long q2), .second, .val (.int p3), .val (.int p4), .val (.int (3 : Int32)), .val (.ref b8), .val (.int v53), .val (.long v77), .second, .val (.int (1 : Int32))] [(.int (lcmpW (a83 2) (if (2 : Int32) < ((3 : Int32) - (1 : Int32)) then q2 else (if v53 < (64 : Int32) then (((q2.toUInt64 >>> ((((64 : Int32) - v53)) &&& 0x3f).toInt64.toUInt64).toInt64) <<< ((((64 : Int32) - v53)) &&& 0x3f).toInt64) else q2))))])) target
      refine XS.ifNo Xg191.here hx rfl (hb hby at_195) rfl ((if0 _ _).trans (teq ((lw_eq (a83 2) (if (2 : Int32) < ((3 : Int32) - (1 : Int32)) then q2 else (if v53 < (64 : Int32) then (((q2.toUInt64 >>> ((((64 : Int32) - v53)) &&& 0x3f).toInt64.toUInt64).toInt64) <<< ((((64 : Int32) - v53)) &&& 0x3f).toInt64) else q2))).mpr c195)).2) ?_
      show Steps p.tables e below (Tg191.setTop (mkF m 198 #[.val (.long q0), .second, .val (.long q1), .second, .val (.long q2), .second, .val (.int p3), .val (.int p4), .val (.int (3 : Int32)), .val (.ref b8), .val (.int v53), .val (.long v77), .second, .val (.int (1 : Int32))] [])) target
      refine XS.iconst Xg191.here hx rfl (hb hby at_198) ?_
      show Steps p.tables e below (Tg191.setTop (mkF m 199 #[.val (.long q0), .second, .val (.long q1), .second, .val (.long q2), .second, .val (.int p3), .val (.int p4), .val (.int (3 : Int32)), .val (.ref b8), .val (.int v53), .val (.long v77), .second, .val (.int (1 : Int32))] [(.int (1 : Int32))])) target
      refine XS.goto Xg191.here hx rfl (pc0 := 199) (pc' := 203) rfl (hb hby at_199) (by decide) (by decide) ?_
      show Steps p.tables e below (Tg191.setTop (mkF m 203 #[.val (.long q0), .second, .val (.long q1), .second, .val (.long q2), .second, .val (.int p3), .val (.int p4), .val (.int (3 : Int32)), .val (.ref b8), .val (.int v53), .val (.long v77), .second, .val (.int (1 : Int32))] [(.int (1 : Int32))])) target
      refine XS.istore Xg191.here hx rfl (hb hby at_203) rfl (l' := #[.val (.long q0), .second, .val (.long q1), .second, .val (.long q2), .second, .val (.int p3), .val (.int p4), .val (.int (3 : Int32)), .val (.ref b8), .val (.int v53), .val (.long v77), .second, .val (.int (1 : Int32))]) rfl ?_
      show Steps p.tables e below (Tg191.setTop (mkF m 205 #[.val (.long q0), .second, .val (.long q1), .second, .val (.long q2), .second, .val (.int p3), .val (.int p4), .val (.int (3 : Int32)), .val (.ref b8), .val (.int v53), .val (.long v77), .second, .val (.int (1 : Int32))] [])) target
      refine XS.iload Xg191.here hx rfl (hb hby at_205) rfl ?_
      exact kt
    obtain ⟨fs, hr, hrun, hended, hW, hsame⟩ := Xg191.leave (v := some (.int (1 : Int32))) (fun h => by rw [Bd.returns] at h; cases h)
    have hend : Steps p.tables e below (Tg191.setTop (mkF m 207 #[.val (.long q0), .second, .val (.long q1), .second, .val (.long q2), .second, .val (.int p3), .val (.int p4), .val (.int (3 : Int32)), .val (.ref b8), .val (.int v53), .val (.long v77), .second, .val (.int (1 : Int32))] [(.int (1 : Int32))])) (Tg191.setFrames fs) := by
      exact retN Xg191 hx (t := .boolean) Bd.returns (by simp) (hb hby at_207) hr
    refine own_fin hend ⟨_, hrun, hended, _, _, rfl, ?_, ⟨_, rfl⟩, hW, hsame.mono (by decide) (by decide)⟩
    show own_Q0 Z q0 q1 q2 p3 p4 h0 n0 _ Tg191.heap _
    rw [eg191]
    exact ⟨rfl, Ng191⟩
set_option maxRecDepth 65536 in
set_option maxHeartbeats 40000000 in
theorem own_comes_1 {Post : Tables → Env → Array Value → State → Outcome → State → Prop} (hpost : ∀ tb e args s v u, (limb_1_1.after args s (.returned v) u = true ∧ limb_1_2.after args s (.returned v) u = true ∧ True) → FrameEnd s (.returned v) u (Jvm.fieldLocs frame_1_writes args s ++ Jvm.arrayLocs frame_1_arrays args s ++ Jvm.staticLocs frame_1_statics s) 16 128 → Post tb e args s (.returned v) u) :
    ArmFor flags0 classFile x code maxLocals ret World_1 tables_1 room_1 Calls_1 rest_1 Pre_1 Post := by
  intro l hfl _ _ p e ha hc hk s m args below hf hA hF happ hP
  obtain ⟨hcalls, hrest, hpre⟩ := hP
  obtain ⟨-, -, -, hnamed, -, -, -, hat⟩ := (Spec.applies_iff hf).mp happ
  obtain ⟨hg, hn⟩ := and_e (Cond.before_iff.mp (show (Jvm.Cond.and given_1 narrow_1).before args s = true from hpre))
  obtain ⟨g1, g2⟩ := and_e hg
  obtain ⟨g3, g4⟩ := and_e g2
  obtain ⟨g5, g6⟩ := and_e g4
  obtain ⟨g7, g8⟩ := and_e g6
  obtain ⟨g9, g10⟩ := and_e g8
  obtain ⟨w0, w1, w2, w3, w4, rfl⟩ : ∃ w0 w1 w2 w3 w4 : Value, args = #[w0, w1, w2, w3, w4] := by
    have hs : args.size = 5 := by simpa [Cond.value, given_1] using g1
    obtain ⟨L⟩ := args
    match L, hs with
    | [w0, w1, w2, w3, w4], _ => exact ⟨w0, w1, w2, w3, w4, rfl⟩
  have hw := fun d (hd : d ∈ tables_1) => atoms_spec (ws := Jvm.Cond.code x code maxLocals ret :: tables_1) hat d (List.mem_cons_of_mem _ hd)
  obtain ⟨i0, ei0⟩ := isL_v g3
  obtain rfl : w0 = (.long i0) := Option.some.inj ei0
  obtain ⟨i1, ei1⟩ := isL_v g5
  obtain rfl : w1 = (.long i1) := Option.some.inj ei1
  obtain ⟨i2, ei2⟩ := isL_v g7
  obtain rfl : w2 = (.long i2) := Option.some.inj ei2
  obtain ⟨i3, ei3⟩ := is_v g9
  obtain rfl : w3 = (.int i3) := Option.some.inj ei3
  obtain ⟨i4, ei4⟩ := is_v g10
  obtain rfl : w4 = (.int i4) := Option.some.inj ei4
  obtain ⟨n, o, h1, h2, h3, _, L, rfl, ⟨rfl, N⟩, hq⟩ := own_rm0 l s _ hw tables_1 i0 i1 i2 i3 i4 s.heap s.heap.size (Nat.le_refl _) p e ha hc hk s m _ below hf ((Spec.applies_iff_loose hf).mp happ).1 ⟨rfl, State.Warmed39.refl s, rfl⟩ trivial
  refine ⟨n, _, h1, h2, h3, hpost _ _ _ _ _ _ ⟨Cond.after_iff.mpr rfl, Cond.after_iff.mpr (eq_i res_at (Term.int_eval (1)) rfl), trivial⟩ ⟨hq.1, hq.2.1, (hq.2.2.sift fun y hy => Or.inr (N y hy)).mono (by decide) (by decide)⟩⟩
theorem main_1_1 : Claimed_1_1 := own_comes_1 fun _ _ _ _ _ _ h hF => ⟨h.1, hF⟩
theorem main_1_2 : Claimed_1_2 := own_comes_1 fun _ _ _ _ _ _ h hF => ⟨h.2.1, hF⟩
end Jvm.Pilot.@@N@@
namespace Jvm.Pilot.@@N@@
open Jvm Jvm.ClassFile Sem Op Lib Jvm.Free Jvm.Stand Jvm.Pilot.@@N@@.Jvm.D
/-! MADE BY PROGRAM (witnessworld.py) out of the Statement's table words and the real class files: 11 classes; the members and pool entries that the words name. The judged class is class 1, her method 3. -/
namespace start1
open Jvm.ClassFile
def u (s : String) : CpInfo := .utf8 (stringToUtf16 s)
/-- a pool by its gaps: so many unusable entries, then the entry; so many at the end -/
def gap : Nat → List CpInfo → List CpInfo
  | 0, r => r
  | n + 1, r => .unusable :: gap n r
def poolList (es : List (Nat × CpInfo)) (last : Nat) : List CpInfo := es.foldr (fun e r => gap e.1 (e.2 :: r)) (gap last [])
def pool (es : List (Nat × CpInfo)) (last : Nat) : Array CpInfo := ⟨poolList es last⟩
def fileOf (pool : Array CpInfo) (this : Nat) (attrs : Array Attribute := #[]) (ms : Array MethodInfo := #[]) (fl : Nat := 33) (sup : Nat := 0) (ifs : Array Nat := #[]) (fds : Array FieldInfo := #[]) : ClassFile where
  minorVersion := 0
  majorVersion := 65
  constantPool := pool
  accessFlags := fl
  thisClass := this
  superClass := sup
  interfaces := ifs
  fields := fds
  methods := ms
  attributes := attrs
def plain (name : String) (sup : Option ClassId) : Class where
  name := name
  kind := .ordinary
  loader := none
  accessFlags := 33
  super := sup
  interfaces := #[]
  cf := none
  fields := #[]
  methods := #[]
  instanceTypes := #[]
  staticTypes := #[]
  resolved := #[]
  callSites := []
  init := .initialized
  statics := none
  mirror := none

def pool0 : Array CpInfo := pool [(5, u "<init>"), (0, u "()V"), (1, .class_ 10), (1, u "java/lang/Object")] 113

def k0m0 : Method := { name := "<init>", desc := "()V", sig := { parameters := [], returnType := none }, accessFlags := 1, code := none }
/-- java/lang/Object -/
def k0 : Class := { plain "java/lang/Object" none with
  accessFlags := 33
  interfaces := #[]
  cf := some (fileOf pool0 8 #[] #[{ accessFlags := 1, nameIndex := 5, descriptorIndex := 6, attributes := #[] }] 33 0 #[] #[])
  fields := #[]
  methods := #[k0m0]
  instanceTypes := #[]
  staticTypes := #[]
  resolved := Array.replicate 124 none
  statics := none }

def pool1 : Array CpInfo := pool [(2, .class_ 4), (1, u "java/lang/Object"), (0, u "<init>"), (0, u "()V"), (0, .methodref 8 9), (0, .class_ 10), (0, .nameAndType 11 12), (0, u "com/example/barnacle/barnacle/WordBytesClearPastPinLaw"), (0, u "keep"), (0, u "(JI)J"), (0, .long 64), (1, .methodref 16 17), (0, .class_ 18), (0, .nameAndType 19 20), (0, u "com/example/barnacle/barnacle/WordBytes"), (0, u "clearPast"), (0, u "([JJ)V"), (0, .methodref 8 22), (0, .nameAndType 23 24), (0, u "expected"), (0, u "(JIII)J"), (3, u "law"), (0, u "(JJJII)Z")] 4

def k1m0 : Method := { name := "<init>", desc := "()V", sig := { parameters := [], returnType := none }, accessFlags := 2, code := none }
def k1c1 : Code := { maxStack := 3, maxLocals := 4, code := method_2_code, exceptionTable := #[], attributes := #[] }
def k1m1 : Method := { name := "keep", desc := "(JI)J", sig := { parameters := [.long, .int], returnType := some .long }, accessFlags := 10, code := some k1c1 }
def k1c2 : Code := { maxStack := 3, maxLocals := 5, code := method_3_code, exceptionTable := #[], attributes := #[] }
def k1m2 : Method := { name := "expected", desc := "(JIII)J", sig := { parameters := [.long, .int, .int, .int], returnType := some .long }, accessFlags := 10, code := some k1c2 }
def k1c3 : Code := { maxStack := 7, maxLocals := 14, code := code, exceptionTable := #[], attributes := #[] }
def k1m3 : Method := { name := "law", desc := "(JJJII)Z", sig := { parameters := [.long, .long, .long, .int, .int], returnType := some .boolean }, accessFlags := 9, code := some k1c3 }
/-- com/example/barnacle/barnacle/WordBytesClearPastPinLaw -/
def k1 : Class := { plain "com/example/barnacle/barnacle/WordBytesClearPastPinLaw" (some 0) with
  accessFlags := 49
  interfaces := #[]
  cf := some (fileOf pool1 8 #[] #[{ accessFlags := 2, nameIndex := 5, descriptorIndex := 6, attributes := #[] }, { accessFlags := 10, nameIndex := 11, descriptorIndex := 12, attributes := #[] }, { accessFlags := 10, nameIndex := 23, descriptorIndex := 24, attributes := #[] }, { accessFlags := 9, nameIndex := 28, descriptorIndex := 29, attributes := #[] }] 49 2 #[] #[])
  fields := #[]
  methods := #[k1m0, k1m1, k1m2, k1m3]
  instanceTypes := #[]
  staticTypes := #[]
  resolved := Array.replicate 34 none
  statics := none }

def pool2 : Array CpInfo := pool [(2, .class_ 4), (1, u "java/lang/Object"), (0, u "<init>"), (0, u "()V"), (2, .long 63), (8, .class_ 20), (1, u "com/example/barnacle/barnacle/WordBytes"), (35, .class_ 57), (0, u "com/example/barnacle/barnacle/WordBytes$Packer"), (2, u "([JJ)V"), (50, .long 18446744073709551615), (3, u "CHUNK_BYTES"), (0, u "I"), (1, u "EARLY_SHARE"), (14, u "clearPast")] 5

def k2m0 : Method := { name := "<init>", desc := "()V", sig := { parameters := [], returnType := none }, accessFlags := 2, code := none }
def k2c1 : Code := { maxStack := 8, maxLocals := 4, code := prog_28_method_8_code, exceptionTable := #[], attributes := #[] }
def k2m1 : Method := { name := "clearPast", desc := "([JJ)V", sig := { parameters := [(.array .long), .long], returnType := none }, accessFlags := 8, code := some k2c1 }
/-- com/example/barnacle/barnacle/WordBytes -/
def k2 : Class := { plain "com/example/barnacle/barnacle/WordBytes" (some 0) with
  accessFlags := 32
  interfaces := #[]
  cf := some (fileOf pool2 18 #[.nestMembers #[56]] #[{ accessFlags := 2, nameIndex := 5, descriptorIndex := 6, attributes := #[] }, { accessFlags := 8, nameIndex := 133, descriptorIndex := 60, attributes := #[] }] 32 2 #[] #[{ accessFlags := 26, nameIndex := 115, descriptorIndex := 116, attributes := #[] }, { accessFlags := 26, nameIndex := 118, descriptorIndex := 116, attributes := #[] }])
  fields := #[{ name := "CHUNK_BYTES", type := .int, accessFlags := 26, slot := 0, constantValue := 0 }, { name := "EARLY_SHARE", type := .int, accessFlags := 26, slot := 1, constantValue := 0 }]
  methods := #[k2m0, k2m1]
  instanceTypes := #[]
  staticTypes := #[.int, .int]
  resolved := Array.replicate 139 none
  statics := none }

def pool3 : Array CpInfo := pool [(1, u "java/lang/Cloneable"), (0, .class_ 1), (0, u "java/lang/Object"), (0, .class_ 3)] 3

/-- java/lang/Cloneable -/
def k3 : Class := { plain "java/lang/Cloneable" (some 0) with
  accessFlags := 1537
  interfaces := #[]
  cf := some (fileOf pool3 2 #[] #[] 1537 4 #[] #[])
  fields := #[]
  methods := #[]
  instanceTypes := #[]
  staticTypes := #[]
  resolved := Array.replicate 8 none
  statics := none }

def pool4 : Array CpInfo := pool [(1, u "java/io/Serializable"), (0, .class_ 1), (0, u "java/lang/Object"), (0, .class_ 3)] 3

/-- java/io/Serializable -/
def k4 : Class := { plain "java/io/Serializable" (some 0) with
  accessFlags := 1537
  interfaces := #[]
  cf := some (fileOf pool4 2 #[] #[] 1537 4 #[] #[])
  fields := #[]
  methods := #[]
  instanceTypes := #[]
  staticTypes := #[]
  resolved := Array.replicate 8 none
  statics := none }

/-- the primitive byte -/
def k5 : Class := { plain "byte" none with kind := .primitive 'B', accessFlags := 0x411 }
/-- [B -/
def k6 : Class := { plain "[B" (some 0) with kind := .array 5 .byte, interfaces := #[3, 4], accessFlags := 1041 }

/-- the primitive int -/
def k7 : Class := { plain "int" none with kind := .primitive 'I', accessFlags := 0x411 }
/-- [I -/
def k8 : Class := { plain "[I" (some 0) with kind := .array 7 .int, interfaces := #[3, 4], accessFlags := 1041 }

/-- the primitive long -/
def k9 : Class := { plain "long" none with kind := .primitive 'J', accessFlags := 0x411 }
/-- [J -/
def k10 : Class := { plain "[J" (some 0) with kind := .array 9 .long, interfaces := #[3, 4], accessFlags := 1041 }

def heap : Heap := #[]
def classes : Array Class := #[k0, k1, k2, k3, k4, k5, k6, k7, k8, k9, k10]
def interned : List (Array UInt16 × Addr) := []
def slotsUsed : Nat := 0
def theMethod : MethodId := ⟨1, 3⟩
def args0 : Array Value := #[.long 3, .long 4, .long 5, .int 6, .int 7]
def aboutOver (below : List Frame) : State where
  vm := { classes := classes, interned := interned.toArray }
  heap := heap
  slotsUsed := slotsUsed
  threads := #[{ frames := .invoking theMethod args0 :: below }]
def below0 : List Frame := [.native { method := ⟨0, 0⟩, args := #[] }]
def about1 : State := aboutOver below0
def p0 : Program := .bare "" "" ""
def e0 : Env := launch0.env 0 0 0
theorem w_frames : about1.frames = Frame.invoking theMethod args0 :: below0 := rfl
set_option maxRecDepth 65536 in
theorem w_args : argsFit about1.vm theMethod args0 = true := by decide +kernel
set_option maxRecDepth 65536 in
theorem w_heap : heapFits about1 = true := by decide +kernel
set_option maxRecDepth 65536 in
theorem w_runnable : about1.curStatus? = some .runnable := by decide +kernel
set_option maxRecDepth 65536 in
theorem w_alone : about1.alone = true := by decide +kernel
set_option maxRecDepth 65536 in
theorem w_named : about1.methodNamed? x = some theMethod := by decide +kernel
set_option maxRecDepth 65536 in
theorem w_hears : about1.hears theMethod below0 = true := by decide +kernel
set_option maxRecDepth 65536 in
theorem w_ripe : about1.ripe theMethod args0 below0 = true := by decide +kernel
theorem w_running : about1.status = .running := rfl
set_option maxRecDepth 65536 in
theorem w_room : about1.hasRoom e0.platform room_1 = true :=
  launch0.hasRoom_least _ room_1 (by decide +kernel) (by decide +kernel) (by decide +kernel) (by decide +kernel) (by decide +kernel) (by decide +kernel)
theorem allAtoms_all (ts : List Jvm.Cond) (a : Array Jvm.Value) (st : Jvm.State) : (allAtoms ts).before a st = ts.all (fun c => c.before a st) := by
  induction ts with
  | nil => rfl
  | cons c t ih =>
    show (Jvm.Cond.and c (allAtoms t)).before a st = _
    rw [Jvm.Cond.before_and, ih, List.all_cons]
def words1 : List Jvm.Cond := Jvm.Cond.code x code maxLocals ret :: tables_1
/-- a 'code' word, met by the world's own term for the bytes: nothing is compared byte by byte -/
theorem code_word {y : MethodName} {bytes : ByteArray} {mx : Nat} {rt : Option FieldType} {a : Array Value} {s : State} {m : MethodId} {meth : Method} {c : Code} (h1 : s.methodNamed? y = some m) (h2 : s.vm.method? m = some meth) (h3 : meth.code = some c) (h4 : c.code = bytes)
    (h5 : (c.maxLocals == mx && c.exceptionTable.isEmpty && decide (c.maxStack ≤ mostOperands) && decide (meth.sig.returnType = rt) && !meth.locks && decide (parseMethodDescriptor y.desc = some meth.sig)) = true) : (Jvm.Cond.code y bytes mx rt).before a s = true := by
  simp only [Bool.and_eq_true, beq_iff_eq, Bool.not_eq_true', decide_eq_true_eq] at h5
  obtain ⟨⟨⟨⟨⟨g1, g2⟩, g3⟩, g4⟩, g5⟩, g6⟩ := h5
  simp [Cond.before, Cond.holds, Cond.value, h1, h2, h3, h4, g1, g2, g3, g4, g5, g6]
def isCode : Jvm.Cond → Bool
  | .code _ _ _ _ => true
  | _ => false
theorem all_split {L : List Jvm.Cond} {P : Jvm.Cond → Bool} (h1 : L.all (fun c => isCode c || P c) = true) (h2 : ∀ c ∈ L.filter isCode, P c = true) : L.all P = true := by
  refine List.all_eq_true.mpr fun c hc => ?_
  have h := List.all_eq_true.mp h1 c hc
  rcases Bool.eq_false_or_eq_true (isCode c) with hi | hi
  · exact h2 c (List.mem_filter.mpr ⟨hc, hi⟩)
  · simpa [hi] using h
set_option maxRecDepth 65536 in
theorem w_c0 : (Jvm.Cond.code x code maxLocals ret).before args0 about1 = true := code_word (m := ⟨1, 3⟩) (meth := k1m3) (c := k1c3) (by decide +kernel) rfl rfl rfl (by decide +kernel)
set_option maxRecDepth 65536 in
theorem w_c1 : (Jvm.Cond.code ({ cls := "com/example/barnacle/barnacle/WordBytes", name := "clearPast", desc := "([JJ)V" } : Jvm.MethodName) prog_28_method_8_code (4 : Nat) (Option.none : Option Jvm.ClassFile.FieldType)).before args0 about1 = true := code_word (m := ⟨2, 1⟩) (meth := k2m1) (c := k2c1) (by decide +kernel) rfl rfl rfl (by decide +kernel)
set_option maxRecDepth 65536 in
theorem w_c2 : (Jvm.Cond.code ({ cls := "com/example/barnacle/barnacle/WordBytesClearPastPinLaw", name := "expected", desc := "(JIII)J" } : Jvm.MethodName) method_3_code (5 : Nat) (Option.some Jvm.ClassFile.FieldType.long)).before args0 about1 = true := code_word (m := ⟨1, 2⟩) (meth := k1m2) (c := k1c2) (by decide +kernel) rfl rfl rfl (by decide +kernel)
set_option maxRecDepth 65536 in
theorem w_c3 : (Jvm.Cond.code ({ cls := "com/example/barnacle/barnacle/WordBytesClearPastPinLaw", name := "keep", desc := "(JI)J" } : Jvm.MethodName) method_2_code (4 : Nat) (Option.some Jvm.ClassFile.FieldType.long)).before args0 about1 = true := code_word (m := ⟨1, 1⟩) (meth := k1m1) (c := k1c1) (by decide +kernel) rfl rfl rfl (by decide +kernel)
def codes1 : List Jvm.Cond := [Jvm.Cond.code x code maxLocals ret, Jvm.Cond.code ({ cls := "com/example/barnacle/barnacle/WordBytes", name := "clearPast", desc := "([JJ)V" } : Jvm.MethodName) prog_28_method_8_code (4 : Nat) (Option.none : Option Jvm.ClassFile.FieldType), Jvm.Cond.code ({ cls := "com/example/barnacle/barnacle/WordBytesClearPastPinLaw", name := "expected", desc := "(JIII)J" } : Jvm.MethodName) method_3_code (5 : Nat) (Option.some Jvm.ClassFile.FieldType.long), Jvm.Cond.code ({ cls := "com/example/barnacle/barnacle/WordBytesClearPastPinLaw", name := "keep", desc := "(JI)J" } : Jvm.MethodName) method_2_code (4 : Nat) (Option.some Jvm.ClassFile.FieldType.long)]
set_option maxRecDepth 65536 in
theorem codes_eq : words1.filter isCode = codes1 := rfl
theorem w_codes : ∀ c ∈ words1.filter isCode, c.before args0 about1 = true := by
  rw [codes_eq]
  intro c hc
  simp only [codes1, List.mem_cons, List.not_mem_nil, or_false] at hc
  rcases hc with rfl | rfl | rfl | rfl
  · exact w_c0
  · exact w_c1
  · exact w_c2
  · exact w_c3
set_option maxRecDepth 65536 in
theorem w_t1 : words1.all (fun c => isCode c || c.before args0 about1) = true := by decide +kernel
theorem w_tables : (allAtoms (Jvm.Cond.code x code maxLocals ret :: tables_1)).before args0 about1 = true := by
  rw [allAtoms_all]
  show words1.all (fun c => c.before args0 about1) = true
  refine all_split ?_ w_codes
  rw [w_t1]
set_option maxRecDepth 65536 in
theorem w_case : (Jvm.Cond.and given_1 narrow_1).before args0 about1 = true := by decide +kernel
theorem w_applies : (headSpec (Jvm.Cond.code x code maxLocals ret :: tables_1) room_1).applies x e0.platform about1 = true :=
  (Spec.applies_iff w_frames).mpr ⟨w_running, w_runnable, w_alone, w_named, w_hears, w_ripe, w_room, w_tables⟩
theorem atStart : AtStart classFile x code maxLocals ret World_1 tables_1 room_1 Calls_1 rest_1 Pre_1 launch0 p0 e0 about1 theMethod args0 below0 :=
  ⟨lists_1, trivial, launch0.admits_env _ _ _, launch0.least_env, fairChoices_fair.cas, fairChoices_fair.clock, w_frames, w_args, w_heap, w_applies, trivial, trivial, w_case⟩
end start1
theorem witness_1 : WitnessClaimed_1 := ⟨start1.p0, start1.e0, start1.about1, start1.theMethod, start1.args0, start1.below0, start1.atStart⟩
end Jvm.Pilot.@@N@@
