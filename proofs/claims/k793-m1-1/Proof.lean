import JvmDerived
import JvmDerived.Pilot.@@N@@Statement
import JvmDerived.Pilot.@@N@@Code
set_option linter.unusedVariables false
set_option linter.unusedSimpArgs false
namespace Jvm.RoadKit
open Sem ClassFile Op Lib Jvm.Stand Jvm.Free Jvm.LawKit
section New
variable {p : Program} {l : Launch} {e : Env} {R : Room} {s : State} {m : MethodId} {args : Array Value} {below : List Frame} {meth : Method} {c : Code} {T : State} {locs : List Loc} {cells slots : Nat}
theorem retI (X : Stand p l e R s m args below meth c T locs cells slots) (hx : p.tables.exec = Jvm.exec) {pc : Nat} {Ls : Array Slot} {z : Int32} {rest : List Value} (hret : meth.sig.returnType = some .int) (hd : decode c.code pc = .ok (.ireturn, 1)) {fs : List Frame}
    (hl : ∀ (f : JFrame) (acts : List Action), f.method = m → f.locked = none → f.entered = [] → (doReturn e (T.setTop f) acts (some (.int z))).1 = T.setFrames fs) : Steps p.tables e below (T.setTop (mkF m pc Ls (.int z :: rest))) (T.setFrames fs) := by
  have hm' : T.vm.method? m = some meth := X.method'
  have hn : narrow .int (.int z) = .int z := rfl
  show Steps p.tables e below (T.setTop { method := m, pc := pc, locals := Ls, stack := _ :: rest, locked := none }) _
  jvm_step X.here [X.here.top, hx, hd, hm', hret, hn]
  first | (intro acts; rw [hl _ acts rfl rfl rfl]) | rw [hl _ _ rfl rfl rfl]
  exact Steps.refl _
end New
/-- from the state A the run comes to a state that P describes -/
def own_Lead (tb : Tables) (e : Env) (below : List Frame) (A : State) (P : State → Prop) : Prop := ∃ B, P B ∧ ∀ t, Steps tb e below B t → Steps tb e below A t
theorem own_st {tb : Tables} {e : Env} {below : List Frame} {A B : State} {P : State → Prop} (st : ∀ t, Steps tb e below B t → Steps tb e below A t) (h : own_Lead tb e below B P) : own_Lead tb e below A P := by
  obtain ⟨C, hp, hs⟩ := h
  exact ⟨C, hp, fun t k => st t (hs t k)⟩
theorem own_fin {tb : Tables} {e : Env} {below : List Frame} {A B : State} {P : State → Prop} (st : Steps tb e below A B) (h : P B) : own_Lead tb e below A P := ⟨B, h, fun t k => st.trans k⟩
theorem own_run {tb : Tables} {e : Env} {below : List Frame} {A : State} {K : State → Outcome → Prop} (h : own_Lead tb e below A (fun B => ∃ o, K B o)) : ∃ s₂ o, Steps tb e below A s₂ ∧ K s₂ o := by
  obtain ⟨B, ⟨o, hk⟩, st⟩ := h
  exact ⟨B, o, st B (Steps.refl _), hk⟩
/-- a boolean as an int -/
def own_b (P : Prop) [Decidable P] : Int32 := if P then 1 else 0
theorem own_b1 {P : Prop} [Decidable P] (h : P) : own_b P = 1 := if_pos h
theorem own_b0 {P : Prop} [Decidable P] (h : ¬ P) : own_b P = 0 := if_neg h
theorem own_bi {P Q : Prop} [Decidable P] [Decidable Q] (h : P ↔ Q) : own_b P = own_b Q := by
  by_cases hp : P
  · rw [own_b1 hp, own_b1 (h.mp hp)]
  · rw [own_b0 hp, own_b0 (fun q => hp (h.mpr q))]
theorem own_bn0 {P : Prop} [Decidable P] {x : Int32} (hx : x = own_b P) (h : P) : ¬ x = 0 := by rw [hx, own_b1 h]; decide
theorem own_b00 {P : Prop} [Decidable P] {x : Int32} (hx : x = own_b P) (h : ¬ P) : x = 0 := by rw [hx, own_b0 h]
theorem own_bb {P Q : Prop} [Decidable P] [Decidable Q] {x y : Int32} (hx : x = own_b P) (hy : y = own_b Q) (h : P ↔ Q) : x = y := by rw [hx, hy, own_bi h]
theorem own_bnar {P : Prop} [Decidable P] : nar .boolean (own_b P) = own_b P := by
  by_cases hp : P
  · rw [own_b1 hp]; decide
  · rw [own_b0 hp]; decide
theorem own_nar {P : Prop} [Decidable P] {x : Int32} (hx : x = own_b P) : nar .boolean x = own_b P := by rw [hx]; exact own_bnar
/-- the array at a has n places, the i-th holds g i -/
def own_RayB (Z : State) (h : Heap) (a : Addr) (n : Nat) (g : Nat → Int32) : Prop := ∃ c : Cell, Arr Z h a c .byte ∧ c.slots.size = n ∧ ∀ i, i < n → c.slots[i]? = some (Value.int (g i)) ∧ fits .byte (.int (g i)) = true
theorem own_RayB.ext {Z : State} {h h' : Heap} {a : Addr} {n : Nat} {g : Nat → Int32} (F : own_RayB Z h a n g) (E : Ext h h') : own_RayB Z h' a n g := by obtain ⟨c, A, r⟩ := F; exact ⟨c, A.ext E, r⟩
theorem own_RayB.other {Z : State} {h h' : Heap} {a b : Addr} {n sl : Nat} {v : Value} {g : Nat → Int32} (F : own_RayB Z h b n g) (W : Wr h h' a sl v) (q : b ≠ a) : own_RayB Z h' b n g := by obtain ⟨c, A, r⟩ := F; exact ⟨c, A.other W q, r⟩
theorem own_RayB.keep {Z : State} {h h' : Heap} {a : Addr} {n : Nat} {ws : List Addr} {g : Nat → Int32} (F : own_RayB Z h a n g) (K : Keep h h' ws) (q : a ∉ ws) : own_RayB Z h' a n g := by obtain ⟨c, A, r⟩ := F; exact ⟨c, ⟨K.2.1 a c A.1 q, A.2⟩, r⟩
theorem own_RayB.lt {Z : State} {h : Heap} {a : Addr} {n : Nat} {g : Nat → Int32} (F : own_RayB Z h a n g) : a < h.size := by obtain ⟨c, A, r⟩ := F; exact A.lt
theorem own_RayB.cast {Z : State} {h : Heap} {a : Addr} {n : Nat} {g g' : Nat → Int32} (e : g = g') (F : own_RayB Z h a n g) : own_RayB Z h a n g' := e ▸ F
theorem own_RayB_new {Z : State} {h : Heap} {a : Addr} {k : ClassId} {z : Int32} {n : Nat} (A : Arr Z h a (newA k .byte z) .byte) (q : ¬ z < 0) (e : z.toNatClampNeg = n) : own_RayB Z h a n (fun _ => (0 : Int32)) := by
  obtain ⟨c, A', -, S, -, H, -⟩ := Arv.new A q
  refine ⟨c, A', S.trans e, fun i hi => ?_⟩
  have := H i (by rw [S, e]; exact hi)
  exact ⟨by first | exact this | simpa [defaultValue] using this, rfl⟩
/-- the array at a has n places, the i-th holds g i -/
def own_RayI (Z : State) (h : Heap) (a : Addr) (n : Nat) (g : Nat → Int32) : Prop := ∃ c : Cell, Arr Z h a c .int ∧ c.slots.size = n ∧ ∀ i, i < n → c.slots[i]? = some (Value.int (g i))
theorem own_RayI.ext {Z : State} {h h' : Heap} {a : Addr} {n : Nat} {g : Nat → Int32} (F : own_RayI Z h a n g) (E : Ext h h') : own_RayI Z h' a n g := by obtain ⟨c, A, r⟩ := F; exact ⟨c, A.ext E, r⟩
theorem own_RayI.other {Z : State} {h h' : Heap} {a b : Addr} {n sl : Nat} {v : Value} {g : Nat → Int32} (F : own_RayI Z h b n g) (W : Wr h h' a sl v) (q : b ≠ a) : own_RayI Z h' b n g := by obtain ⟨c, A, r⟩ := F; exact ⟨c, A.other W q, r⟩
theorem own_RayI.keep {Z : State} {h h' : Heap} {a : Addr} {n : Nat} {ws : List Addr} {g : Nat → Int32} (F : own_RayI Z h a n g) (K : Keep h h' ws) (q : a ∉ ws) : own_RayI Z h' a n g := by obtain ⟨c, A, r⟩ := F; exact ⟨c, ⟨K.2.1 a c A.1 q, A.2⟩, r⟩
theorem own_RayI.lt {Z : State} {h : Heap} {a : Addr} {n : Nat} {g : Nat → Int32} (F : own_RayI Z h a n g) : a < h.size := by obtain ⟨c, A, r⟩ := F; exact A.lt
theorem own_RayI.cast {Z : State} {h : Heap} {a : Addr} {n : Nat} {g g' : Nat → Int32} (e : g = g') (F : own_RayI Z h a n g) : own_RayI Z h a n g' := e ▸ F
theorem own_RayI_new {Z : State} {h : Heap} {a : Addr} {k : ClassId} {z : Int32} {n : Nat} (A : Arr Z h a (newA k .int z) .int) (q : ¬ z < 0) (e : z.toNatClampNeg = n) : own_RayI Z h a n (fun _ => (0 : Int32)) := by
  obtain ⟨c, A', -, S, -, H, -⟩ := Arv.new A q
  refine ⟨c, A', S.trans e, fun i hi => ?_⟩
  have := H i (by rw [S, e]; exact hi)
  first | exact this | simpa [defaultValue] using this
theorem own_RayI_set {Z : State} {h h' : Heap} {a : Addr} {n k : Nat} {g : Nat → Int32} {j : Int32} {v : Int32} (F : own_RayI Z h a n g) (W : Wr h h' a j.toNatClampNeg (Value.int v)) (e : j.toNatClampNeg = k) : own_RayI Z h' a n (fun i => if i = k then v else g i) := by
  obtain ⟨c, A, S, H⟩ := F
  refine ⟨_, A.same W, by first | exact (sz_set _ _ _).trans S | simp [Cell.setSlot, S], fun i hi => ?_⟩
  show (c.slots.setIfInBounds j.toNatClampNeg (Value.int v))[i]? = _
  rw [Array.getElem?_setIfInBounds, e]
  by_cases hk : k = i
  · subst hk
    simp [S, hi]
  · have := H i hi
    simp [hk, Ne.symm hk, this]
/-- a byte[] of n places, whatever it holds -/
def own_RayL (Z : State) (h : Heap) (a : Addr) (n : Nat) (_ : Unit) : Prop := ∃ g, own_RayB Z h a n g
theorem own_RayL.of {Z : State} {h : Heap} {a : Addr} {n : Nat} {g : Nat → Int32} (F : own_RayB Z h a n g) : own_RayL Z h a n () := ⟨g, F⟩
theorem own_RayL.ext {Z : State} {h h' : Heap} {a : Addr} {n : Nat} {u : Unit} (F : own_RayL Z h a n u) (E : Ext h h') : own_RayL Z h' a n u := by obtain ⟨g, r⟩ := F; exact ⟨g, r.ext E⟩
theorem own_RayL.other {Z : State} {h h' : Heap} {a b : Addr} {n sl : Nat} {v : Value} {u : Unit} (F : own_RayL Z h b n u) (W : Wr h h' a sl v) (q : b ≠ a) : own_RayL Z h' b n u := by obtain ⟨g, r⟩ := F; exact ⟨g, r.other W q⟩
theorem own_RayL.keep {Z : State} {h h' : Heap} {a : Addr} {n : Nat} {ws : List Addr} {u : Unit} (F : own_RayL Z h a n u) (K : Keep h h' ws) (q : a ∉ ws) : own_RayL Z h' a n u := by obtain ⟨g, r⟩ := F; exact ⟨g, r.keep K q⟩
theorem own_RayL.lt {Z : State} {h : Heap} {a : Addr} {n : Nat} {u : Unit} (F : own_RayL Z h a n u) : a < h.size := by obtain ⟨g, r⟩ := F; exact r.lt
theorem own_RayL.len {Z : State} {h : Heap} {a : Addr} {n : Nat} {u : Unit} (F : own_RayL Z h a n u) : ∃ c : Cell, Arr Z h a c .byte ∧ c.slots.size = n ∧ True := by obtain ⟨g, c, A, S, -⟩ := F; exact ⟨c, A, S, trivial⟩
theorem own_RayL.arv {Z : State} {h : Heap} {a : Addr} {n : Nat} {u : Unit} (F : own_RayL Z h a n u) (hn : n < 2 ^ 31) : ∃ (k : ClassId) (z : Int32) (vs : List Value), z.toNatClampNeg = n ∧ vs.length = n ∧ Arv Z h a k .byte z vs (.int 0) := by
  obtain ⟨g, c, A, S, H⟩ := F
  have hz : (Int32.ofNat n).toInt = n := by
    have := Int32.toInt_ofNat_small hn
    exact this
  have hc : (Int32.ofNat n).toNatClampNeg = n := by
    show (Int32.ofNat n).toInt.toNat = n
    rw [hz]
    omega
  refine ⟨c.cls, Int32.ofNat n, (List.range n).map (fun i => Value.int (g i)), hc, by simp, c, A, rfl, by rw [S, hc], ?_, ?_, ?_⟩
  · rw [Int32.lt_iff_toInt_lt, hz]
    have e0 : (0 : Int32).toInt = 0 := by decide
    omega
  · intro k hk
    rw [S] at hk
    rw [(H k hk).1]
    simp [List.getD_eq_getElem?_getD, hk]
  · intro i hi
    rw [S] at hi
    have := (H i hi).2
    simpa [List.getD_eq_getElem?_getD, hi] using this
def own_iv (v : Value) : Int32 := match v with | .int x => x | _ => 0
theorem own_RayL.back {Z : State} {h : Heap} {a : Addr} {n : Nat} {k : ClassId} {z : Int32} {vs : List Value} {d : Value} (F : Arv Z h a k .byte z vs d) (e : z.toNatClampNeg = n) : own_RayL Z h a n () := by
  obtain ⟨c, A, -, S, -, H, G⟩ := F
  refine ⟨fun i => own_iv (vs.getD i d), c, A, S.trans e, fun i hi => ?_⟩
  have h1 := H i (by rw [S, e]; exact hi)
  have h2 := G i (by rw [S, e]; exact hi)
  show c.slots[i]? = some (Value.int (own_iv (vs.getD i d))) ∧ fits .byte (.int (own_iv (vs.getD i d))) = true
  generalize vs.getD i d = w at h1 h2 ⊢
  cases w with
  | int x => exact ⟨h1, h2⟩
  | _ => exact absurd h2 (by simp [fits])
section Copy
variable {p : Program} {l : Launch} {e : Env} {R : Room} {s : State} {m : MethodId} {args : Array Value} {below : List Frame} {meth : Method} {c : Code} {T : State} {locs : List Loc} {cells slots : Nat} {Z : State} {h : Heap} {a b : Addr}
theorem own_cp (X : Stand p l e R s m args below meth c T locs cells slots) (hx : p.tables.exec = Jvm.exec) (hZ : Z.Warmed39 s.vm) {a0 : Array Value} {own : String} {index : Nat} (hown : s.vm.findClass own = some m.cls)
    (w1 : (Cond.methodLink own index Jvm.Stand.acN).before a0 Z = true) (w2 : (Cond.native Jvm.Stand.acN).before a0 Z = true) (w3 : (Cond.static Jvm.Stand.acN).before a0 Z = true) (w4 : (Cond.initialized "java/lang/System").before a0 Z = true) (eT : T.heap = h)
    {n n' : Nat} {u u' : Unit} {sp dp nn : Int32} (A : own_RayL Z h a n u) (B : own_RayL Z h b n' u') (hn : n < 2 ^ 31) (hn' : n' < 2 ^ 31)
    (h1 : ¬ sp < 0) (h2 : ¬ dp < 0) (h3 : ¬ nn < 0) (h4 : sp.toNatClampNeg + nn.toNatClampNeg ≤ n) (h5 : dp.toNatClampNeg + nn.toNatClampNeg ≤ n') {n0 : Nat} (N : Fr n0 locs) (ge : n0 ≤ b)
    {g : JFrame} (hg : g.method = m) (hsize : g.locals.size = c.maxLocals) {rest : List Value} (hs : g.stack = .int nn :: .int dp :: .ref b :: .int sp :: .ref a :: rest) (hd : decode c.code g.pc = .ok (.invokestatic index, 3))
    (hf : 1 ≤ R.frames) {W : Nat} (hW : 2 * g.monitorRoom + (rest.map fun v => v.category).sum ≤ W) (hlo : W + (nativeFrameWords "java/lang/System" "arraycopy" 5 + 11) ≤ R.locals) :
    ∃ T' h' L, Stand p l e R s m args below meth c T' L cells slots ∧ T'.heap = h' ∧ Fr n0 L ∧ Keep h h' [b] ∧ own_RayL Z h' b n' () ∧
      ∀ target, Steps p.tables e below (T'.setTop { g with pc := g.pc + 3, stack := rest }) target → Steps p.tables e below (T.setTop g) target := by
  obtain ⟨k1, z1, v1, q1, l1, A1⟩ := A.arv hn
  obtain ⟨k2, z2, v2, q2, l2, A2⟩ := B.arv hn'
  obtain ⟨T', h', L, X', e', N', K', A', st⟩ := cpA X hx hZ hown w1 w2 w3 w4 eT A1 A2 (Or.inl ⟨rfl, rfl⟩) h1 h2 h3 (by rw [q1]; exact h4) (by rw [q2]; exact h5) rfl (by rw [l2]; exact h5) N ge hg hsize hs hd hf hW hlo
  exact ⟨T', h', L, X', e', N', K', own_RayL.back A' q2, st⟩
end Copy
theorem own_inb {c : Cell} {n : Nat} {j : Int32} (S : c.slots.size = n) (q : ¬ j < 0 ∧ j.toNatClampNeg < n) : ¬ (j < 0 ∨ c.slots.size ≤ j.toNatClampNeg) := fun w => w.elim q.1 fun z => absurd q.2 (Nat.not_lt.mpr (S ▸ z))
section Cold
variable {p : Program} {l : Launch} {e : Env} {R : Room} {s : State} {vm0 : Vm} {m : MethodId} {args : Array Value} {below : List Frame} {meth : Method} {c : Code} {T : State} {locs : List Loc} {cells slots : Nat} {Z : State} {a0 : Array Value} {h : Heap}
end Cold
end Jvm.RoadKit
namespace Jvm.Pilot.@@N@@
open Jvm Jvm.ClassFile Sem Op Lib Jvm.Free Jvm.Stand Jvm.LawKit Jvm.RoadKit Bundle Jvm.Pilot.@@N@@.Jvm.D
theorem own_nc (j : Int32) (h : 0 ≤ j.toInt) : (j.toNatClampNeg : Int) = j.toInt := by
  have : j.toNatClampNeg = j.toInt.toNat := rfl
  rw [this]
  omega
theorem own_nneg (j : Int32) (h : 0 ≤ j.toInt) : ¬ j < 0 := by
  have e0 : (0 : Int32).toInt = 0 := by decide
  rw [Int32.lt_iff_toInt_lt, e0]
  omega
theorem own_or8 (x : Int32) (h0 : 0 ≤ x.toInt) (h1 : x.toInt ≤ 7) : ¬ (((8 : Int32) ||| (0 : Int32)) ||| x) < (0 : Int32) ∧ ¬ ((8 : Int32) - (0 : Int32)) < x := by
  have hx : x = 0 ∨ x = 1 ∨ x = 2 ∨ x = 3 ∨ x = 4 ∨ x = 5 ∨ x = 6 ∨ x = 7 := by
    simp only [← Int32.toInt_inj, show (0 : Int32).toInt = 0 by decide, show (1 : Int32).toInt = 1 by decide, show (2 : Int32).toInt = 2 by decide, show (3 : Int32).toInt = 3 by decide, show (4 : Int32).toInt = 4 by decide, show (5 : Int32).toInt = 5 by decide, show (6 : Int32).toInt = 6 by decide, show (7 : Int32).toInt = 7 by decide]
    omega
  rcases hx with rfl | rfl | rfl | rfl | rfl | rfl | rfl | rfl <;> decide
/-- what holds of the batch: its bytes used, its keys, its room -/
def own_I (zb ze u s n : Int32) : Prop := 0 ≤ u.toInt ∧ u.toInt ≤ zb.toInt ∧ zb.toInt ≤ 15 ∧ 0 ≤ s.toInt ∧ s.toInt ≤ 3 ∧ 1 ≤ ze.toInt ∧ ze.toInt ≤ 4 ∧ 0 ≤ n.toInt ∧ n.toInt ≤ 7
theorem own_fit (zb ze u s n : Int32) (I : own_I zb ze u s n) (h1 : s < ze) (h2 : ¬ (zb - u) < n) : ¬ u < 0 ∧ ¬ n < 0 ∧ u.toNatClampNeg + n.toNatClampNeg ≤ zb.toNatClampNeg ∧ (¬ s < 0 ∧ s.toNatClampNeg < ze.toNatClampNeg) ∧ zb.toNatClampNeg < 2 ^ 31 ∧ ((0 : Int32).toNatClampNeg + n.toNatClampNeg ≤ 8) ∧ (u + n).toInt = u.toInt + n.toInt ∧ u.toInt + n.toInt ≤ zb.toInt ∧ (s + 1).toInt = s.toInt + 1 := by
  obtain ⟨i1, i2, i3, i4, i5, i6, i7, i8, i9⟩ := I
  have k1 := c_isub zb u
  have k2 := c_iadd u n
  have k3 := c_iadd s 1
  have e1 : (1 : Int32).toInt = 1 := by decide
  have r1 := rng32 (zb - u)
  have r2 := rng32 (u + n)
  have r3 := rng32 (s + 1)
  have n1 := own_nc u i1
  have n2 := own_nc n i8
  have n3 := own_nc zb (by omega)
  have n4 := own_nc s i4
  have n5 := own_nc ze (by omega)
  have n0 : (0 : Int32).toNatClampNeg = 0 := by decide
  rw [Int32.lt_iff_toInt_lt] at h1 h2
  rw [e1] at k3
  refine ⟨own_nneg u i1, own_nneg n i8, ?_, ⟨own_nneg s i4, ?_⟩, ?_, ?_, ?_, ?_, ?_⟩ <;> omega
theorem own_pn0 : plainName "com/example/barnacle/barnacle/KeyBatch" = true := by first | (simp [plainName, overriddenIn]; done) | decide +kernel
theorem own_d1_0 : decode prog_13_method_1_code 0 = .ok (.aload_n 0, 1) := by decide +kernel
theorem own_d1_1 : decode prog_13_method_1_code 1 = .ok (.invokespecial 1, 3) := by decide +kernel
theorem own_d1_4 : decode prog_13_method_1_code 4 = .ok (.iload_n 2, 1) := by decide +kernel
theorem own_d1_5 : decode prog_13_method_1_code 5 = .ok (.iconst 1, 1) := by decide +kernel
theorem own_d1_6 : decode prog_13_method_1_code 6 = .ok (.if_icmp .lt 13, 3) := by decide +kernel
theorem own_d1_9 : decode prog_13_method_1_code 9 = .ok (.iload_n 2, 1) := by decide +kernel
theorem own_d1_10 : decode prog_13_method_1_code 10 = .ok (.ldc 9, 2) := by decide +kernel
theorem own_d1_12 : decode prog_13_method_1_code 12 = .ok (.if_icmp .gt 7, 3) := by decide +kernel
theorem own_d1_15 : decode prog_13_method_1_code 15 = .ok (.iload_n 1, 1) := by decide +kernel
theorem own_d1_16 : decode prog_13_method_1_code 16 = .ok (.ifCond .ge 18, 3) := by decide +kernel
theorem own_d1_34 : decode prog_13_method_1_code 34 = .ok (.aload_n 0, 1) := by decide +kernel
theorem own_d1_35 : decode prog_13_method_1_code 35 = .ok (.iload_n 1, 1) := by decide +kernel
theorem own_d1_36 : decode prog_13_method_1_code 36 = .ok (.newarray .byte, 2) := by decide +kernel
theorem own_d1_38 : decode prog_13_method_1_code 38 = .ok (.putfield 19, 3) := by decide +kernel
theorem own_d1_41 : decode prog_13_method_1_code 41 = .ok (.aload_n 0, 1) := by decide +kernel
theorem own_d1_42 : decode prog_13_method_1_code 42 = .ok (.iload_n 2, 1) := by decide +kernel
theorem own_d1_43 : decode prog_13_method_1_code 43 = .ok (.newarray .int, 2) := by decide +kernel
theorem own_d1_45 : decode prog_13_method_1_code 45 = .ok (.putfield 23, 3) := by decide +kernel
theorem own_d1_48 : decode prog_13_method_1_code 48 = .ok (.return_, 1) := by decide +kernel
theorem own_ef1 (m : MethodId) (r0 : Addr) (p1 : Int32) (p2 : Int32) : entryFrame m #[(.ref r0), (.int p1), (.int p2)] 3 = mkF m 0 #[.val (.ref r0), .val (.int p1), .val (.int p2)] [] := by first | (simp [entryFrame, mkF, argsToLocals, Value.category]; done) | rfl
def own_Q1 (Z : State) (r0 : Addr) (p1 : Int32) (p2 : Int32) (h0 : Heap) (n0 : Nat) (v : Option Value) (h : Heap) (L : List Loc) : Prop := ∃ (b36 : Addr) (b43 : Addr), (v = none) ∧ (Fr n0 L) ∧ (Keep h0 h [r0]) ∧ (Exa Z h r0 "com/example/barnacle/barnacle/KeyBatch") ∧ (Fld Z h r0 "com/example/barnacle/barnacle/KeyBatch" "bytes" "[B" (.ref b36)) ∧ (Fld Z h r0 "com/example/barnacle/barnacle/KeyBatch" "ends" "[I" (.ref b43)) ∧ (Fld Z h r0 "com/example/barnacle/barnacle/KeyBatch" "size" "I" (.int (0 : Int32))) ∧ (Fld Z h r0 "com/example/barnacle/barnacle/KeyBatch" "used" "I" (.int (0 : Int32))) ∧ (own_RayB Z h b36 (p1).toNatClampNeg (fun _ => (0 : Int32))) ∧ (own_RayI Z h b43 (p2).toNatClampNeg (fun _ => (0 : Int32))) ∧ (h0.size ≤ b36) ∧ (h0.size ≤ b43) ∧ (b36 ≠ b43)
set_option maxRecDepth 65536 in
set_option maxHeartbeats 40000000 in
theorem own_rm1 (l : Launch) (Z : State) (a0 : Array Value) (hw : ∀ d ∈ tables_1, d.before a0 Z = true) (ws : List Jvm.Cond) (r0 : Addr) (p1 : Int32) (p2 : Int32) (h0 : Heap) (n0 : Nat) (Z0 : n0 ≤ h0.size) (E_r0 : Exa Z h0 r0 "com/example/barnacle/barnacle/KeyBatch") (F_r0_bytes : Fld Z h0 r0 "com/example/barnacle/barnacle/KeyBatch" "bytes" "[B" .null) (F_r0_ends : Fld Z h0 r0 "com/example/barnacle/barnacle/KeyBatch" "ends" "[I" .null) (F_r0_size : Fld Z h0 r0 "com/example/barnacle/barnacle/KeyBatch" "size" "I" (.int (0 : Int32))) (F_r0_used : Fld Z h0 r0 "com/example/barnacle/barnacle/KeyBatch" "used" "I" (.int (0 : Int32))) (g_r0 : n0 ≤ r0) (h1 : ¬ (p2 < (1 : Int32))) (h2 : ¬ ((268435456 : Int32) < p2)) (h3 : ¬ (p1 < (0 : Int32))) (h4 : p1.toNatClampNeg ≤ 15) (h5 : p2.toNatClampNeg ≤ 4) (h6 : ¬ (p2 < (0 : Int32))) :
    MetFree l (⟨"com/example/barnacle/barnacle/KeyBatch", "<init>", "(II)V"⟩ : MethodName) (head1 (Jvm.Cond.code (⟨"com/example/barnacle/barnacle/KeyBatch", "<init>", "(II)V"⟩ : MethodName) prog_13_method_1_code 3 none :: ws) ({ frames := 1, cells := 2, slots := 19, locals := 12 } : Room)) (fun a U => a = #[(.ref r0), (.int p1), (.int p2)] ∧ Z.Warmed39 U.vm ∧ U.heap = h0) (fun _ _ _ _ _ => True) (fun _ U o U' => ∃ v L, o = .returned v ∧ own_Q1 Z r0 p1 p2 h0 n0 v U'.heap L ∧ FrameEnd U o U' L ({ frames := 1, cells := 2, slots := 19, locals := 12 } : Room).cells ({ frames := 1, cells := 2, slots := 19, locals := 12 } : Room).slots) := by
  refine MetFree.of_bodySF (plainFor_of_name own_pn0) hisR ?_
  intro p e s m args below meth c s₁ Bd hml0 hP hK
  obtain ⟨rfl, hZ, hh⟩ := hP
  have hx := Bd.exec
  have hby := Bd.bytes
  have hml : c.maxLocals = 3 := hml0
  have hown : s.vm.findClass "com/example/barnacle/barnacle/KeyBatch" = some m.cls := findClass_of_methodNamed Bd.named
  have hnm := (name_of_methodNamed Bd.named Bd.method).1
  have X0 : Stand p l e ({ frames := 1, cells := 2, slots := 19, locals := 12 } : Room) s m #[(.ref r0), (.int p1), (.int p2)] below meth c s₁ [] 0 0 := Stand.of_body Bd
  have e0 : s₁.heap = h0 := by rw [← hh, Bd.state]; rfl
  have N0 := Fr.nil n0
  have pre0 : ∀ t, Steps p.tables e below (s₁.setTop (mkF m 0 #[.val (.ref r0), .val (.int p1), .val (.int p2)] [])) t → Steps p.tables e below (s₁.setTop (entryFrame m #[(.ref r0), (.int p1), (.int p2)] 3)) t := fun t k => castTop (own_ef1 m r0 p1 p2) k
  refine own_run (own_st pre0 ?_)
  refine own_st (B := s₁.setTop (mkF m 1 #[.val (.ref r0), .val (.int p1), .val (.int p2)] [(.ref r0)])) (fun target kt => ?_) ?_
  · show Steps p.tables e below (s₁.setTop (mkF m 0 #[.val (.ref r0), .val (.int p1), .val (.int p2)] [])) target
    refine XS.aloadN X0.here hx rfl (hb hby own_d1_0) rfl rfl ?_
    exact kt
  obtain ⟨Tg1, Xg1, eg1, stg1⟩ := initO X0 hx hZ hown (hw _ (List.mem_of_getElem? (i := 6) rfl)) (hw _ (List.mem_of_getElem? (i := 7) rfl)) (hw _ (List.mem_of_getElem? (i := 8) rfl)) e0 (g := (mkF m 1 #[.val (.ref r0), .val (.int p1), .val (.int p2)] [(.ref r0)])) rfl (by rw [hml]; rfl) rfl (hb hby own_d1_1) (by decide) (W := 0) (by show 2 * 0 + _ ≤ _; exact Nat.le_of_eq rfl) (by decide)
  refine own_st stg1 ?_
  refine own_st (B := Tg1.setTop (mkF m 6 #[.val (.ref r0), .val (.int p1), .val (.int p2)] [(.int (1 : Int32)), (.int p2)])) (fun target kt => ?_) ?_
  · show Steps p.tables e below (Tg1.setTop (mkF m 4 #[.val (.ref r0), .val (.int p1), .val (.int p2)] [])) target
    refine XS.iloadN Xg1.here hx rfl (hb hby own_d1_4) rfl ?_
    show Steps p.tables e below (Tg1.setTop (mkF m 5 #[.val (.ref r0), .val (.int p1), .val (.int p2)] [(.int p2)])) target
    refine XS.iconst Xg1.here hx rfl (hb hby own_d1_5) ?_
    exact kt
  have c6 : ¬ (p2 < (1 : Int32)) := by
    exact h1
  refine own_st (B := Tg1.setTop (mkF m 12 #[.val (.ref r0), .val (.int p1), .val (.int p2)] [(.int (268435456 : Int32)), (.int p2)])) (fun target kt => ?_) ?_
  · show Steps p.tables e below (Tg1.setTop (mkF m 6 #[.val (.ref r0), .val (.int p1), .val (.int p2)] [(.int (1 : Int32)), (.int p2)])) target
    refine XS.icmpNo Xg1.here hx rfl (hb hby own_d1_6) rfl (flt c6).1 ?_
    show Steps p.tables e below (Tg1.setTop (mkF m 9 #[.val (.ref r0), .val (.int p1), .val (.int p2)] [])) target
    refine XS.iloadN Xg1.here hx rfl (hb hby own_d1_9) rfl ?_
    show Steps p.tables e below (Tg1.setTop (mkF m 10 #[.val (.ref r0), .val (.int p1), .val (.int p2)] [(.int p2)])) target
    refine Xg1.ldcInt hx hown (mvT hZ (hw _ (List.mem_of_getElem? (i := 9) rfl))) (g := (mkF m 10 #[.val (.ref r0), .val (.int p1), .val (.int p2)] [(.int p2)])) rfl (hb hby own_d1_10) _ ?_
    exact kt
  have c12 : ¬ ((268435456 : Int32) < p2) := by
    exact h2
  refine own_st (B := Tg1.setTop (mkF m 16 #[.val (.ref r0), .val (.int p1), .val (.int p2)] [(.int p1)])) (fun target kt => ?_) ?_
  · show Steps p.tables e below (Tg1.setTop (mkF m 12 #[.val (.ref r0), .val (.int p1), .val (.int p2)] [(.int (268435456 : Int32)), (.int p2)])) target
    refine XS.icmpNo Xg1.here hx rfl (hb hby own_d1_12) rfl (flt c12).2.2.1 ?_
    show Steps p.tables e below (Tg1.setTop (mkF m 15 #[.val (.ref r0), .val (.int p1), .val (.int p2)] [])) target
    refine XS.iloadN Xg1.here hx rfl (hb hby own_d1_15) rfl ?_
    exact kt
  have c16 : ¬ (p1 < (0 : Int32)) := by
    exact h3
  refine own_st (B := Tg1.setTop (mkF m 36 #[.val (.ref r0), .val (.int p1), .val (.int p2)] [(.int p1), (.ref r0)])) (fun target kt => ?_) ?_
  · show Steps p.tables e below (Tg1.setTop (mkF m 16 #[.val (.ref r0), .val (.int p1), .val (.int p2)] [(.int p1)])) target
    refine XS.ifYes Xg1.here hx rfl (pc0 := 16) (pc' := 34) rfl (hb hby own_d1_16) rfl ((if0 _ _).trans (flt c16).2.1) (by decide) (by decide) ?_
    show Steps p.tables e below (Tg1.setTop (mkF m 34 #[.val (.ref r0), .val (.int p1), .val (.int p2)] [])) target
    refine XS.aloadN Xg1.here hx rfl (hb hby own_d1_34) rfl rfl ?_
    show Steps p.tables e below (Tg1.setTop (mkF m 35 #[.val (.ref r0), .val (.int p1), .val (.int p2)] [(.ref r0)])) target
    refine XS.iloadN Xg1.here hx rfl (hb hby own_d1_35) rfl ?_
    exact kt
  obtain ⟨Tg36, hg36, kg36, Xg36, eg36, Eg36, Ag36, stg36⟩ := newP Xg1 hx hZ (hw _ (List.mem_of_getElem? (i := 10) rfl)) eg1 (g := (mkF m 36 #[.val (.ref r0), .val (.int p1), .val (.int p2)] [(.int p1), (.ref r0)])) rfl (hb hby own_d1_36) rfl h3 (cap := 15) h4 (by decide) (by decide) (by decide)
  obtain ⟨b36, gg36⟩ : ∃ z, z = h0.size := ⟨_, rfl⟩
  rw [← gg36] at Ag36 stg36
  refine own_st stg36 ?_
  have ne_r0_b36 : r0 ≠ b36 := Nat.ne_of_lt (Nat.lt_of_lt_of_le E_r0.lt (Nat.le_of_eq gg36.symm))
  have g_b36 : n0 ≤ b36 := Nat.le_trans Z0 (Nat.le_of_eq gg36.symm)
  have sz_b36 : h0.size ≤ b36 := Nat.le_trans (Keep.refl h0 [r0]).1 (Nat.le_of_eq gg36.symm)
  have F := E_r0.ext Eg36
  have F_1 := F_r0_bytes.ext Eg36
  have F_2 := F_r0_ends.ext Eg36
  have F_3 := F_r0_size.ext Eg36
  have F_4 := F_r0_used.ext Eg36
  have Zz : n0 ≤ hg36.size := Nat.le_trans Z0 Eg36.1
  have Kc := (Keep.refl h0 [r0]).ext Eg36
  have F_5 : own_RayB Z hg36 b36 (p1).toNatClampNeg (fun _ => (0 : Int32)) := own_RayB_new Ag36 h3 rfl
  obtain ⟨Tg38, hg38, Xg38, eg38, Wg38, stg38⟩ := putF Xg36 hx hZ hown (host := "") (Or.inl (hw _ (List.mem_of_getElem? (i := 11) rfl))) Via.refl eg36 F_1 F (Or.inr ⟨(hw _ (List.mem_of_getElem? (i := 12) rfl)), rfl, hnm⟩) (hw _ (List.mem_of_getElem? (i := 1) rfl)) (ty := (.array .byte)) (by decide) rfl rfl (g := (mkF m 38 #[.val (.ref r0), .val (.int p1), .val (.int p2)] [(.ref b36), (.ref r0)])) rfl rfl (hb hby own_d1_38)
  refine own_st stg38 ?_
  have Ng38 := Fr.snoc Xg38 N0 g_r0
  have F_6 := F.wr Wg38
  have F_7 := F_1.same Wg38
  have F_8 := F_2.other Wg38 (Or.inr (slot_ne (Or.inr (hw _ (List.mem_of_getElem? (i := 15) rfl))) (Or.inr (hw _ (List.mem_of_getElem? (i := 12) rfl))) (by decide) (t := (.array .int)) (t' := (.array .byte)) (by decide) (by decide)))
  have F_9 := F_3.other Wg38 (Or.inr (slot_ne (Or.inl (hw _ (List.mem_of_getElem? (i := 22) rfl))) (Or.inr (hw _ (List.mem_of_getElem? (i := 12) rfl))) (by decide) (t := .int) (t' := (.array .byte)) (by decide) (by decide)))
  have F_10 := F_4.other Wg38 (Or.inr (slot_ne (Or.inl (hw _ (List.mem_of_getElem? (i := 24) rfl))) (Or.inr (hw _ (List.mem_of_getElem? (i := 12) rfl))) (by decide) (t := .int) (t' := (.array .byte)) (by decide) (by decide)))
  have F_11 := F_5.other Wg38 (Ne.symm ne_r0_b36)
  have Zz_1 : n0 ≤ hg38.size := Nat.le_trans Zz (Keep.of_wr Wg38).1
  have Kc_1 := Kc.wr Wg38 (Or.inl (List.mem_of_getElem? (i := 0) rfl))
  refine own_st (B := Tg38.setTop (mkF m 43 #[.val (.ref r0), .val (.int p1), .val (.int p2)] [(.int p2), (.ref r0)])) (fun target kt => ?_) ?_
  · show Steps p.tables e below (Tg38.setTop (mkF m 41 #[.val (.ref r0), .val (.int p1), .val (.int p2)] [])) target
    refine XS.aloadN Xg38.here hx rfl (hb hby own_d1_41) rfl rfl ?_
    show Steps p.tables e below (Tg38.setTop (mkF m 42 #[.val (.ref r0), .val (.int p1), .val (.int p2)] [(.ref r0)])) target
    refine XS.iloadN Xg38.here hx rfl (hb hby own_d1_42) rfl ?_
    exact kt
  obtain ⟨Tg43, hg43, kg43, Xg43, eg43, Eg43, Ag43, stg43⟩ := newP Xg38 hx hZ (hw _ (List.mem_of_getElem? (i := 13) rfl)) eg38 (g := (mkF m 43 #[.val (.ref r0), .val (.int p1), .val (.int p2)] [(.int p2), (.ref r0)])) rfl (hb hby own_d1_43) rfl h6 (cap := 4) h5 (by decide) (by decide) (by decide)
  obtain ⟨b43, gg43⟩ : ∃ z, z = hg38.size := ⟨_, rfl⟩
  rw [← gg43] at Ag43 stg43
  refine own_st stg43 ?_
  have ne_r0_b43 : r0 ≠ b43 := Nat.ne_of_lt (Nat.lt_of_lt_of_le F_6.lt (Nat.le_of_eq gg43.symm))
  have ne_b36_b43 : b36 ≠ b43 := Nat.ne_of_lt (Nat.lt_of_lt_of_le F_11.lt (Nat.le_of_eq gg43.symm))
  have g_b43 : n0 ≤ b43 := Nat.le_trans Zz_1 (Nat.le_of_eq gg43.symm)
  have sz_b43 : h0.size ≤ b43 := Nat.le_trans Kc_1.1 (Nat.le_of_eq gg43.symm)
  have F_12 := F_6.ext Eg43
  have F_13 := F_7.ext Eg43
  have F_14 := F_8.ext Eg43
  have F_15 := F_9.ext Eg43
  have F_16 := F_10.ext Eg43
  have F_17 := F_11.ext Eg43
  have Zz_2 : n0 ≤ hg43.size := Nat.le_trans Zz_1 Eg43.1
  have Kc_2 := Kc_1.ext Eg43
  have F_18 : own_RayI Z hg43 b43 (p2).toNatClampNeg (fun _ => (0 : Int32)) := own_RayI_new Ag43 h6 rfl
  obtain ⟨Tg45, hg45, Xg45, eg45, Wg45, stg45⟩ := putF Xg43 hx hZ hown (host := "") (Or.inl (hw _ (List.mem_of_getElem? (i := 14) rfl))) Via.refl eg43 F_14 F_12 (Or.inr ⟨(hw _ (List.mem_of_getElem? (i := 15) rfl)), rfl, hnm⟩) (hw _ (List.mem_of_getElem? (i := 1) rfl)) (ty := (.array .int)) (by decide) rfl rfl (g := (mkF m 45 #[.val (.ref r0), .val (.int p1), .val (.int p2)] [(.ref b43), (.ref r0)])) rfl rfl (hb hby own_d1_45)
  refine own_st stg45 ?_
  have Ng45 := Fr.snoc Xg45 Ng38 g_r0
  have F_19 := F_12.wr Wg45
  have F_20 := F_13.other Wg45 (Or.inr (slot_ne (Or.inr (hw _ (List.mem_of_getElem? (i := 12) rfl))) (Or.inr (hw _ (List.mem_of_getElem? (i := 15) rfl))) (by decide) (t := (.array .byte)) (t' := (.array .int)) (by decide) (by decide)))
  have F_21 := F_14.same Wg45
  have F_22 := F_15.other Wg45 (Or.inr (slot_ne (Or.inl (hw _ (List.mem_of_getElem? (i := 22) rfl))) (Or.inr (hw _ (List.mem_of_getElem? (i := 15) rfl))) (by decide) (t := .int) (t' := (.array .int)) (by decide) (by decide)))
  have F_23 := F_16.other Wg45 (Or.inr (slot_ne (Or.inl (hw _ (List.mem_of_getElem? (i := 24) rfl))) (Or.inr (hw _ (List.mem_of_getElem? (i := 15) rfl))) (by decide) (t := .int) (t' := (.array .int)) (by decide) (by decide)))
  have F_24 := F_17.other Wg45 (Ne.symm ne_r0_b36)
  have F_25 := F_18.other Wg45 (Ne.symm ne_r0_b43)
  have Zz_3 : n0 ≤ hg45.size := Nat.le_trans Zz_2 (Keep.of_wr Wg45).1
  have Kc_3 := Kc_2.wr Wg45 (Or.inl (List.mem_of_getElem? (i := 0) rfl))
  obtain ⟨fs, hr, hrun, hended, hW, hsame⟩ := Xg45.leave (v := none) (fun _ => rfl)
  have hend : Steps p.tables e below (Tg45.setTop (mkF m 48 #[.val (.ref r0), .val (.int p1), .val (.int p2)] [])) (Tg45.setFrames fs) := by
    exact Xg45.returnOut hx Bd.returns (hb hby own_d1_48) hr
  refine own_fin hend ⟨_, hrun, hended, _, _, rfl, ?_, ⟨_, rfl⟩, hW, hsame.mono (by decide) (by decide)⟩
  show own_Q1 Z r0 p1 p2 h0 n0 _ Tg45.heap _
  rw [eg45]
  exact ⟨b36, b43, rfl, Ng45, Kc_3, F_19, F_20, F_21, F_22, F_23, F_24, F_25, sz_b36, sz_b43, ne_b36_b43⟩
theorem own_d3_0 : decode prog_13_method_2_code 0 = .ok (.aload_n 0, 1) := by decide +kernel
theorem own_d3_1 : decode prog_13_method_2_code 1 = .ok (.getfield 27, 3) := by decide +kernel
theorem own_d3_4 : decode prog_13_method_2_code 4 = .ok (.aload_n 0, 1) := by decide +kernel
theorem own_d3_5 : decode prog_13_method_2_code 5 = .ok (.getfield 23, 3) := by decide +kernel
theorem own_d3_8 : decode prog_13_method_2_code 8 = .ok (.arraylength, 1) := by decide +kernel
theorem own_d3_9 : decode prog_13_method_2_code 9 = .ok (.if_icmp .ge 21, 3) := by decide +kernel
theorem own_d3_12 : decode prog_13_method_2_code 12 = .ok (.iload_n 1, 1) := by decide +kernel
theorem own_d3_13 : decode prog_13_method_2_code 13 = .ok (.aload_n 0, 1) := by decide +kernel
theorem own_d3_14 : decode prog_13_method_2_code 14 = .ok (.getfield 19, 3) := by decide +kernel
theorem own_d3_17 : decode prog_13_method_2_code 17 = .ok (.arraylength, 1) := by decide +kernel
theorem own_d3_18 : decode prog_13_method_2_code 18 = .ok (.aload_n 0, 1) := by decide +kernel
theorem own_d3_19 : decode prog_13_method_2_code 19 = .ok (.getfield 31, 3) := by decide +kernel
theorem own_d3_22 : decode prog_13_method_2_code 22 = .ok (.isub, 1) := by decide +kernel
theorem own_d3_23 : decode prog_13_method_2_code 23 = .ok (.if_icmp .gt 7, 3) := by decide +kernel
theorem own_d3_26 : decode prog_13_method_2_code 26 = .ok (.iconst 1, 1) := by decide +kernel
theorem own_d3_27 : decode prog_13_method_2_code 27 = .ok (.goto 4, 3) := by decide +kernel
theorem own_d3_30 : decode prog_13_method_2_code 30 = .ok (.iconst 0, 1) := by decide +kernel
theorem own_d3_31 : decode prog_13_method_2_code 31 = .ok (.ireturn, 1) := by decide +kernel
theorem own_ef3 (m : MethodId) (r0 : Addr) (p1 : Int32) : entryFrame m #[(.ref r0), (.int p1)] 2 = mkF m 0 #[.val (.ref r0), .val (.int p1)] [] := by first | (simp [entryFrame, mkF, argsToLocals, Value.category]; done) | rfl
def own_Q3 (Z : State) (r0 : Addr) (p1 : Int32) (z_b : Int32) (z_e : Int32) (b_b : Addr) (b_e : Addr) (w_s : Int32) (w_u : Int32) (g_e : Nat → Int32) (h0 : Heap) (n0 : Nat) (v : Option Value) (h : Heap) (L : List Loc) : Prop := (v = some (.int (own_b ((w_s < z_e) ∧ (¬ ((z_b - w_u) < p1)))))) ∧ (Fr n0 L) ∧ (h = h0)
set_option maxRecDepth 65536 in
set_option maxHeartbeats 40000000 in
theorem own_rm3 (l : Launch) (Z : State) (a0 : Array Value) (hw : ∀ d ∈ tables_1, d.before a0 Z = true) (ws : List Jvm.Cond) (r0 : Addr) (p1 : Int32) (z_b : Int32) (z_e : Int32) (b_b : Addr) (b_e : Addr) (w_s : Int32) (w_u : Int32) (g_e : Nat → Int32) (h0 : Heap) (n0 : Nat) (Z0 : n0 ≤ h0.size) (F_r0_bytes : Fld Z h0 r0 "com/example/barnacle/barnacle/KeyBatch" "bytes" "[B" (.ref b_b)) (F_r0_ends : Fld Z h0 r0 "com/example/barnacle/barnacle/KeyBatch" "ends" "[I" (.ref b_e)) (F_r0_size : Fld Z h0 r0 "com/example/barnacle/barnacle/KeyBatch" "size" "I" (.int w_s)) (F_r0_used : Fld Z h0 r0 "com/example/barnacle/barnacle/KeyBatch" "used" "I" (.int w_u)) (R_b_b : own_RayL Z h0 b_b (z_b).toNatClampNeg ()) (R_b_e : own_RayI Z h0 b_e (z_e).toNatClampNeg g_e) (hzb : ¬ (z_b < (0 : Int32))) (hze : ¬ (z_e < (0 : Int32))) :
    MetFree l (⟨"com/example/barnacle/barnacle/KeyBatch", "fits", "(I)Z"⟩ : MethodName) (head1 (Jvm.Cond.code (⟨"com/example/barnacle/barnacle/KeyBatch", "fits", "(I)Z"⟩ : MethodName) prog_13_method_2_code 2 (some .boolean) :: ws) ({ frames := 0, cells := 0, slots := 0, locals := 0 } : Room)) (fun a U => a = #[(.ref r0), (.int p1)] ∧ Z.Warmed39 U.vm ∧ U.heap = h0) (fun _ _ _ _ _ => True) (fun _ U o U' => ∃ v L, o = .returned v ∧ own_Q3 Z r0 p1 z_b z_e b_b b_e w_s w_u g_e h0 n0 v U'.heap L ∧ FrameEnd U o U' L ({ frames := 0, cells := 0, slots := 0, locals := 0 } : Room).cells ({ frames := 0, cells := 0, slots := 0, locals := 0 } : Room).slots) := by
  refine MetFree.of_bodySF (plainFor_of_name own_pn0) hisR ?_
  intro p e s m args below meth c s₁ Bd hml0 hP hK
  obtain ⟨rfl, hZ, hh⟩ := hP
  have hx := Bd.exec
  have hby := Bd.bytes
  have hml : c.maxLocals = 2 := hml0
  have hown : s.vm.findClass "com/example/barnacle/barnacle/KeyBatch" = some m.cls := findClass_of_methodNamed Bd.named
  have hnm := (name_of_methodNamed Bd.named Bd.method).1
  have X0 : Stand p l e ({ frames := 0, cells := 0, slots := 0, locals := 0 } : Room) s m #[(.ref r0), (.int p1)] below meth c s₁ [] 0 0 := Stand.of_body Bd
  have e0 : s₁.heap = h0 := by rw [← hh, Bd.state]; rfl
  have N0 := Fr.nil n0
  have pre0 : ∀ t, Steps p.tables e below (s₁.setTop (mkF m 0 #[.val (.ref r0), .val (.int p1)] [])) t → Steps p.tables e below (s₁.setTop (entryFrame m #[(.ref r0), (.int p1)] 2)) t := fun t k => castTop (own_ef3 m r0 p1) k
  refine own_run (own_st pre0 ?_)
  refine own_st (B := s₁.setTop (mkF m 1 #[.val (.ref r0), .val (.int p1)] [(.ref r0)])) (fun target kt => ?_) ?_
  · show Steps p.tables e below (s₁.setTop (mkF m 0 #[.val (.ref r0), .val (.int p1)] [])) target
    refine XS.aloadN X0.here hx rfl (hb hby own_d3_0) rfl rfl ?_
    exact kt
  obtain ⟨Tg1, Xg1, eg1, stg1⟩ := getF X0 hx hZ hown (host := "") (Or.inl (hw _ (List.mem_of_getElem? (i := 21) rfl))) Via.refl e0 F_r0_size (g := (mkF m 1 #[.val (.ref r0), .val (.int p1)] [(.ref r0)])) rfl rfl (hb hby own_d3_1)
  refine own_st stg1 ?_
  refine own_st (B := Tg1.setTop (mkF m 5 #[.val (.ref r0), .val (.int p1)] [(.ref r0), (.int w_s)])) (fun target kt => ?_) ?_
  · show Steps p.tables e below (Tg1.setTop (mkF m 4 #[.val (.ref r0), .val (.int p1)] [(.int w_s)])) target
    refine XS.aloadN Xg1.here hx rfl (hb hby own_d3_4) rfl rfl ?_
    exact kt
  obtain ⟨Tg5, Xg5, eg5, stg5⟩ := getF Xg1 hx hZ hown (host := "") (Or.inl (hw _ (List.mem_of_getElem? (i := 14) rfl))) Via.refl eg1 F_r0_ends (g := (mkF m 5 #[.val (.ref r0), .val (.int p1)] [(.ref r0), (.int w_s)])) rfl rfl (hb hby own_d3_5)
  refine own_st stg5 ?_
  obtain ⟨clg8, Arg8, Szg8, -⟩ := id R_b_e
  refine own_st (B := Tg5.setTop (mkF m 9 #[.val (.ref r0), .val (.int p1)] [(.int z_e), (.int w_s)])) (fun target kt => ?_) ?_
  · refine Xg5.arraylength hx (by first | exact Arg8.1 | (rw [eg5]; exact Arg8.1)) (State.isArrayOf_alike hZ.alike Arg8.2.1) (g := (mkF m 8 #[.val (.ref r0), .val (.int p1)] [(.ref b_e), (.int w_s)])) rfl rfl (hb hby own_d3_8) _ ?_
    rw [len_of Szg8 hze]
    exact kt
  obtain ⟨_, ⟨T_M31, lc_M31, j31_s0, rfl, X_M31, e_M31, N_M31, Z_M31, F, F_1, F_2, F_3, F_4, F_5, rfl⟩, st_M31⟩ : own_Lead p.tables e below (Tg5.setTop (mkF m 9 #[.val (.ref r0), .val (.int p1)] [(.int z_e), (.int w_s)])) (fun B => ∃ (T_M31 : State) (lc_M31 : List Loc) (j31_s0 : Int32), B = T_M31.setTop (mkF m 31 #[.val (.ref r0), .val (.int p1)] [(.int j31_s0)]) ∧ Stand p l e ({ frames := 0, cells := 0, slots := 0, locals := 0 } : Room) s m #[(.ref r0), (.int p1)] below meth c T_M31 lc_M31 0 0 ∧ T_M31.heap = h0 ∧ Fr n0 lc_M31 ∧ n0 ≤ h0.size ∧ Fld Z h0 r0 "com/example/barnacle/barnacle/KeyBatch" "bytes" "[B" (.ref b_b) ∧ Fld Z h0 r0 "com/example/barnacle/barnacle/KeyBatch" "ends" "[I" (.ref b_e) ∧ Fld Z h0 r0 "com/example/barnacle/barnacle/KeyBatch" "size" "I" (.int w_s) ∧ Fld Z h0 r0 "com/example/barnacle/barnacle/KeyBatch" "used" "I" (.int w_u) ∧ own_RayL Z h0 b_b (z_b).toNatClampNeg () ∧ own_RayI Z h0 b_e (z_e).toNatClampNeg g_e ∧ j31_s0 = own_b (((w_s < z_e) ∧ (¬ ((z_b - w_u) < p1))))) := by
    by_cases c9 : w_s < z_e
    · refine own_st (B := Tg5.setTop (mkF m 14 #[.val (.ref r0), .val (.int p1)] [(.ref r0), (.int p1)])) (fun target kt => ?_) ?_
      · show Steps p.tables e below (Tg5.setTop (mkF m 9 #[.val (.ref r0), .val (.int p1)] [(.int z_e), (.int w_s)])) target
        refine XS.icmpNo Xg5.here hx rfl (hb hby own_d3_9) rfl (tlt c9).2.1 ?_
        show Steps p.tables e below (Tg5.setTop (mkF m 12 #[.val (.ref r0), .val (.int p1)] [])) target
        refine XS.iloadN Xg5.here hx rfl (hb hby own_d3_12) rfl ?_
        show Steps p.tables e below (Tg5.setTop (mkF m 13 #[.val (.ref r0), .val (.int p1)] [(.int p1)])) target
        refine XS.aloadN Xg5.here hx rfl (hb hby own_d3_13) rfl rfl ?_
        exact kt
      obtain ⟨Tg14, Xg14, eg14, stg14⟩ := getF Xg5 hx hZ hown (host := "") (Or.inl (hw _ (List.mem_of_getElem? (i := 11) rfl))) Via.refl eg5 F_r0_bytes (g := (mkF m 14 #[.val (.ref r0), .val (.int p1)] [(.ref r0), (.int p1)])) rfl rfl (hb hby own_d3_14)
      refine own_st stg14 ?_
      obtain ⟨clg17, Arg17, Szg17, -⟩ := own_RayL.len R_b_b
      refine own_st (B := Tg14.setTop (mkF m 18 #[.val (.ref r0), .val (.int p1)] [(.int z_b), (.int p1)])) (fun target kt => ?_) ?_
      · refine Xg14.arraylength hx (by first | exact Arg17.1 | (rw [eg14]; exact Arg17.1)) (State.isArrayOf_alike hZ.alike Arg17.2.1) (g := (mkF m 17 #[.val (.ref r0), .val (.int p1)] [(.ref b_b), (.int p1)])) rfl rfl (hb hby own_d3_17) _ ?_
        rw [len_of Szg17 hzb]
        exact kt
      refine own_st (B := Tg14.setTop (mkF m 19 #[.val (.ref r0), .val (.int p1)] [(.ref r0), (.int z_b), (.int p1)])) (fun target kt => ?_) ?_
      · show Steps p.tables e below (Tg14.setTop (mkF m 18 #[.val (.ref r0), .val (.int p1)] [(.int z_b), (.int p1)])) target
        refine XS.aloadN Xg14.here hx rfl (hb hby own_d3_18) rfl rfl ?_
        exact kt
      obtain ⟨Tg19, Xg19, eg19, stg19⟩ := getF Xg14 hx hZ hown (host := "") (Or.inl (hw _ (List.mem_of_getElem? (i := 23) rfl))) Via.refl eg14 F_r0_used (g := (mkF m 19 #[.val (.ref r0), .val (.int p1)] [(.ref r0), (.int z_b), (.int p1)])) rfl rfl (hb hby own_d3_19)
      refine own_st stg19 ?_
      refine own_st (B := Tg19.setTop (mkF m 23 #[.val (.ref r0), .val (.int p1)] [(.int (z_b - w_u)), (.int p1)])) (fun target kt => ?_) ?_
      · show Steps p.tables e below (Tg19.setTop (mkF m 22 #[.val (.ref r0), .val (.int p1)] [(.int w_u), (.int z_b), (.int p1)])) target
        refine XS.isub Xg19.here hx rfl (hb hby own_d3_22) rfl ?_
        exact kt
      by_cases c23 : (z_b - w_u) < p1
      · refine own_st (B := Tg19.setTop (mkF m 31 #[.val (.ref r0), .val (.int p1)] [(.int (0 : Int32))])) (fun target kt => ?_) ?_
        · show Steps p.tables e below (Tg19.setTop (mkF m 23 #[.val (.ref r0), .val (.int p1)] [(.int (z_b - w_u)), (.int p1)])) target
          refine XS.icmpYes Xg19.here hx rfl (pc0 := 23) (pc' := 30) rfl (hb hby own_d3_23) rfl (tlt c23).2.2.1 (by decide) (by decide) ?_
          show Steps p.tables e below (Tg19.setTop (mkF m 30 #[.val (.ref r0), .val (.int p1)] [])) target
          refine XS.iconst Xg19.here hx rfl (hb hby own_d3_30) ?_
          exact kt
        exact ⟨_, ⟨Tg19, _, (0 : Int32), rfl, Xg19, eg19, N0, Z0, F_r0_bytes, F_r0_ends, F_r0_size, F_r0_used, R_b_b, R_b_e, (own_b0 (fun w => (fun w => w c23) w.2)).symm⟩, fun _ k => k⟩
      · refine own_st (B := Tg19.setTop (mkF m 31 #[.val (.ref r0), .val (.int p1)] [(.int (1 : Int32))])) (fun target kt => ?_) ?_
        · show Steps p.tables e below (Tg19.setTop (mkF m 23 #[.val (.ref r0), .val (.int p1)] [(.int (z_b - w_u)), (.int p1)])) target
          refine XS.icmpNo Xg19.here hx rfl (hb hby own_d3_23) rfl (flt c23).2.2.1 ?_
          show Steps p.tables e below (Tg19.setTop (mkF m 26 #[.val (.ref r0), .val (.int p1)] [])) target
          refine XS.iconst Xg19.here hx rfl (hb hby own_d3_26) ?_
          show Steps p.tables e below (Tg19.setTop (mkF m 27 #[.val (.ref r0), .val (.int p1)] [(.int (1 : Int32))])) target
          refine XS.goto Xg19.here hx rfl (pc0 := 27) (pc' := 31) rfl (hb hby own_d3_27) (by decide) (by decide) ?_
          exact kt
        exact ⟨_, ⟨Tg19, _, (1 : Int32), rfl, Xg19, eg19, N0, Z0, F_r0_bytes, F_r0_ends, F_r0_size, F_r0_used, R_b_b, R_b_e, (own_b1 ⟨c9, c23⟩).symm⟩, fun _ k => k⟩
    · refine own_st (B := Tg5.setTop (mkF m 31 #[.val (.ref r0), .val (.int p1)] [(.int (0 : Int32))])) (fun target kt => ?_) ?_
      · show Steps p.tables e below (Tg5.setTop (mkF m 9 #[.val (.ref r0), .val (.int p1)] [(.int z_e), (.int w_s)])) target
        refine XS.icmpYes Xg5.here hx rfl (pc0 := 9) (pc' := 30) rfl (hb hby own_d3_9) rfl (flt c9).2.1 (by decide) (by decide) ?_
        show Steps p.tables e below (Tg5.setTop (mkF m 30 #[.val (.ref r0), .val (.int p1)] [])) target
        refine XS.iconst Xg5.here hx rfl (hb hby own_d3_30) ?_
        exact kt
      exact ⟨_, ⟨Tg5, _, (0 : Int32), rfl, Xg5, eg5, N0, Z0, F_r0_bytes, F_r0_ends, F_r0_size, F_r0_used, R_b_b, R_b_e, (own_b0 (fun w => c9 w.1)).symm⟩, fun _ k => k⟩
  refine own_st st_M31 ?_
  obtain ⟨fs, hr, hrun, hended, hW, hsame⟩ := X_M31.leave (v := some (.int (nar .boolean (own_b ((w_s < z_e) ∧ (¬ ((z_b - w_u) < p1))))))) (fun h => by rw [Bd.returns] at h; cases h)
  have hend : Steps p.tables e below (T_M31.setTop (mkF m 31 #[.val (.ref r0), .val (.int p1)] [(.int (own_b ((w_s < z_e) ∧ (¬ ((z_b - w_u) < p1)))))])) (T_M31.setFrames fs) := by
    exact retN X_M31 hx (t := .boolean) Bd.returns (by simp) (hb hby own_d3_31) hr
  refine own_fin hend ⟨_, hrun, hended, _, _, rfl, ?_, ⟨_, rfl⟩, hW, hsame.mono (by decide) (by decide)⟩
  show own_Q3 Z r0 p1 z_b z_e b_b b_e w_s w_u g_e h0 n0 _ T_M31.heap _
  rw [e_M31]
  exact ⟨(congrArg (fun z => some (Value.int z)) ((own_nar rfl).trans (own_bi ⟨fun w => w, fun w => w⟩))), N_M31, rfl⟩
theorem own_pn1 : plainName "jdk/internal/util/Preconditions" = true := by first | (simp [plainName, overriddenIn]; done) | decide +kernel
theorem own_d6_0 : decode jdk_41_method_13_code 0 = .ok (.iload_n 2, 1) := by decide +kernel
theorem own_d6_1 : decode jdk_41_method_13_code 1 = .ok (.iload_n 0, 1) := by decide +kernel
theorem own_d6_2 : decode jdk_41_method_13_code 2 = .ok (.ior, 1) := by decide +kernel
theorem own_d6_3 : decode jdk_41_method_13_code 3 = .ok (.iload_n 1, 1) := by decide +kernel
theorem own_d6_4 : decode jdk_41_method_13_code 4 = .ok (.ior, 1) := by decide +kernel
theorem own_d6_5 : decode jdk_41_method_13_code 5 = .ok (.ifCond .lt 10, 3) := by decide +kernel
theorem own_d6_8 : decode jdk_41_method_13_code 8 = .ok (.iload_n 1, 1) := by decide +kernel
theorem own_d6_9 : decode jdk_41_method_13_code 9 = .ok (.iload_n 2, 1) := by decide +kernel
theorem own_d6_10 : decode jdk_41_method_13_code 10 = .ok (.iload_n 0, 1) := by decide +kernel
theorem own_d6_11 : decode jdk_41_method_13_code 11 = .ok (.isub, 1) := by decide +kernel
theorem own_d6_12 : decode jdk_41_method_13_code 12 = .ok (.if_icmp .le 11, 3) := by decide +kernel
theorem own_d6_23 : decode jdk_41_method_13_code 23 = .ok (.iload_n 0, 1) := by decide +kernel
theorem own_d6_24 : decode jdk_41_method_13_code 24 = .ok (.ireturn, 1) := by decide +kernel
theorem own_ef6 (m : MethodId) (p0 : Int32) (p1 : Int32) (p2 : Int32) : entryFrame m #[(.int p0), (.int p1), (.int p2), .null] 4 = mkF m 0 #[.val (.int p0), .val (.int p1), .val (.int p2), .val .null] [] := by first | (simp [entryFrame, mkF, argsToLocals, Value.category]; done) | rfl
def own_Q6 (Z : State) (p0 : Int32) (p1 : Int32) (p2 : Int32) (h0 : Heap) (n0 : Nat) (v : Option Value) (h : Heap) (L : List Loc) : Prop := (v = some (.int p0)) ∧ (Fr n0 L) ∧ (h = h0)
set_option maxRecDepth 65536 in
set_option maxHeartbeats 40000000 in
theorem own_rm6 (l : Launch) (Z : State) (a0 : Array Value) (hw : ∀ d ∈ tables_1, d.before a0 Z = true) (ws : List Jvm.Cond) (p0 : Int32) (p1 : Int32) (p2 : Int32) (h0 : Heap) (n0 : Nat) (Z0 : n0 ≤ h0.size) (hor : ¬ (((p2 ||| p0) ||| p1) < (0 : Int32))) (hle : ¬ ((p2 - p0) < p1)) :
    MetFree l (⟨"jdk/internal/util/Preconditions", "checkFromIndexSize", "(IIILjava/util/function/BiFunction;)I"⟩ : MethodName) (head1 (Jvm.Cond.code (⟨"jdk/internal/util/Preconditions", "checkFromIndexSize", "(IIILjava/util/function/BiFunction;)I"⟩ : MethodName) jdk_41_method_13_code 4 (some .int) :: ws) ({ frames := 0, cells := 0, slots := 0, locals := 0 } : Room)) (fun a U => a = #[(.int p0), (.int p1), (.int p2), .null] ∧ Z.Warmed39 U.vm ∧ U.heap = h0) (fun _ _ _ _ _ => True) (fun _ U o U' => ∃ v L, o = .returned v ∧ own_Q6 Z p0 p1 p2 h0 n0 v U'.heap L ∧ FrameEnd U o U' L ({ frames := 0, cells := 0, slots := 0, locals := 0 } : Room).cells ({ frames := 0, cells := 0, slots := 0, locals := 0 } : Room).slots) := by
  refine MetFree.of_bodySF (plainFor_of_name own_pn1) hisR ?_
  intro p e s m args below meth c s₁ Bd hml0 hP hK
  obtain ⟨rfl, hZ, hh⟩ := hP
  have hx := Bd.exec
  have hby := Bd.bytes
  have hml : c.maxLocals = 4 := hml0
  have hown : s.vm.findClass "jdk/internal/util/Preconditions" = some m.cls := findClass_of_methodNamed Bd.named
  have hnm := (name_of_methodNamed Bd.named Bd.method).1
  have X0 : Stand p l e ({ frames := 0, cells := 0, slots := 0, locals := 0 } : Room) s m #[(.int p0), (.int p1), (.int p2), .null] below meth c s₁ [] 0 0 := Stand.of_body Bd
  have e0 : s₁.heap = h0 := by rw [← hh, Bd.state]; rfl
  have N0 := Fr.nil n0
  have pre0 : ∀ t, Steps p.tables e below (s₁.setTop (mkF m 0 #[.val (.int p0), .val (.int p1), .val (.int p2), .val .null] [])) t → Steps p.tables e below (s₁.setTop (entryFrame m #[(.int p0), (.int p1), (.int p2), .null] 4)) t := fun t k => castTop (own_ef6 m p0 p1 p2) k
  refine own_run (own_st pre0 ?_)
  refine own_st (B := s₁.setTop (mkF m 5 #[.val (.int p0), .val (.int p1), .val (.int p2), .val .null] [(.int ((p2 ||| p0) ||| p1))])) (fun target kt => ?_) ?_
  · show Steps p.tables e below (s₁.setTop (mkF m 0 #[.val (.int p0), .val (.int p1), .val (.int p2), .val .null] [])) target
    refine XS.iloadN X0.here hx rfl (hb hby own_d6_0) rfl ?_
    show Steps p.tables e below (s₁.setTop (mkF m 1 #[.val (.int p0), .val (.int p1), .val (.int p2), .val .null] [(.int p2)])) target
    refine XS.iloadN X0.here hx rfl (hb hby own_d6_1) rfl ?_
    show Steps p.tables e below (s₁.setTop (mkF m 2 #[.val (.int p0), .val (.int p1), .val (.int p2), .val .null] [(.int p0), (.int p2)])) target
    refine XS.ior X0.here hx rfl (hb hby own_d6_2) rfl ?_
    show Steps p.tables e below (s₁.setTop (mkF m 3 #[.val (.int p0), .val (.int p1), .val (.int p2), .val .null] [(.int (p2 ||| p0))])) target
    refine XS.iloadN X0.here hx rfl (hb hby own_d6_3) rfl ?_
    show Steps p.tables e below (s₁.setTop (mkF m 4 #[.val (.int p0), .val (.int p1), .val (.int p2), .val .null] [(.int p1), (.int (p2 ||| p0))])) target
    refine XS.ior X0.here hx rfl (hb hby own_d6_4) rfl ?_
    exact kt
  have c5 : ¬ (((p2 ||| p0) ||| p1) < (0 : Int32)) := by
    exact hor
  refine own_st (B := s₁.setTop (mkF m 12 #[.val (.int p0), .val (.int p1), .val (.int p2), .val .null] [(.int (p2 - p0)), (.int p1)])) (fun target kt => ?_) ?_
  · show Steps p.tables e below (s₁.setTop (mkF m 5 #[.val (.int p0), .val (.int p1), .val (.int p2), .val .null] [(.int ((p2 ||| p0) ||| p1))])) target
    refine XS.ifNo X0.here hx rfl (hb hby own_d6_5) rfl ((if0 _ _).trans (flt c5).1) ?_
    show Steps p.tables e below (s₁.setTop (mkF m 8 #[.val (.int p0), .val (.int p1), .val (.int p2), .val .null] [])) target
    refine XS.iloadN X0.here hx rfl (hb hby own_d6_8) rfl ?_
    show Steps p.tables e below (s₁.setTop (mkF m 9 #[.val (.int p0), .val (.int p1), .val (.int p2), .val .null] [(.int p1)])) target
    refine XS.iloadN X0.here hx rfl (hb hby own_d6_9) rfl ?_
    show Steps p.tables e below (s₁.setTop (mkF m 10 #[.val (.int p0), .val (.int p1), .val (.int p2), .val .null] [(.int p2), (.int p1)])) target
    refine XS.iloadN X0.here hx rfl (hb hby own_d6_10) rfl ?_
    show Steps p.tables e below (s₁.setTop (mkF m 11 #[.val (.int p0), .val (.int p1), .val (.int p2), .val .null] [(.int p0), (.int p2), (.int p1)])) target
    refine XS.isub X0.here hx rfl (hb hby own_d6_11) rfl ?_
    exact kt
  have c12 : ¬ ((p2 - p0) < p1) := by
    exact hle
  refine own_st (B := s₁.setTop (mkF m 24 #[.val (.int p0), .val (.int p1), .val (.int p2), .val .null] [(.int p0)])) (fun target kt => ?_) ?_
  · show Steps p.tables e below (s₁.setTop (mkF m 12 #[.val (.int p0), .val (.int p1), .val (.int p2), .val .null] [(.int (p2 - p0)), (.int p1)])) target
    refine XS.icmpYes X0.here hx rfl (pc0 := 12) (pc' := 23) rfl (hb hby own_d6_12) rfl (flt c12).2.2.2 (by decide) (by decide) ?_
    show Steps p.tables e below (s₁.setTop (mkF m 23 #[.val (.int p0), .val (.int p1), .val (.int p2), .val .null] [])) target
    refine XS.iloadN X0.here hx rfl (hb hby own_d6_23) rfl ?_
    exact kt
  obtain ⟨fs, hr, hrun, hended, hW, hsame⟩ := X0.leave (v := some (.int p0)) (fun h => by rw [Bd.returns] at h; cases h)
  have hend : Steps p.tables e below (s₁.setTop (mkF m 24 #[.val (.int p0), .val (.int p1), .val (.int p2), .val .null] [(.int p0)])) (s₁.setFrames fs) := by
    exact retI X0 hx Bd.returns (hb hby own_d6_24) hr
  refine own_fin hend ⟨_, hrun, hended, _, _, rfl, ?_, ⟨_, rfl⟩, hW, hsame.mono (by decide) (by decide)⟩
  show own_Q6 Z p0 p1 p2 h0 n0 _ s₁.heap _
  rw [e0]
  exact ⟨(congrArg (fun z => some (Value.int z)) rfl), N0, rfl⟩
theorem own_pd0 : parseMethodDescriptor "(IIILjava/util/function/BiFunction;)I" = some ⟨[.int, .int, .int, (.object "java/util/function/BiFunction")], some .int⟩ := by decide +kernel
theorem own_pn2 : plainName "java/util/Objects" = true := by first | (simp [plainName, overriddenIn]; done) | decide +kernel
theorem own_d5_0 : decode jdk_31_method_19_code 0 = .ok (.iload_n 0, 1) := by decide +kernel
theorem own_d5_1 : decode jdk_31_method_19_code 1 = .ok (.iload_n 1, 1) := by decide +kernel
theorem own_d5_2 : decode jdk_31_method_19_code 2 = .ok (.iload_n 2, 1) := by decide +kernel
theorem own_d5_3 : decode jdk_31_method_19_code 3 = .ok (.aconst_null, 1) := by decide +kernel
theorem own_d5_4 : decode jdk_31_method_19_code 4 = .ok (.invokestatic 115, 3) := by decide +kernel
theorem own_d5_7 : decode jdk_31_method_19_code 7 = .ok (.ireturn, 1) := by decide +kernel
theorem own_ef5 (m : MethodId) (p0 : Int32) (p1 : Int32) (p2 : Int32) : entryFrame m #[(.int p0), (.int p1), (.int p2)] 3 = mkF m 0 #[.val (.int p0), .val (.int p1), .val (.int p2)] [] := by first | (simp [entryFrame, mkF, argsToLocals, Value.category]; done) | rfl
def own_Q5 (Z : State) (p0 : Int32) (p1 : Int32) (p2 : Int32) (h0 : Heap) (n0 : Nat) (v : Option Value) (h : Heap) (L : List Loc) : Prop := (v = some (.int p0)) ∧ (Fr n0 L) ∧ (h = h0)
set_option maxRecDepth 65536 in
set_option maxHeartbeats 40000000 in
theorem own_rm5 (l : Launch) (Z : State) (a0 : Array Value) (hw : ∀ d ∈ tables_1, d.before a0 Z = true) (ws : List Jvm.Cond) (p0 : Int32) (p1 : Int32) (p2 : Int32) (h0 : Heap) (n0 : Nat) (Z0 : n0 ≤ h0.size) (hor : ¬ (((p2 ||| p0) ||| p1) < (0 : Int32))) (hle : ¬ ((p2 - p0) < p1)) :
    MetFree l (⟨"java/util/Objects", "checkFromIndexSize", "(III)I"⟩ : MethodName) (head1 (Jvm.Cond.code (⟨"java/util/Objects", "checkFromIndexSize", "(III)I"⟩ : MethodName) jdk_31_method_19_code 3 (some .int) :: ws) ({ frames := 1, cells := 0, slots := 0, locals := 15 } : Room)) (fun a U => a = #[(.int p0), (.int p1), (.int p2)] ∧ Z.Warmed39 U.vm ∧ U.heap = h0) (fun _ _ _ _ _ => True) (fun _ U o U' => ∃ v L, o = .returned v ∧ own_Q5 Z p0 p1 p2 h0 n0 v U'.heap L ∧ FrameEnd U o U' L ({ frames := 1, cells := 0, slots := 0, locals := 15 } : Room).cells ({ frames := 1, cells := 0, slots := 0, locals := 15 } : Room).slots) := by
  refine MetFree.of_bodySF (plainFor_of_name own_pn2) hisR ?_
  intro p e s m args below meth c s₁ Bd hml0 hP hK
  obtain ⟨rfl, hZ, hh⟩ := hP
  have hx := Bd.exec
  have hby := Bd.bytes
  have hml : c.maxLocals = 3 := hml0
  have hown : s.vm.findClass "java/util/Objects" = some m.cls := findClass_of_methodNamed Bd.named
  have hnm := (name_of_methodNamed Bd.named Bd.method).1
  have X0 : Stand p l e ({ frames := 1, cells := 0, slots := 0, locals := 15 } : Room) s m #[(.int p0), (.int p1), (.int p2)] below meth c s₁ [] 0 0 := Stand.of_body Bd
  have e0 : s₁.heap = h0 := by rw [← hh, Bd.state]; rfl
  have N0 := Fr.nil n0
  have pre0 : ∀ t, Steps p.tables e below (s₁.setTop (mkF m 0 #[.val (.int p0), .val (.int p1), .val (.int p2)] [])) t → Steps p.tables e below (s₁.setTop (entryFrame m #[(.int p0), (.int p1), (.int p2)] 3)) t := fun t k => castTop (own_ef5 m p0 p1 p2) k
  refine own_run (own_st pre0 ?_)
  refine own_st (B := s₁.setTop (mkF m 4 #[.val (.int p0), .val (.int p1), .val (.int p2)] [.null, (.int p2), (.int p1), (.int p0)])) (fun target kt => ?_) ?_
  · show Steps p.tables e below (s₁.setTop (mkF m 0 #[.val (.int p0), .val (.int p1), .val (.int p2)] [])) target
    refine XS.iloadN X0.here hx rfl (hb hby own_d5_0) rfl ?_
    show Steps p.tables e below (s₁.setTop (mkF m 1 #[.val (.int p0), .val (.int p1), .val (.int p2)] [(.int p0)])) target
    refine XS.iloadN X0.here hx rfl (hb hby own_d5_1) rfl ?_
    show Steps p.tables e below (s₁.setTop (mkF m 2 #[.val (.int p0), .val (.int p1), .val (.int p2)] [(.int p1), (.int p0)])) target
    refine XS.iloadN X0.here hx rfl (hb hby own_d5_2) rfl ?_
    show Steps p.tables e below (s₁.setTop (mkF m 3 #[.val (.int p0), .val (.int p1), .val (.int p2)] [(.int p2), (.int p1), (.int p0)])) target
    refine XS.aconstNull X0.here hx rfl (hb hby own_d5_3) ?_
    exact kt
  obtain ⟨_, _, ⟨Tg4, Lg4, kg4, ng4⟩, -, Xg4, ⟨Lcg4, hQg4, lg4, yg4, zg4⟩, stg4⟩ := Jvm.LawKit.callS X0 hx (y := (⟨"jdk/internal/util/Preconditions", "checkFromIndexSize", "(IIILjava/util/function/BiFunction;)I"⟩ : MethodName)) hown (mvT hZ (hw _ (List.mem_of_getElem? (i := 34) rfl))) (mvT hZ (hw _ (List.mem_of_getElem? (i := 35) rfl))) (mvT hZ (hw _ (List.mem_of_getElem? (i := 36) rfl))) (mvT hZ (hw _ (List.mem_of_getElem? (i := 37) rfl))) (by decide) (backOf (W := 0) (own_rm6 l Z a0 hw [] p0 p1 p2 h0 n0 Z0 (show ¬ (((p2 ||| p0) ||| p1) < (0 : Int32)) from hor) (show ¬ ((p2 - p0) < p1) from hle)) hZ (hw _ (List.mem_of_getElem? (i := 37) rfl)) (hw _ (List.mem_of_getElem? (i := 36) rfl)) (by decide) (by decide)) (g := (mkF m 4 #[.val (.int p0), .val (.int p1), .val (.int p2)] [.null, (.int p2), (.int p1), (.int p0)])) rfl (by rw [hml]; rfl) (argsL := [(.int p0), (.int p1), (.int p2), .null]) (rest := []) (lenOf own_pd0 rfl) rfl (by show 2 * 0 + _ ≤ _; exact Nat.le_of_eq rfl) (hb hby own_d5_4) (fun _ _ => ⟨rfl, e0, (by decide : 0 + 0 ≤ _), (by decide : 0 + 0 ≤ _)⟩)
  dsimp only [Pt.U, Pt.locs, Pt.cells, Pt.slots] at Xg4 lg4 yg4 zg4 stg4 hQg4
  subst lg4 yg4 zg4
  obtain ⟨rfl, Ng4q, eg4⟩ := hQg4
  have Ng4 := Fr.app N0 Ng4q
  refine own_st (stg4) ?_
  obtain ⟨fs, hr, hrun, hended, hW, hsame⟩ := Xg4.leave (v := some (.int p0)) (fun h => by rw [Bd.returns] at h; cases h)
  have hend : Steps p.tables e below (Tg4.setTop (mkF m 7 #[.val (.int p0), .val (.int p1), .val (.int p2)] [(.int p0)])) (Tg4.setFrames fs) := by
    exact retI Xg4 hx Bd.returns (hb hby own_d5_7) hr
  refine own_fin hend ⟨_, hrun, hended, _, _, rfl, ?_, ⟨_, rfl⟩, hW, hsame.mono (by decide) (by decide)⟩
  show own_Q5 Z p0 p1 p2 h0 n0 _ Tg4.heap _
  rw [eg4]
  exact ⟨(congrArg (fun z => some (Value.int z)) rfl), Ng4, rfl⟩
theorem own_pd1 : parseMethodDescriptor "(III)I" = some ⟨[.int, .int, .int], some .int⟩ := by decide +kernel
theorem own_pd2 : parseMethodDescriptor "(I)Z" = some ⟨[.int], some .boolean⟩ := by decide +kernel
theorem own_d4_0 : decode prog_13_method_3_code 0 = .ok (.iload_n 2, 1) := by decide +kernel
theorem own_d4_1 : decode prog_13_method_3_code 1 = .ok (.iload_n 3, 1) := by decide +kernel
theorem own_d4_2 : decode prog_13_method_3_code 2 = .ok (.aload_n 1, 1) := by decide +kernel
theorem own_d4_3 : decode prog_13_method_3_code 3 = .ok (.arraylength, 1) := by decide +kernel
theorem own_d4_4 : decode prog_13_method_3_code 4 = .ok (.invokestatic 34, 3) := by decide +kernel
theorem own_d4_7 : decode prog_13_method_3_code 7 = .ok (.pop, 1) := by decide +kernel
theorem own_d4_8 : decode prog_13_method_3_code 8 = .ok (.aload_n 0, 1) := by decide +kernel
theorem own_d4_9 : decode prog_13_method_3_code 9 = .ok (.iload_n 3, 1) := by decide +kernel
theorem own_d4_10 : decode prog_13_method_3_code 10 = .ok (.invokevirtual 40, 3) := by decide +kernel
theorem own_d4_13 : decode prog_13_method_3_code 13 = .ok (.ifCond .ne 17, 3) := by decide +kernel
theorem own_d4_30 : decode prog_13_method_3_code 30 = .ok (.aload_n 1, 1) := by decide +kernel
theorem own_d4_31 : decode prog_13_method_3_code 31 = .ok (.iload_n 2, 1) := by decide +kernel
theorem own_d4_32 : decode prog_13_method_3_code 32 = .ok (.aload_n 0, 1) := by decide +kernel
theorem own_d4_33 : decode prog_13_method_3_code 33 = .ok (.getfield 19, 3) := by decide +kernel
theorem own_d4_36 : decode prog_13_method_3_code 36 = .ok (.aload_n 0, 1) := by decide +kernel
theorem own_d4_37 : decode prog_13_method_3_code 37 = .ok (.getfield 31, 3) := by decide +kernel
theorem own_d4_40 : decode prog_13_method_3_code 40 = .ok (.iload_n 3, 1) := by decide +kernel
theorem own_d4_41 : decode prog_13_method_3_code 41 = .ok (.invokestatic 50, 3) := by decide +kernel
theorem own_d4_44 : decode prog_13_method_3_code 44 = .ok (.aload_n 0, 1) := by decide +kernel
theorem own_d4_45 : decode prog_13_method_3_code 45 = .ok (.dup, 1) := by decide +kernel
theorem own_d4_46 : decode prog_13_method_3_code 46 = .ok (.getfield 31, 3) := by decide +kernel
theorem own_d4_49 : decode prog_13_method_3_code 49 = .ok (.iload_n 3, 1) := by decide +kernel
theorem own_d4_50 : decode prog_13_method_3_code 50 = .ok (.iadd, 1) := by decide +kernel
theorem own_d4_51 : decode prog_13_method_3_code 51 = .ok (.putfield 31, 3) := by decide +kernel
theorem own_d4_54 : decode prog_13_method_3_code 54 = .ok (.aload_n 0, 1) := by decide +kernel
theorem own_d4_55 : decode prog_13_method_3_code 55 = .ok (.getfield 23, 3) := by decide +kernel
theorem own_d4_58 : decode prog_13_method_3_code 58 = .ok (.aload_n 0, 1) := by decide +kernel
theorem own_d4_59 : decode prog_13_method_3_code 59 = .ok (.getfield 27, 3) := by decide +kernel
theorem own_d4_62 : decode prog_13_method_3_code 62 = .ok (.aload_n 0, 1) := by decide +kernel
theorem own_d4_63 : decode prog_13_method_3_code 63 = .ok (.getfield 31, 3) := by decide +kernel
theorem own_d4_66 : decode prog_13_method_3_code 66 = .ok (.iastore, 1) := by decide +kernel
theorem own_d4_67 : decode prog_13_method_3_code 67 = .ok (.aload_n 0, 1) := by decide +kernel
theorem own_d4_68 : decode prog_13_method_3_code 68 = .ok (.dup, 1) := by decide +kernel
theorem own_d4_69 : decode prog_13_method_3_code 69 = .ok (.getfield 27, 3) := by decide +kernel
theorem own_d4_72 : decode prog_13_method_3_code 72 = .ok (.iconst 1, 1) := by decide +kernel
theorem own_d4_73 : decode prog_13_method_3_code 73 = .ok (.iadd, 1) := by decide +kernel
theorem own_d4_74 : decode prog_13_method_3_code 74 = .ok (.putfield 27, 3) := by decide +kernel
theorem own_d4_77 : decode prog_13_method_3_code 77 = .ok (.return_, 1) := by decide +kernel
theorem own_ef4 (m : MethodId) (r0 : Addr) (r1 : Addr) (p3 : Int32) : entryFrame m #[(.ref r0), (.ref r1), (.int (0 : Int32)), (.int p3)] 4 = mkF m 0 #[.val (.ref r0), .val (.ref r1), .val (.int (0 : Int32)), .val (.int p3)] [] := by first | (simp [entryFrame, mkF, argsToLocals, Value.category]; done) | rfl
def own_Q4 (Z : State) (r0 : Addr) (r1 : Addr) (p3 : Int32) (z_b : Int32) (z_e : Int32) (b_b : Addr) (b_e : Addr) (w_s : Int32) (w_u : Int32) (g_k : Nat → Int32) (g_e : Nat → Int32) (h0 : Heap) (n0 : Nat) (v : Option Value) (h : Heap) (L : List Loc) : Prop := (v = none) ∧ (Fr n0 L) ∧ (Keep h0 h [r0, b_b, b_e]) ∧ (Exa Z h r0 "com/example/barnacle/barnacle/KeyBatch") ∧ (Fld Z h r0 "com/example/barnacle/barnacle/KeyBatch" "bytes" "[B" (.ref b_b)) ∧ (Fld Z h r0 "com/example/barnacle/barnacle/KeyBatch" "ends" "[I" (.ref b_e)) ∧ (Fld Z h r0 "com/example/barnacle/barnacle/KeyBatch" "size" "I" (.int ((w_s + (1 : Int32))))) ∧ (Fld Z h r0 "com/example/barnacle/barnacle/KeyBatch" "used" "I" (.int ((w_u + p3)))) ∧ (own_RayL Z h b_b (z_b).toNatClampNeg ()) ∧ (own_RayI Z h b_e (z_e).toNatClampNeg ((fun i => if i = (w_s).toNatClampNeg then ((w_u + p3)) else g_e i)))
set_option maxRecDepth 65536 in
set_option maxHeartbeats 40000000 in
theorem own_rm4 (l : Launch) (Z : State) (a0 : Array Value) (hw : ∀ d ∈ tables_1, d.before a0 Z = true) (ws : List Jvm.Cond) (r0 : Addr) (r1 : Addr) (p3 : Int32) (z_b : Int32) (z_e : Int32) (b_b : Addr) (b_e : Addr) (w_s : Int32) (w_u : Int32) (g_k : Nat → Int32) (g_e : Nat → Int32) (h0 : Heap) (n0 : Nat) (Z0 : n0 ≤ h0.size) (E_r0 : Exa Z h0 r0 "com/example/barnacle/barnacle/KeyBatch") (F_r0_bytes : Fld Z h0 r0 "com/example/barnacle/barnacle/KeyBatch" "bytes" "[B" (.ref b_b)) (F_r0_ends : Fld Z h0 r0 "com/example/barnacle/barnacle/KeyBatch" "ends" "[I" (.ref b_e)) (F_r0_size : Fld Z h0 r0 "com/example/barnacle/barnacle/KeyBatch" "size" "I" (.int w_s)) (F_r0_used : Fld Z h0 r0 "com/example/barnacle/barnacle/KeyBatch" "used" "I" (.int w_u)) (R_r1 : own_RayB Z h0 r1 8 g_k) (R_b_b : own_RayL Z h0 b_b (z_b).toNatClampNeg ()) (R_b_e : own_RayI Z h0 b_e (z_e).toNatClampNeg g_e) (g_r0 : n0 ≤ r0) (g_b_b : n0 ≤ b_b) (g_b_e : n0 ≤ b_e) (ne_r0_r1 : r0 ≠ r1) (ne_r0_b_b : r0 ≠ b_b) (ne_r0_b_e : r0 ≠ b_e) (ne_r1_b_b : r1 ≠ b_b) (ne_r1_b_e : r1 ≠ b_e) (ne_b_b_b_e : b_b ≠ b_e) (hzb : ¬ (z_b < (0 : Int32))) (hze : ¬ (z_e < (0 : Int32))) (hI : own_I z_b z_e w_u w_s p3) (hf : (w_s < z_e) ∧ (¬ ((z_b - w_u) < p3))) :
    MetFree l (⟨"com/example/barnacle/barnacle/KeyBatch", "add", "([BII)V"⟩ : MethodName) (head1 (Jvm.Cond.code (⟨"com/example/barnacle/barnacle/KeyBatch", "add", "([BII)V"⟩ : MethodName) prog_13_method_3_code 4 none :: ws) ({ frames := 2, cells := 0, slots := 0, locals := 29 } : Room)) (fun a U => a = #[(.ref r0), (.ref r1), (.int (0 : Int32)), (.int p3)] ∧ Z.Warmed39 U.vm ∧ U.heap = h0) (fun _ _ _ _ _ => True) (fun _ U o U' => ∃ v L, o = .returned v ∧ own_Q4 Z r0 r1 p3 z_b z_e b_b b_e w_s w_u g_k g_e h0 n0 v U'.heap L ∧ FrameEnd U o U' L ({ frames := 2, cells := 0, slots := 0, locals := 29 } : Room).cells ({ frames := 2, cells := 0, slots := 0, locals := 29 } : Room).slots) := by
  refine MetFree.of_bodySF (plainFor_of_name own_pn0) hisR ?_
  intro p e s m args below meth c s₁ Bd hml0 hP hK
  obtain ⟨rfl, hZ, hh⟩ := hP
  have hx := Bd.exec
  have hby := Bd.bytes
  have hml : c.maxLocals = 4 := hml0
  have hown : s.vm.findClass "com/example/barnacle/barnacle/KeyBatch" = some m.cls := findClass_of_methodNamed Bd.named
  have hnm := (name_of_methodNamed Bd.named Bd.method).1
  have X0 : Stand p l e ({ frames := 2, cells := 0, slots := 0, locals := 29 } : Room) s m #[(.ref r0), (.ref r1), (.int (0 : Int32)), (.int p3)] below meth c s₁ [] 0 0 := Stand.of_body Bd
  have e0 : s₁.heap = h0 := by rw [← hh, Bd.state]; rfl
  have N0 := Fr.nil n0
  have pre0 : ∀ t, Steps p.tables e below (s₁.setTop (mkF m 0 #[.val (.ref r0), .val (.ref r1), .val (.int (0 : Int32)), .val (.int p3)] [])) t → Steps p.tables e below (s₁.setTop (entryFrame m #[(.ref r0), (.ref r1), (.int (0 : Int32)), (.int p3)] 4)) t := fun t k => castTop (own_ef4 m r0 r1 p3) k
  refine own_run (own_st pre0 ?_)
  have hFF := own_fit z_b z_e w_u w_s p3 hI hf.1 hf.2
  refine own_st (B := s₁.setTop (mkF m 3 #[.val (.ref r0), .val (.ref r1), .val (.int (0 : Int32)), .val (.int p3)] [(.ref r1), (.int p3), (.int (0 : Int32))])) (fun target kt => ?_) ?_
  · show Steps p.tables e below (s₁.setTop (mkF m 0 #[.val (.ref r0), .val (.ref r1), .val (.int (0 : Int32)), .val (.int p3)] [])) target
    refine XS.iloadN X0.here hx rfl (hb hby own_d4_0) rfl ?_
    show Steps p.tables e below (s₁.setTop (mkF m 1 #[.val (.ref r0), .val (.ref r1), .val (.int (0 : Int32)), .val (.int p3)] [(.int (0 : Int32))])) target
    refine XS.iloadN X0.here hx rfl (hb hby own_d4_1) rfl ?_
    show Steps p.tables e below (s₁.setTop (mkF m 2 #[.val (.ref r0), .val (.ref r1), .val (.int (0 : Int32)), .val (.int p3)] [(.int p3), (.int (0 : Int32))])) target
    refine XS.aloadN X0.here hx rfl (hb hby own_d4_2) rfl rfl ?_
    exact kt
  obtain ⟨clg3, Arg3, Szg3, -⟩ := id R_r1
  refine own_st (B := s₁.setTop (mkF m 4 #[.val (.ref r0), .val (.ref r1), .val (.int (0 : Int32)), .val (.int p3)] [(.int (8 : Int32)), (.int p3), (.int (0 : Int32))])) (fun target kt => ?_) ?_
  · refine X0.arraylength hx (by first | exact Arg3.1 | (rw [e0]; exact Arg3.1)) (State.isArrayOf_alike hZ.alike Arg3.2.1) (g := (mkF m 3 #[.val (.ref r0), .val (.ref r1), .val (.int (0 : Int32)), .val (.int p3)] [(.ref r1), (.int p3), (.int (0 : Int32))])) rfl rfl (hb hby own_d4_3) _ ?_
    rw [Szg3]
    exact kt
  obtain ⟨_, _, ⟨Tg4, Lg4, kg4, ng4⟩, -, Xg4, ⟨Lcg4, hQg4, lg4, yg4, zg4⟩, stg4⟩ := Jvm.LawKit.callS X0 hx (y := (⟨"java/util/Objects", "checkFromIndexSize", "(III)I"⟩ : MethodName)) hown (mvT hZ (hw _ (List.mem_of_getElem? (i := 30) rfl))) (mvT hZ (hw _ (List.mem_of_getElem? (i := 31) rfl))) (mvT hZ (hw _ (List.mem_of_getElem? (i := 32) rfl))) (mvT hZ (hw _ (List.mem_of_getElem? (i := 33) rfl))) (by decide) (backOf (W := 0) (own_rm5 l Z a0 hw [] (0 : Int32) p3 (8 : Int32) h0 n0 Z0 (show ¬ ((((8 : Int32) ||| (0 : Int32)) ||| p3) < (0 : Int32)) from (own_or8 p3 hI.2.2.2.2.2.2.2.1 hI.2.2.2.2.2.2.2.2).1) (show ¬ (((8 : Int32) - (0 : Int32)) < p3) from (own_or8 p3 hI.2.2.2.2.2.2.2.1 hI.2.2.2.2.2.2.2.2).2)) hZ (hw _ (List.mem_of_getElem? (i := 33) rfl)) (hw _ (List.mem_of_getElem? (i := 32) rfl)) (by decide) (by decide)) (g := (mkF m 4 #[.val (.ref r0), .val (.ref r1), .val (.int (0 : Int32)), .val (.int p3)] [(.int (8 : Int32)), (.int p3), (.int (0 : Int32))])) rfl (by rw [hml]; rfl) (argsL := [(.int (0 : Int32)), (.int p3), (.int (8 : Int32))]) (rest := []) (lenOf own_pd1 rfl) rfl (by show 2 * 0 + _ ≤ _; exact Nat.le_of_eq rfl) (hb hby own_d4_4) (fun _ _ => ⟨rfl, e0, (by decide : 0 + 0 ≤ _), (by decide : 0 + 0 ≤ _)⟩)
  dsimp only [Pt.U, Pt.locs, Pt.cells, Pt.slots] at Xg4 lg4 yg4 zg4 stg4 hQg4
  subst lg4 yg4 zg4
  obtain ⟨rfl, Ng4q, eg4⟩ := hQg4
  have Ng4 := Fr.app N0 Ng4q
  refine own_st (stg4) ?_
  refine own_st (B := Tg4.setTop (mkF m 10 #[.val (.ref r0), .val (.ref r1), .val (.int (0 : Int32)), .val (.int p3)] [(.int p3), (.ref r0)])) (fun target kt => ?_) ?_
  · show Steps p.tables e below (Tg4.setTop (mkF m 7 #[.val (.ref r0), .val (.ref r1), .val (.int (0 : Int32)), .val (.int p3)] [(.int (0 : Int32))])) target
    refine XS.pop Xg4.here hx rfl (hb hby own_d4_7) rfl rfl ?_
    show Steps p.tables e below (Tg4.setTop (mkF m 8 #[.val (.ref r0), .val (.ref r1), .val (.int (0 : Int32)), .val (.int p3)] [])) target
    refine XS.aloadN Xg4.here hx rfl (hb hby own_d4_8) rfl rfl ?_
    show Steps p.tables e below (Tg4.setTop (mkF m 9 #[.val (.ref r0), .val (.ref r1), .val (.int (0 : Int32)), .val (.int p3)] [(.ref r0)])) target
    refine XS.iloadN Xg4.here hx rfl (hb hby own_d4_9) rfl ?_
    exact kt
  obtain ⟨cqg10, kqg10, qg10a, qg10b, qg10c⟩ := isOf hZ eg4 E_r0
  obtain ⟨_, _, ⟨Tg10, Lg10, kg10, ng10⟩, -, Xg10, ⟨Lcg10, hQg10, lg10, yg10, zg10⟩, stg10⟩ := Xg4.virtualBack hx (y := (⟨"com/example/barnacle/barnacle/KeyBatch", "fits", "(I)Z"⟩ : MethodName)) (z := (⟨"com/example/barnacle/barnacle/KeyBatch", "fits", "(I)Z"⟩ : MethodName)) hown (mvT hZ (hw _ (List.mem_of_getElem? (i := 38) rfl))) (mvT hZ (hw _ (List.mem_of_getElem? (i := 17) rfl))) (notFace_of_selects (args := #[]) (mvT hZ (hw _ (List.mem_of_getElem? (i := 19) rfl)))) (mvT hZ (hw _ (List.mem_of_getElem? (i := 19) rfl))) (mvT hZ (hw _ (List.mem_of_getElem? (i := 18) rfl))) (by decide) (backOf (W := 0) (own_rm3 l Z a0 hw [] r0 p3 z_b z_e b_b b_e w_s w_u g_e h0 n0 Z0 F_r0_bytes F_r0_ends F_r0_size F_r0_used R_b_b R_b_e (show ¬ (z_b < (0 : Int32)) from hzb) (show ¬ (z_e < (0 : Int32)) from hze)) hZ (hw _ (List.mem_of_getElem? (i := 20) rfl)) (hw _ (List.mem_of_getElem? (i := 2) rfl)) (by decide) (by decide)) qg10a qg10c (g := (mkF m 10 #[.val (.ref r0), .val (.ref r1), .val (.int (0 : Int32)), .val (.int p3)] [(.int p3), (.ref r0)])) rfl (by rw [hml]; rfl) (Steps.refl _) (argsL := [(.int p3)]) (rest := []) (lenOf own_pd2 rfl) rfl (by show 2 * 0 + _ ≤ _; exact Nat.le_of_eq rfl) (hb hby own_d4_10) (fun _ _ => ⟨rfl, eg4, (by decide : 0 + 0 ≤ _), (by decide : 0 + 0 ≤ _)⟩)
  dsimp only [Pt.U, Pt.locs, Pt.cells, Pt.slots] at Xg10 lg10 yg10 zg10 stg10 hQg10
  subst lg10 yg10 zg10
  obtain ⟨rfl, Ng10q, eg10⟩ := hQg10
  have Ng10 := Fr.app Ng4 Ng10q
  refine own_st (fun _ k => stg10.trans k) ?_
  have c13 : (w_s < z_e) ∧ (¬ ((z_b - w_u) < p3)) := by
    exact hf
  refine own_st (B := Tg10.setTop (mkF m 33 #[.val (.ref r0), .val (.ref r1), .val (.int (0 : Int32)), .val (.int p3)] [(.ref r0), (.int (0 : Int32)), (.ref r1)])) (fun target kt => ?_) ?_
  · show Steps p.tables e below (Tg10.setTop (mkF m 13 #[.val (.ref r0), .val (.ref r1), .val (.int (0 : Int32)), .val (.int p3)] [(.int (own_b ((w_s < z_e) ∧ (¬ ((z_b - w_u) < p3)))))])) target
    refine XS.ifYes Xg10.here hx rfl (pc0 := 13) (pc' := 30) rfl (hb hby own_d4_13) rfl ((if0 _ _).trans (feq (own_bn0 rfl c13)).2) (by decide) (by decide) ?_
    show Steps p.tables e below (Tg10.setTop (mkF m 30 #[.val (.ref r0), .val (.ref r1), .val (.int (0 : Int32)), .val (.int p3)] [])) target
    refine XS.aloadN Xg10.here hx rfl (hb hby own_d4_30) rfl rfl ?_
    show Steps p.tables e below (Tg10.setTop (mkF m 31 #[.val (.ref r0), .val (.ref r1), .val (.int (0 : Int32)), .val (.int p3)] [(.ref r1)])) target
    refine XS.iloadN Xg10.here hx rfl (hb hby own_d4_31) rfl ?_
    show Steps p.tables e below (Tg10.setTop (mkF m 32 #[.val (.ref r0), .val (.ref r1), .val (.int (0 : Int32)), .val (.int p3)] [(.int (0 : Int32)), (.ref r1)])) target
    refine XS.aloadN Xg10.here hx rfl (hb hby own_d4_32) rfl rfl ?_
    exact kt
  obtain ⟨Tg33, Xg33, eg33, stg33⟩ := getF Xg10 hx hZ hown (host := "") (Or.inl (hw _ (List.mem_of_getElem? (i := 11) rfl))) Via.refl eg10 F_r0_bytes (g := (mkF m 33 #[.val (.ref r0), .val (.ref r1), .val (.int (0 : Int32)), .val (.int p3)] [(.ref r0), (.int (0 : Int32)), (.ref r1)])) rfl rfl (hb hby own_d4_33)
  refine own_st stg33 ?_
  refine own_st (B := Tg33.setTop (mkF m 37 #[.val (.ref r0), .val (.ref r1), .val (.int (0 : Int32)), .val (.int p3)] [(.ref r0), (.ref b_b), (.int (0 : Int32)), (.ref r1)])) (fun target kt => ?_) ?_
  · show Steps p.tables e below (Tg33.setTop (mkF m 36 #[.val (.ref r0), .val (.ref r1), .val (.int (0 : Int32)), .val (.int p3)] [(.ref b_b), (.int (0 : Int32)), (.ref r1)])) target
    refine XS.aloadN Xg33.here hx rfl (hb hby own_d4_36) rfl rfl ?_
    exact kt
  obtain ⟨Tg37, Xg37, eg37, stg37⟩ := getF Xg33 hx hZ hown (host := "") (Or.inl (hw _ (List.mem_of_getElem? (i := 23) rfl))) Via.refl eg33 F_r0_used (g := (mkF m 37 #[.val (.ref r0), .val (.ref r1), .val (.int (0 : Int32)), .val (.int p3)] [(.ref r0), (.ref b_b), (.int (0 : Int32)), (.ref r1)])) rfl rfl (hb hby own_d4_37)
  refine own_st stg37 ?_
  refine own_st (B := Tg37.setTop (mkF m 41 #[.val (.ref r0), .val (.ref r1), .val (.int (0 : Int32)), .val (.int p3)] [(.int p3), (.int w_u), (.ref b_b), (.int (0 : Int32)), (.ref r1)])) (fun target kt => ?_) ?_
  · show Steps p.tables e below (Tg37.setTop (mkF m 40 #[.val (.ref r0), .val (.ref r1), .val (.int (0 : Int32)), .val (.int p3)] [(.int w_u), (.ref b_b), (.int (0 : Int32)), (.ref r1)])) target
    refine XS.iloadN Xg37.here hx rfl (hb hby own_d4_40) rfl ?_
    exact kt
  obtain ⟨Tg41, hg41, Lg41, Xg41, eg41, Ng41, Kg41, Ag41, stg41⟩ := own_cp Xg37 hx hZ hown (hw _ (List.mem_of_getElem? (i := 39) rfl)) (hw _ (List.mem_of_getElem? (i := 42) rfl)) (hw _ (List.mem_of_getElem? (i := 40) rfl)) (hw _ (List.mem_of_getElem? (i := 41) rfl)) eg37 (own_RayL.of R_r1) R_b_b (by decide) hFF.2.2.2.2.1 (by decide) hFF.1 hFF.2.1 hFF.2.2.2.2.2.1 hFF.2.2.1 Ng10 g_b_b (g := (mkF m 41 #[.val (.ref r0), .val (.ref r1), .val (.int (0 : Int32)), .val (.int p3)] [(.int p3), (.int w_u), (.ref b_b), (.int (0 : Int32)), (.ref r1)])) rfl (by rw [hml]; rfl) rfl (hb hby own_d4_41) (by decide) (W := 0) (by show 2 * 0 + _ ≤ _; exact Nat.le_of_eq rfl) (by decide)
  refine own_st stg41 ?_
  have F := E_r0.keep Kg41
  have F_1 := F_r0_bytes.keep Kg41 (ninS ne_r0_b_b nin0)
  have F_2 := F_r0_ends.keep Kg41 (ninS ne_r0_b_b nin0)
  have F_3 := F_r0_size.keep Kg41 (ninS ne_r0_b_b nin0)
  have F_4 := F_r0_used.keep Kg41 (ninS ne_r0_b_b nin0)
  have F_5 := R_r1.keep Kg41 (ninS ne_r1_b_b nin0)
  have F_6 := R_b_e.keep Kg41 (ninS (Ne.symm ne_b_b_b_e) nin0)
  have Zz : n0 ≤ hg41.size := Nat.le_trans Z0 Kg41.1
  have Kc := (Keep.refl h0 [r0, b_b, b_e]).trans Kg41 (allS (Or.inl (List.mem_of_getElem? (i := 1) rfl)) all0)
  refine own_st (B := Tg41.setTop (mkF m 46 #[.val (.ref r0), .val (.ref r1), .val (.int (0 : Int32)), .val (.int p3)] [(.ref r0), (.ref r0)])) (fun target kt => ?_) ?_
  · show Steps p.tables e below (Tg41.setTop (mkF m 44 #[.val (.ref r0), .val (.ref r1), .val (.int (0 : Int32)), .val (.int p3)] [])) target
    refine XS.aloadN Xg41.here hx rfl (hb hby own_d4_44) rfl rfl ?_
    show Steps p.tables e below (Tg41.setTop (mkF m 45 #[.val (.ref r0), .val (.ref r1), .val (.int (0 : Int32)), .val (.int p3)] [(.ref r0)])) target
    refine XS.dup Xg41.here hx rfl (hb hby own_d4_45) rfl rfl ?_
    exact kt
  obtain ⟨Tg46, Xg46, eg46, stg46⟩ := getF Xg41 hx hZ hown (host := "") (Or.inl (hw _ (List.mem_of_getElem? (i := 23) rfl))) Via.refl eg41 F_4 (g := (mkF m 46 #[.val (.ref r0), .val (.ref r1), .val (.int (0 : Int32)), .val (.int p3)] [(.ref r0), (.ref r0)])) rfl rfl (hb hby own_d4_46)
  refine own_st stg46 ?_
  refine own_st (B := Tg46.setTop (mkF m 51 #[.val (.ref r0), .val (.ref r1), .val (.int (0 : Int32)), .val (.int p3)] [(.int (w_u + p3)), (.ref r0)])) (fun target kt => ?_) ?_
  · show Steps p.tables e below (Tg46.setTop (mkF m 49 #[.val (.ref r0), .val (.ref r1), .val (.int (0 : Int32)), .val (.int p3)] [(.int w_u), (.ref r0)])) target
    refine XS.iloadN Xg46.here hx rfl (hb hby own_d4_49) rfl ?_
    show Steps p.tables e below (Tg46.setTop (mkF m 50 #[.val (.ref r0), .val (.ref r1), .val (.int (0 : Int32)), .val (.int p3)] [(.int p3), (.int w_u), (.ref r0)])) target
    refine XS.iadd Xg46.here hx rfl (hb hby own_d4_50) rfl ?_
    exact kt
  obtain ⟨Tg51, hg51, Xg51, eg51, Wg51, stg51⟩ := putF Xg46 hx hZ hown (host := "") (Or.inl (hw _ (List.mem_of_getElem? (i := 23) rfl))) Via.refl eg46 F_4 F (Or.inl (hw _ (List.mem_of_getElem? (i := 24) rfl))) (hw _ (List.mem_of_getElem? (i := 1) rfl)) (ty := .int) (by decide) rfl rfl (g := (mkF m 51 #[.val (.ref r0), .val (.ref r1), .val (.int (0 : Int32)), .val (.int p3)] [(.int (w_u + p3)), (.ref r0)])) rfl rfl (hb hby own_d4_51)
  refine own_st stg51 ?_
  have Ng51 := Fr.snoc Xg51 Ng41 g_r0
  have F_7 := F.wr Wg51
  have F_8 := F_1.other Wg51 (Or.inr (slot_ne (Or.inr (hw _ (List.mem_of_getElem? (i := 12) rfl))) (Or.inl (hw _ (List.mem_of_getElem? (i := 24) rfl))) (by decide) (t := (.array .byte)) (t' := .int) (by decide) (by decide)))
  have F_9 := F_2.other Wg51 (Or.inr (slot_ne (Or.inr (hw _ (List.mem_of_getElem? (i := 15) rfl))) (Or.inl (hw _ (List.mem_of_getElem? (i := 24) rfl))) (by decide) (t := (.array .int)) (t' := .int) (by decide) (by decide)))
  have F_10 := F_3.other Wg51 (Or.inr (slot_ne (Or.inl (hw _ (List.mem_of_getElem? (i := 22) rfl))) (Or.inl (hw _ (List.mem_of_getElem? (i := 24) rfl))) (by decide) (t := .int) (t' := .int) (by decide) (by decide)))
  have F_11 := F_4.same Wg51
  have F_12 := F_5.other Wg51 (Ne.symm ne_r0_r1)
  have F_13 := Ag41.other Wg51 (Ne.symm ne_r0_b_b)
  have F_14 := F_6.other Wg51 (Ne.symm ne_r0_b_e)
  have Zz_1 : n0 ≤ hg51.size := Nat.le_trans Zz (Keep.of_wr Wg51).1
  have Kc_1 := Kc.wr Wg51 (Or.inl (List.mem_of_getElem? (i := 0) rfl))
  obtain ⟨v51, hv51⟩ : ∃ z : Int32, z = (w_u + p3) := ⟨_, rfl⟩
  have F_15 : Fld Z hg51 r0 "com/example/barnacle/barnacle/KeyBatch" "used" "I" (.int v51) := by subst hv51; exact F_11
  refine own_st (B := Tg51.setTop (mkF m 55 #[.val (.ref r0), .val (.ref r1), .val (.int (0 : Int32)), .val (.int p3)] [(.ref r0)])) (fun target kt => ?_) ?_
  · show Steps p.tables e below (Tg51.setTop (mkF m 54 #[.val (.ref r0), .val (.ref r1), .val (.int (0 : Int32)), .val (.int p3)] [])) target
    refine XS.aloadN Xg51.here hx rfl (hb hby own_d4_54) rfl rfl ?_
    exact kt
  obtain ⟨Tg55, Xg55, eg55, stg55⟩ := getF Xg51 hx hZ hown (host := "") (Or.inl (hw _ (List.mem_of_getElem? (i := 14) rfl))) Via.refl eg51 F_9 (g := (mkF m 55 #[.val (.ref r0), .val (.ref r1), .val (.int (0 : Int32)), .val (.int p3)] [(.ref r0)])) rfl rfl (hb hby own_d4_55)
  refine own_st stg55 ?_
  refine own_st (B := Tg55.setTop (mkF m 59 #[.val (.ref r0), .val (.ref r1), .val (.int (0 : Int32)), .val (.int p3)] [(.ref r0), (.ref b_e)])) (fun target kt => ?_) ?_
  · show Steps p.tables e below (Tg55.setTop (mkF m 58 #[.val (.ref r0), .val (.ref r1), .val (.int (0 : Int32)), .val (.int p3)] [(.ref b_e)])) target
    refine XS.aloadN Xg55.here hx rfl (hb hby own_d4_58) rfl rfl ?_
    exact kt
  obtain ⟨Tg59, Xg59, eg59, stg59⟩ := getF Xg55 hx hZ hown (host := "") (Or.inl (hw _ (List.mem_of_getElem? (i := 21) rfl))) Via.refl eg55 F_10 (g := (mkF m 59 #[.val (.ref r0), .val (.ref r1), .val (.int (0 : Int32)), .val (.int p3)] [(.ref r0), (.ref b_e)])) rfl rfl (hb hby own_d4_59)
  refine own_st stg59 ?_
  refine own_st (B := Tg59.setTop (mkF m 63 #[.val (.ref r0), .val (.ref r1), .val (.int (0 : Int32)), .val (.int p3)] [(.ref r0), (.int w_s), (.ref b_e)])) (fun target kt => ?_) ?_
  · show Steps p.tables e below (Tg59.setTop (mkF m 62 #[.val (.ref r0), .val (.ref r1), .val (.int (0 : Int32)), .val (.int p3)] [(.int w_s), (.ref b_e)])) target
    refine XS.aloadN Xg59.here hx rfl (hb hby own_d4_62) rfl rfl ?_
    exact kt
  obtain ⟨Tg63, Xg63, eg63, stg63⟩ := getF Xg59 hx hZ hown (host := "") (Or.inl (hw _ (List.mem_of_getElem? (i := 23) rfl))) Via.refl eg59 F_15 (g := (mkF m 63 #[.val (.ref r0), .val (.ref r1), .val (.int (0 : Int32)), .val (.int p3)] [(.ref r0), (.int w_s), (.ref b_e)])) rfl rfl (hb hby own_d4_63)
  refine own_st stg63 ?_
  obtain ⟨clg66, Arg66, Szg66, -⟩ := id F_14
  have hing66 : ¬ (w_s < 0 ∨ clg66.slots.size ≤ (w_s).toNatClampNeg) := own_inb Szg66 hFF.2.2.2.1
  obtain ⟨Tg66, hg66, Xg66, eg66, Wg66, stg66⟩ := stI Xg63 hx hZ eg63 Arg66 (j := w_s) hing66 (g := (mkF m 66 #[.val (.ref r0), .val (.ref r1), .val (.int (0 : Int32)), .val (.int p3)] [(.int v51), (.int w_s), (.ref b_e)])) rfl rfl (hb hby own_d4_66)
  refine own_st stg66 ?_
  have Ng66 := Fr.snoc Xg66 Ng51 g_b_e
  obtain ⟨a66, ha66⟩ : ∃ gz : Nat → Int32, gz = fun i => if i = (w_s).toNatClampNeg then v51 else g_e i := ⟨_, rfl⟩
  have F_16 := F_7.wr Wg66
  have F_17 := F_8.other Wg66 (Or.inl ne_r0_b_e)
  have F_18 := F_9.other Wg66 (Or.inl ne_r0_b_e)
  have F_19 := F_10.other Wg66 (Or.inl ne_r0_b_e)
  have F_20 := F_15.other Wg66 (Or.inl ne_r0_b_e)
  have F_21 := F_12.other Wg66 ne_r1_b_e
  have F_22 := F_13.other Wg66 ne_b_b_b_e
  have Zz_2 : n0 ≤ hg66.size := Nat.le_trans Zz_1 (Keep.of_wr Wg66).1
  have Kc_2 := Kc_1.wr Wg66 (Or.inl (List.mem_of_getElem? (i := 2) rfl))
  have F_24 : own_RayI Z hg66 b_e (z_e).toNatClampNeg a66 := by rw [ha66]; exact own_RayI_set F_14 Wg66 rfl
  refine own_st (B := Tg66.setTop (mkF m 69 #[.val (.ref r0), .val (.ref r1), .val (.int (0 : Int32)), .val (.int p3)] [(.ref r0), (.ref r0)])) (fun target kt => ?_) ?_
  · show Steps p.tables e below (Tg66.setTop (mkF m 67 #[.val (.ref r0), .val (.ref r1), .val (.int (0 : Int32)), .val (.int p3)] [])) target
    refine XS.aloadN Xg66.here hx rfl (hb hby own_d4_67) rfl rfl ?_
    show Steps p.tables e below (Tg66.setTop (mkF m 68 #[.val (.ref r0), .val (.ref r1), .val (.int (0 : Int32)), .val (.int p3)] [(.ref r0)])) target
    refine XS.dup Xg66.here hx rfl (hb hby own_d4_68) rfl rfl ?_
    exact kt
  obtain ⟨Tg69, Xg69, eg69, stg69⟩ := getF Xg66 hx hZ hown (host := "") (Or.inl (hw _ (List.mem_of_getElem? (i := 21) rfl))) Via.refl eg66 F_19 (g := (mkF m 69 #[.val (.ref r0), .val (.ref r1), .val (.int (0 : Int32)), .val (.int p3)] [(.ref r0), (.ref r0)])) rfl rfl (hb hby own_d4_69)
  refine own_st stg69 ?_
  refine own_st (B := Tg69.setTop (mkF m 74 #[.val (.ref r0), .val (.ref r1), .val (.int (0 : Int32)), .val (.int p3)] [(.int (w_s + (1 : Int32))), (.ref r0)])) (fun target kt => ?_) ?_
  · show Steps p.tables e below (Tg69.setTop (mkF m 72 #[.val (.ref r0), .val (.ref r1), .val (.int (0 : Int32)), .val (.int p3)] [(.int w_s), (.ref r0)])) target
    refine XS.iconst Xg69.here hx rfl (hb hby own_d4_72) ?_
    show Steps p.tables e below (Tg69.setTop (mkF m 73 #[.val (.ref r0), .val (.ref r1), .val (.int (0 : Int32)), .val (.int p3)] [(.int (1 : Int32)), (.int w_s), (.ref r0)])) target
    refine XS.iadd Xg69.here hx rfl (hb hby own_d4_73) rfl ?_
    exact kt
  obtain ⟨Tg74, hg74, Xg74, eg74, Wg74, stg74⟩ := putF Xg69 hx hZ hown (host := "") (Or.inl (hw _ (List.mem_of_getElem? (i := 21) rfl))) Via.refl eg69 F_19 F_16 (Or.inl (hw _ (List.mem_of_getElem? (i := 22) rfl))) (hw _ (List.mem_of_getElem? (i := 1) rfl)) (ty := .int) (by decide) rfl rfl (g := (mkF m 74 #[.val (.ref r0), .val (.ref r1), .val (.int (0 : Int32)), .val (.int p3)] [(.int (w_s + (1 : Int32))), (.ref r0)])) rfl rfl (hb hby own_d4_74)
  refine own_st stg74 ?_
  have Ng74 := Fr.snoc Xg74 Ng66 g_r0
  have F_25 := F_16.wr Wg74
  have F_26 := F_17.other Wg74 (Or.inr (slot_ne (Or.inr (hw _ (List.mem_of_getElem? (i := 12) rfl))) (Or.inl (hw _ (List.mem_of_getElem? (i := 22) rfl))) (by decide) (t := (.array .byte)) (t' := .int) (by decide) (by decide)))
  have F_27 := F_18.other Wg74 (Or.inr (slot_ne (Or.inr (hw _ (List.mem_of_getElem? (i := 15) rfl))) (Or.inl (hw _ (List.mem_of_getElem? (i := 22) rfl))) (by decide) (t := (.array .int)) (t' := .int) (by decide) (by decide)))
  have F_28 := F_19.same Wg74
  have F_29 := F_20.other Wg74 (Or.inr (slot_ne (Or.inl (hw _ (List.mem_of_getElem? (i := 24) rfl))) (Or.inl (hw _ (List.mem_of_getElem? (i := 22) rfl))) (by decide) (t := .int) (t' := .int) (by decide) (by decide)))
  have F_30 := F_21.other Wg74 (Ne.symm ne_r0_r1)
  have F_31 := F_22.other Wg74 (Ne.symm ne_r0_b_b)
  have F_32 := F_24.other Wg74 (Ne.symm ne_r0_b_e)
  have Zz_3 : n0 ≤ hg74.size := Nat.le_trans Zz_2 (Keep.of_wr Wg74).1
  have Kc_3 := Kc_2.wr Wg74 (Or.inl (List.mem_of_getElem? (i := 0) rfl))
  obtain ⟨v74, hv74⟩ : ∃ z : Int32, z = (w_s + (1 : Int32)) := ⟨_, rfl⟩
  have F_33 : Fld Z hg74 r0 "com/example/barnacle/barnacle/KeyBatch" "size" "I" (.int v74) := by subst hv74; exact F_28
  obtain ⟨fs, hr, hrun, hended, hW, hsame⟩ := Xg74.leave (v := none) (fun _ => rfl)
  have hend : Steps p.tables e below (Tg74.setTop (mkF m 77 #[.val (.ref r0), .val (.ref r1), .val (.int (0 : Int32)), .val (.int p3)] [])) (Tg74.setFrames fs) := by
    exact Xg74.returnOut hx Bd.returns (hb hby own_d4_77) hr
  refine own_fin hend ⟨_, hrun, hended, _, _, rfl, ?_, ⟨_, rfl⟩, hW, hsame.mono (by decide) (by decide)⟩
  show own_Q4 Z r0 r1 p3 z_b z_e b_b b_e w_s w_u g_k g_e h0 n0 _ Tg74.heap _
  rw [eg74]
  subst hv51 ha66 hv74
  exact ⟨rfl, Ng74, Kc_3, F_25, F_26, F_27, F_33, F_29, F_31, F_32⟩
theorem own_stp (zb ze u s n k m s' u' t : Int32) (I : own_I zb ze u s n) (ht : t = s + 1) (hs : s' = (if k < m then s else (if s < ze then (if (zb - u) < n then s else t) else s)))
    (hu : u' = (if k < m then u else (if s < ze then (if (zb - u) < n then u else (u + n)) else u))) : 0 ≤ u'.toInt ∧ u'.toInt ≤ zb.toInt ∧ 0 ≤ s'.toInt ∧ s'.toInt ≤ s.toInt + 1 := by
  have J := I
  obtain ⟨i1, i2, i3, i4, i5, i6, i7, i8, i9⟩ := I
  by_cases h1 : k < m
  · rw [if_pos h1] at hs hu; rw [hs, hu]; omega
  · rw [if_neg h1] at hs hu
    by_cases h2 : s < ze
    · rw [if_pos h2] at hs hu
      by_cases h3 : (zb - u) < n
      · rw [if_pos h3] at hs hu; rw [hs, hu]; omega
      · rw [if_neg h3] at hs hu
        have F := own_fit zb ze u s n J h2 h3
        obtain ⟨-, -, -, -, -, -, f1, f2, f3⟩ := F
        rw [hs, hu, ht, f1, f3]; omega
    · rw [if_neg h2] at hs hu; rw [hs, hu]; omega
theorem own_m7 (x : Int32) : 0 ≤ (x &&& (7 : Int32)).toInt ∧ (x &&& (7 : Int32)).toInt ≤ 7 := by
  rw [c_mask x 7 3 (by decide) (by decide)]
  omega
theorem own_m15 (x : Int32) : 0 ≤ (x &&& (15 : Int32)).toInt ∧ (x &&& (15 : Int32)).toInt ≤ 15 := by
  rw [c_mask x 15 4 (by decide) (by decide)]
  omega
theorem own_m4 (x : Int32) : 1 ≤ ((x &&& (3 : Int32)) + (1 : Int32)).toInt ∧ ((x &&& (3 : Int32)) + (1 : Int32)).toInt ≤ 4 := by
  have h := c_mask x 3 2 (by decide) (by decide)
  have k := c_iadd (x &&& 3) 1
  have r := rng32 ((x &&& 3) + 1)
  have e1 : (1 : Int32).toInt = 1 := by decide
  rw [h, e1] at k
  omega
theorem own_pd3 : parseMethodDescriptor "(II)V" = some ⟨[.int, .int], none⟩ := by decide +kernel
theorem own_pd4 : parseMethodDescriptor "([BII)V" = some ⟨[(.array .byte), .int, .int], none⟩ := by decide +kernel
theorem own_pn3 : plainName "com/example/barnacle/barnacle/KeyBatchFitsPinLaw" = true := by first | (simp [plainName, overriddenIn]; done) | decide +kernel
theorem own_ef0 (m : MethodId) (p0 : Int32) (p1 : Int32) (p2 : Int32) (p3 : Int32) (p4 : Int32) : entryFrame m #[(.int p0), (.int p1), (.int p2), (.int p3), (.int p4)] maxLocals = mkF m 0 #[.val (.int p0), .val (.int p1), .val (.int p2), .val (.int p3), .val (.int p4), .unset, .unset, .unset, .unset, .unset, .unset, .unset, .unset, .unset, .unset, .unset, .unset, .unset] [] := by first | (simp [entryFrame, mkF, argsToLocals, Value.category, maxLocals]; done) | rfl
def own_Q0 (Z : State) (p0 : Int32) (p1 : Int32) (p2 : Int32) (p3 : Int32) (p4 : Int32) (h0 : Heap) (n0 : Nat) (v : Option Value) (h : Heap) (L : List Loc) : Prop := (v = some (.int (1 : Int32))) ∧ (Fr n0 L)
set_option maxRecDepth 65536 in
set_option maxHeartbeats 40000000 in
theorem own_rm0 (l : Launch) (Z : State) (a0 : Array Value) (hw : ∀ d ∈ tables_1, d.before a0 Z = true) (ws : List Jvm.Cond) (p0 : Int32) (p1 : Int32) (p2 : Int32) (p3 : Int32) (p4 : Int32) (h0 : Heap) (n0 : Nat) (Z0 : n0 ≤ h0.size) :
    MetFree l x (head1 (Jvm.Cond.code x code maxLocals ret :: ws) room_1) (fun a U => a = #[(.int p0), (.int p1), (.int p2), (.int p3), (.int p4)] ∧ Z.Warmed39 U.vm ∧ U.heap = h0) (fun _ _ _ _ _ => True) (fun _ U o U' => ∃ v L, o = .returned v ∧ own_Q0 Z p0 p1 p2 p3 p4 h0 n0 v U'.heap L ∧ FrameEnd U o U' L room_1.cells room_1.slots) := by
  refine MetFree.of_bodySF (plainFor_of_name own_pn3) hisR ?_
  intro p e s m args below meth c s₁ Bd hml0 hP hK
  obtain ⟨rfl, hZ, hh⟩ := hP
  have hx := Bd.exec
  have hby := Bd.bytes
  have hml : c.maxLocals = 18 := hml0
  have hown : s.vm.findClass "com/example/barnacle/barnacle/KeyBatchFitsPinLaw" = some m.cls := findClass_of_methodNamed Bd.named
  have hnm := (name_of_methodNamed Bd.named Bd.method).1
  have X0 : Stand p l e room_1 s m #[(.int p0), (.int p1), (.int p2), (.int p3), (.int p4)] below meth c s₁ [] 0 0 := Stand.of_body Bd
  have e0 : s₁.heap = h0 := by rw [← hh, Bd.state]; rfl
  have N0 := Fr.nil n0
  have pre0 : ∀ t, Steps p.tables e below (s₁.setTop (mkF m 0 #[.val (.int p0), .val (.int p1), .val (.int p2), .val (.int p3), .val (.int p4), .unset, .unset, .unset, .unset, .unset, .unset, .unset, .unset, .unset, .unset, .unset, .unset, .unset] [])) t → Steps p.tables e below (s₁.setTop (entryFrame m #[(.int p0), (.int p1), (.int p2), (.int p3), (.int p4)] maxLocals)) t := fun t k => castTop (own_ef0 m p0 p1 p2 p3 p4) k
  refine own_run (own_st pre0 ?_)
  obtain ⟨v4, hv4⟩ : ∃ z : Int32, z = (p0 &&& (15 : Int32)) := ⟨_, rfl⟩
  obtain ⟨v11, hv11⟩ : ∃ z : Int32, z = ((p1 &&& (3 : Int32)) + (1 : Int32)) := ⟨_, rfl⟩
  refine own_st (B := s₁.setTop (mkF m 13 #[.val (.int p0), .val (.int p1), .val (.int p2), .val (.int p3), .val (.int p4), .val (.int v4), .val (.int v11), .unset, .unset, .unset, .unset, .unset, .unset, .unset, .unset, .unset, .unset, .unset] [])) (fun target kt => ?_) ?_
  · show Steps p.tables e below (s₁.setTop (mkF m 0 #[.val (.int p0), .val (.int p1), .val (.int p2), .val (.int p3), .val (.int p4), .unset, .unset, .unset, .unset, .unset, .unset, .unset, .unset, .unset, .unset, .unset, .unset, .unset] [])) target
    refine XS.iloadN X0.here hx rfl (hb hby at_0) rfl ?_
    show Steps p.tables e below (s₁.setTop (mkF m 1 #[.val (.int p0), .val (.int p1), .val (.int p2), .val (.int p3), .val (.int p4), .unset, .unset, .unset, .unset, .unset, .unset, .unset, .unset, .unset, .unset, .unset, .unset, .unset] [(.int p0)])) target
    refine XS.bipush X0.here hx rfl (hb hby at_1) ?_
    show Steps p.tables e below (s₁.setTop (mkF m 3 #[.val (.int p0), .val (.int p1), .val (.int p2), .val (.int p3), .val (.int p4), .unset, .unset, .unset, .unset, .unset, .unset, .unset, .unset, .unset, .unset, .unset, .unset, .unset] [(.int (15 : Int32)), (.int p0)])) target
    refine XS.iand X0.here hx rfl (hb hby at_3) rfl ?_
    show Steps p.tables e below (s₁.setTop (mkF m 4 #[.val (.int p0), .val (.int p1), .val (.int p2), .val (.int p3), .val (.int p4), .unset, .unset, .unset, .unset, .unset, .unset, .unset, .unset, .unset, .unset, .unset, .unset, .unset] [(.int (p0 &&& (15 : Int32)))])) target
    refine XS.istore X0.here hx rfl (hb hby at_4) rfl (l' := #[.val (.int p0), .val (.int p1), .val (.int p2), .val (.int p3), .val (.int p4), .val (.int v4), .unset, .unset, .unset, .unset, .unset, .unset, .unset, .unset, .unset, .unset, .unset, .unset]) (by subst hv4; rfl) ?_
    show Steps p.tables e below (s₁.setTop (mkF m 6 #[.val (.int p0), .val (.int p1), .val (.int p2), .val (.int p3), .val (.int p4), .val (.int v4), .unset, .unset, .unset, .unset, .unset, .unset, .unset, .unset, .unset, .unset, .unset, .unset] [])) target
    refine XS.iloadN X0.here hx rfl (hb hby at_6) rfl ?_
    show Steps p.tables e below (s₁.setTop (mkF m 7 #[.val (.int p0), .val (.int p1), .val (.int p2), .val (.int p3), .val (.int p4), .val (.int v4), .unset, .unset, .unset, .unset, .unset, .unset, .unset, .unset, .unset, .unset, .unset, .unset] [(.int p1)])) target
    refine XS.iconst X0.here hx rfl (hb hby at_7) ?_
    show Steps p.tables e below (s₁.setTop (mkF m 8 #[.val (.int p0), .val (.int p1), .val (.int p2), .val (.int p3), .val (.int p4), .val (.int v4), .unset, .unset, .unset, .unset, .unset, .unset, .unset, .unset, .unset, .unset, .unset, .unset] [(.int (3 : Int32)), (.int p1)])) target
    refine XS.iand X0.here hx rfl (hb hby at_8) rfl ?_
    show Steps p.tables e below (s₁.setTop (mkF m 9 #[.val (.int p0), .val (.int p1), .val (.int p2), .val (.int p3), .val (.int p4), .val (.int v4), .unset, .unset, .unset, .unset, .unset, .unset, .unset, .unset, .unset, .unset, .unset, .unset] [(.int (p1 &&& (3 : Int32)))])) target
    refine XS.iconst X0.here hx rfl (hb hby at_9) ?_
    show Steps p.tables e below (s₁.setTop (mkF m 10 #[.val (.int p0), .val (.int p1), .val (.int p2), .val (.int p3), .val (.int p4), .val (.int v4), .unset, .unset, .unset, .unset, .unset, .unset, .unset, .unset, .unset, .unset, .unset, .unset] [(.int (1 : Int32)), (.int (p1 &&& (3 : Int32)))])) target
    refine XS.iadd X0.here hx rfl (hb hby at_10) rfl ?_
    show Steps p.tables e below (s₁.setTop (mkF m 11 #[.val (.int p0), .val (.int p1), .val (.int p2), .val (.int p3), .val (.int p4), .val (.int v4), .unset, .unset, .unset, .unset, .unset, .unset, .unset, .unset, .unset, .unset, .unset, .unset] [(.int ((p1 &&& (3 : Int32)) + (1 : Int32)))])) target
    refine XS.istore X0.here hx rfl (hb hby at_11) rfl (l' := #[.val (.int p0), .val (.int p1), .val (.int p2), .val (.int p3), .val (.int p4), .val (.int v4), .val (.int v11), .unset, .unset, .unset, .unset, .unset, .unset, .unset, .unset, .unset, .unset, .unset]) (by subst hv11; rfl) ?_
    exact kt
  have hB : 0 ≤ v4.toInt ∧ v4.toInt ≤ 15 := by rw [hv4]; exact own_m15 p0
  have hK : 1 ≤ v11.toInt ∧ v11.toInt ≤ 4 := by rw [hv11]; exact own_m4 p1
  have hK1 : ¬ (v11 < (1 : Int32)) := by rw [Int32.lt_iff_toInt_lt, show (1 : Int32).toInt = 1 by decide]; omega
  have hK2 : ¬ ((268435456 : Int32) < v11) := by rw [Int32.lt_iff_toInt_lt, show (268435456 : Int32).toInt = 268435456 by decide]; omega
  have hB4 : v4.toNatClampNeg ≤ 15 := by have := own_nc v4 hB.1; omega
  have hK4 : v11.toNatClampNeg ≤ 4 := by have := own_nc v11 (by omega); omega
  have hzB := own_nneg v4 hB.1
  have hzK := own_nneg v11 (by omega)
  obtain ⟨Tg13, hg13, Xg13, eg13, Eg13, Ag13, Dg13, -, stg13⟩ := newO X0 hx hZ hown (hw _ (List.mem_of_getElem? (i := 0) rfl)) (hw _ (List.mem_of_getElem? (i := 1) rfl)) (hw _ (List.mem_of_getElem? (i := 2) rfl)) e0 (g := (mkF m 13 #[.val (.int p0), .val (.int p1), .val (.int p2), .val (.int p3), .val (.int p4), .val (.int v4), .val (.int v11), .unset, .unset, .unset, .unset, .unset, .unset, .unset, .unset, .unset, .unset, .unset] [])) rfl (hb hby at_13) (by decide) (by decide)
  obtain ⟨b13, gg13⟩ : ∃ z, z = h0.size := ⟨_, rfl⟩
  rw [← gg13] at Ag13 Dg13 stg13
  refine own_st stg13 ?_
  have g_b13 : n0 ≤ b13 := Nat.le_trans Z0 (Nat.le_of_eq gg13.symm)
  have Zz : n0 ≤ hg13.size := Nat.le_trans Z0 Eg13.1
  have F : Fld Z hg13 b13 "com/example/barnacle/barnacle/KeyBatch" "bytes" "[B" .null := Dg13 (Or.inr (hw _ (List.mem_of_getElem? (i := 12) rfl))) (ty := (.array .byte)) (by decide)
  have F_1 : Fld Z hg13 b13 "com/example/barnacle/barnacle/KeyBatch" "ends" "[I" .null := Dg13 (Or.inr (hw _ (List.mem_of_getElem? (i := 15) rfl))) (ty := (.array .int)) (by decide)
  have F_2 : Fld Z hg13 b13 "com/example/barnacle/barnacle/KeyBatch" "size" "I" (.int (0 : Int32)) := Dg13 (Or.inl (hw _ (List.mem_of_getElem? (i := 22) rfl))) (ty := .int) (by decide)
  have F_3 : Fld Z hg13 b13 "com/example/barnacle/barnacle/KeyBatch" "used" "I" (.int (0 : Int32)) := Dg13 (Or.inl (hw _ (List.mem_of_getElem? (i := 24) rfl))) (ty := .int) (by decide)
  refine own_st (B := Tg13.setTop (mkF m 21 #[.val (.int p0), .val (.int p1), .val (.int p2), .val (.int p3), .val (.int p4), .val (.int v4), .val (.int v11), .unset, .unset, .unset, .unset, .unset, .unset, .unset, .unset, .unset, .unset, .unset] [(.int v11), (.int v4), (.ref b13), (.ref b13)])) (fun target kt => ?_) ?_
  · show Steps p.tables e below (Tg13.setTop (mkF m 16 #[.val (.int p0), .val (.int p1), .val (.int p2), .val (.int p3), .val (.int p4), .val (.int v4), .val (.int v11), .unset, .unset, .unset, .unset, .unset, .unset, .unset, .unset, .unset, .unset, .unset] [(.ref b13)])) target
    refine XS.dup Xg13.here hx rfl (hb hby at_16) rfl rfl ?_
    show Steps p.tables e below (Tg13.setTop (mkF m 17 #[.val (.int p0), .val (.int p1), .val (.int p2), .val (.int p3), .val (.int p4), .val (.int v4), .val (.int v11), .unset, .unset, .unset, .unset, .unset, .unset, .unset, .unset, .unset, .unset, .unset] [(.ref b13), (.ref b13)])) target
    refine XS.iload Xg13.here hx rfl (hb hby at_17) rfl ?_
    show Steps p.tables e below (Tg13.setTop (mkF m 19 #[.val (.int p0), .val (.int p1), .val (.int p2), .val (.int p3), .val (.int p4), .val (.int v4), .val (.int v11), .unset, .unset, .unset, .unset, .unset, .unset, .unset, .unset, .unset, .unset, .unset] [(.int v4), (.ref b13), (.ref b13)])) target
    refine XS.iload Xg13.here hx rfl (hb hby at_19) rfl ?_
    exact kt
  obtain ⟨_, _, ⟨Tg21, Lg21, kg21, ng21⟩, -, Xg21, ⟨Lcg21, hQg21, lg21, yg21, zg21⟩, stg21⟩ := Xg13.specialBack hx (y := (⟨"com/example/barnacle/barnacle/KeyBatch", "<init>", "(II)V"⟩ : MethodName)) rfl hown (mvT hZ (hw _ (List.mem_of_getElem? (i := 3) rfl))) (mvT hZ (hw _ (List.mem_of_getElem? (i := 4) rfl))) (mvT hZ (hw _ (List.mem_of_getElem? (i := 5) rfl))) (by decide) (backOf (W := 1) (own_rm1 l Z a0 hw [] b13 v4 v11 hg13 n0 Zz Ag13 F F_1 F_2 F_3 g_b13 (show ¬ (v11 < (1 : Int32)) from hK1) (show ¬ ((268435456 : Int32) < v11) from hK2) (show ¬ (v4 < (0 : Int32)) from hzB) (show v4.toNatClampNeg ≤ 15 from hB4) (show v11.toNatClampNeg ≤ 4 from hK4) (show ¬ (v11 < (0 : Int32)) from hzK)) hZ (hw _ (List.mem_of_getElem? (i := 5) rfl)) (hw _ (List.mem_of_getElem? (i := 2) rfl)) (by decide) (by decide)) (g := (mkF m 21 #[.val (.int p0), .val (.int p1), .val (.int p2), .val (.int p3), .val (.int p4), .val (.int v4), .val (.int v11), .unset, .unset, .unset, .unset, .unset, .unset, .unset, .unset, .unset, .unset, .unset] [(.int v11), (.int v4), (.ref b13), (.ref b13)])) rfl (by rw [hml]; rfl) (Steps.refl _) (a := b13) (argsL := [(.int v4), (.int v11)]) (rest := [(.ref b13)]) (lenOf own_pd3 rfl) rfl (by show 2 * 0 + _ ≤ _; exact Nat.le_of_eq rfl) (hb hby at_21) (fun _ _ => ⟨rfl, eg13, (by decide : 1 + 2 ≤ _), (by decide : 4 + 19 ≤ _)⟩)
  dsimp only [Pt.U, Pt.locs, Pt.cells, Pt.slots] at Xg21 lg21 yg21 zg21 stg21 hQg21
  subst lg21 yg21 zg21
  obtain ⟨b21_0, b21_1, rfl, Ng21q, Kg21, F_4, F_5, F_6, F_7, F_8, F_9, F_10, szq_b21_0, szq_b21_1, ne_b21_0_b21_1⟩ := hQg21
  have ne_b13_b21_0 : b13 ≠ b21_0 := Nat.ne_of_lt (Nat.lt_of_lt_of_le Ag13.lt szq_b21_0)
  have g_b21_0 : n0 ≤ b21_0 := Nat.le_trans Zz szq_b21_0
  have ne_b13_b21_1 : b13 ≠ b21_1 := Nat.ne_of_lt (Nat.lt_of_lt_of_le Ag13.lt szq_b21_1)
  have g_b21_1 : n0 ≤ b21_1 := Nat.le_trans Zz szq_b21_1
  have Zz_1 : n0 ≤ Tg21.heap.size := Nat.le_trans Zz Kg21.1
  have Ng21 := Fr.app N0 Ng21q
  refine own_st (fun _ k => stg21.trans k) ?_
  refine own_st (B := Tg21.setTop (mkF m 28 #[.val (.int p0), .val (.int p1), .val (.int p2), .val (.int p3), .val (.int p4), .val (.int v4), .val (.int v11), .val (.ref b13), .unset, .unset, .unset, .unset, .unset, .unset, .unset, .unset, .unset, .unset] [(.int (8 : Int32))])) (fun target kt => ?_) ?_
  · show Steps p.tables e below (Tg21.setTop (mkF m 24 #[.val (.int p0), .val (.int p1), .val (.int p2), .val (.int p3), .val (.int p4), .val (.int v4), .val (.int v11), .unset, .unset, .unset, .unset, .unset, .unset, .unset, .unset, .unset, .unset, .unset] [(.ref b13)])) target
    refine XS.astore Xg21.here hx rfl (hb hby at_24) rfl rfl (l' := #[.val (.int p0), .val (.int p1), .val (.int p2), .val (.int p3), .val (.int p4), .val (.int v4), .val (.int v11), .val (.ref b13), .unset, .unset, .unset, .unset, .unset, .unset, .unset, .unset, .unset, .unset]) rfl ?_
    show Steps p.tables e below (Tg21.setTop (mkF m 26 #[.val (.int p0), .val (.int p1), .val (.int p2), .val (.int p3), .val (.int p4), .val (.int v4), .val (.int v11), .val (.ref b13), .unset, .unset, .unset, .unset, .unset, .unset, .unset, .unset, .unset, .unset] [])) target
    refine XS.bipush Xg21.here hx rfl (hb hby at_26) ?_
    exact kt
  obtain ⟨Tg28, hg28, kg28, Xg28, eg28, Eg28, Ag28, stg28⟩ := newP Xg21 hx hZ (hw _ (List.mem_of_getElem? (i := 10) rfl)) rfl (g := (mkF m 28 #[.val (.int p0), .val (.int p1), .val (.int p2), .val (.int p3), .val (.int p4), .val (.int v4), .val (.int v11), .val (.ref b13), .unset, .unset, .unset, .unset, .unset, .unset, .unset, .unset, .unset, .unset] [(.int (8 : Int32))])) rfl (hb hby at_28) rfl (by decide) (cap := 8) (by decide) (by decide) (by decide) (by decide)
  obtain ⟨b28, gg28⟩ : ∃ z, z = Tg21.heap.size := ⟨_, rfl⟩
  rw [← gg28] at Ag28 stg28
  refine own_st stg28 ?_
  have ne_b13_b28 : b13 ≠ b28 := Nat.ne_of_lt (Nat.lt_of_lt_of_le F_4.lt (Nat.le_of_eq gg28.symm))
  have ne_b21_0_b28 : b21_0 ≠ b28 := Nat.ne_of_lt (Nat.lt_of_lt_of_le (own_RayL.of F_9).lt (Nat.le_of_eq gg28.symm))
  have ne_b21_1_b28 : b21_1 ≠ b28 := Nat.ne_of_lt (Nat.lt_of_lt_of_le F_10.lt (Nat.le_of_eq gg28.symm))
  have g_b28 : n0 ≤ b28 := Nat.le_trans Zz_1 (Nat.le_of_eq gg28.symm)
  have F_11 := F_4.ext Eg28
  have F_12 := F_5.ext Eg28
  have F_13 := F_6.ext Eg28
  have F_14 := F_7.ext Eg28
  have F_15 := F_8.ext Eg28
  have F_16 := (own_RayL.of F_9).ext Eg28
  have F_17 := F_10.ext Eg28
  have Zz_2 : n0 ≤ hg28.size := Nat.le_trans Zz_1 Eg28.1
  have F_18 : own_RayB Z hg28 b28 8 (fun _ => (0 : Int32)) := own_RayB_new Ag28 (by decide) (by decide)
  obtain ⟨v35, hv35⟩ : ∃ z : Int32, z = (p3 &&& (3 : Int32)) := ⟨_, rfl⟩
  obtain ⟨v47, hv47⟩ : ∃ z : Int32, z = (p2 &&& (7 : Int32)) := ⟨_, rfl⟩
  obtain ⟨v55, hv55⟩ : ∃ z : Int32, z = (((p2.toUInt32 >>> ((3 : Int32) &&& 31).toUInt32).toInt32) &&& (7 : Int32)) := ⟨_, rfl⟩
  obtain ⟨v64, hv64⟩ : ∃ z : Int32, z = (((p2.toUInt32 >>> ((6 : Int32) &&& 31).toUInt32).toInt32) &&& (7 : Int32)) := ⟨_, rfl⟩
  refine own_st (B := Tg28.setTop (mkF m 66 #[.val (.int p0), .val (.int p1), .val (.int p2), .val (.int p3), .val (.int p4), .val (.int v4), .val (.int v11), .val (.ref b13), .val (.ref b28), .val (.int v35), .val (.int (0 : Int32)), .val (.int (0 : Int32)), .val (.int v47), .val (.int v55), .val (.int v64), .unset, .unset, .unset] [])) (fun target kt => ?_) ?_
  · show Steps p.tables e below (Tg28.setTop (mkF m 30 #[.val (.int p0), .val (.int p1), .val (.int p2), .val (.int p3), .val (.int p4), .val (.int v4), .val (.int v11), .val (.ref b13), .unset, .unset, .unset, .unset, .unset, .unset, .unset, .unset, .unset, .unset] [(.ref b28)])) target
    refine XS.astore Xg28.here hx rfl (hb hby at_30) rfl rfl (l' := #[.val (.int p0), .val (.int p1), .val (.int p2), .val (.int p3), .val (.int p4), .val (.int v4), .val (.int v11), .val (.ref b13), .val (.ref b28), .unset, .unset, .unset, .unset, .unset, .unset, .unset, .unset, .unset]) rfl ?_
    show Steps p.tables e below (Tg28.setTop (mkF m 32 #[.val (.int p0), .val (.int p1), .val (.int p2), .val (.int p3), .val (.int p4), .val (.int v4), .val (.int v11), .val (.ref b13), .val (.ref b28), .unset, .unset, .unset, .unset, .unset, .unset, .unset, .unset, .unset] [])) target
    refine XS.iloadN Xg28.here hx rfl (hb hby at_32) rfl ?_
    show Steps p.tables e below (Tg28.setTop (mkF m 33 #[.val (.int p0), .val (.int p1), .val (.int p2), .val (.int p3), .val (.int p4), .val (.int v4), .val (.int v11), .val (.ref b13), .val (.ref b28), .unset, .unset, .unset, .unset, .unset, .unset, .unset, .unset, .unset] [(.int p3)])) target
    refine XS.iconst Xg28.here hx rfl (hb hby at_33) ?_
    show Steps p.tables e below (Tg28.setTop (mkF m 34 #[.val (.int p0), .val (.int p1), .val (.int p2), .val (.int p3), .val (.int p4), .val (.int v4), .val (.int v11), .val (.ref b13), .val (.ref b28), .unset, .unset, .unset, .unset, .unset, .unset, .unset, .unset, .unset] [(.int (3 : Int32)), (.int p3)])) target
    refine XS.iand Xg28.here hx rfl (hb hby at_34) rfl ?_
    show Steps p.tables e below (Tg28.setTop (mkF m 35 #[.val (.int p0), .val (.int p1), .val (.int p2), .val (.int p3), .val (.int p4), .val (.int v4), .val (.int v11), .val (.ref b13), .val (.ref b28), .unset, .unset, .unset, .unset, .unset, .unset, .unset, .unset, .unset] [(.int (p3 &&& (3 : Int32)))])) target
    refine XS.istore Xg28.here hx rfl (hb hby at_35) rfl (l' := #[.val (.int p0), .val (.int p1), .val (.int p2), .val (.int p3), .val (.int p4), .val (.int v4), .val (.int v11), .val (.ref b13), .val (.ref b28), .val (.int v35), .unset, .unset, .unset, .unset, .unset, .unset, .unset, .unset]) (by subst hv35; rfl) ?_
    show Steps p.tables e below (Tg28.setTop (mkF m 37 #[.val (.int p0), .val (.int p1), .val (.int p2), .val (.int p3), .val (.int p4), .val (.int v4), .val (.int v11), .val (.ref b13), .val (.ref b28), .val (.int v35), .unset, .unset, .unset, .unset, .unset, .unset, .unset, .unset] [])) target
    refine XS.iconst Xg28.here hx rfl (hb hby at_37) ?_
    show Steps p.tables e below (Tg28.setTop (mkF m 38 #[.val (.int p0), .val (.int p1), .val (.int p2), .val (.int p3), .val (.int p4), .val (.int v4), .val (.int v11), .val (.ref b13), .val (.ref b28), .val (.int v35), .unset, .unset, .unset, .unset, .unset, .unset, .unset, .unset] [(.int (0 : Int32))])) target
    refine XS.istore Xg28.here hx rfl (hb hby at_38) rfl (l' := #[.val (.int p0), .val (.int p1), .val (.int p2), .val (.int p3), .val (.int p4), .val (.int v4), .val (.int v11), .val (.ref b13), .val (.ref b28), .val (.int v35), .val (.int (0 : Int32)), .unset, .unset, .unset, .unset, .unset, .unset, .unset]) rfl ?_
    show Steps p.tables e below (Tg28.setTop (mkF m 40 #[.val (.int p0), .val (.int p1), .val (.int p2), .val (.int p3), .val (.int p4), .val (.int v4), .val (.int v11), .val (.ref b13), .val (.ref b28), .val (.int v35), .val (.int (0 : Int32)), .unset, .unset, .unset, .unset, .unset, .unset, .unset] [])) target
    refine XS.iconst Xg28.here hx rfl (hb hby at_40) ?_
    show Steps p.tables e below (Tg28.setTop (mkF m 41 #[.val (.int p0), .val (.int p1), .val (.int p2), .val (.int p3), .val (.int p4), .val (.int v4), .val (.int v11), .val (.ref b13), .val (.ref b28), .val (.int v35), .val (.int (0 : Int32)), .unset, .unset, .unset, .unset, .unset, .unset, .unset] [(.int (0 : Int32))])) target
    refine XS.istore Xg28.here hx rfl (hb hby at_41) rfl (l' := #[.val (.int p0), .val (.int p1), .val (.int p2), .val (.int p3), .val (.int p4), .val (.int v4), .val (.int v11), .val (.ref b13), .val (.ref b28), .val (.int v35), .val (.int (0 : Int32)), .val (.int (0 : Int32)), .unset, .unset, .unset, .unset, .unset, .unset]) rfl ?_
    show Steps p.tables e below (Tg28.setTop (mkF m 43 #[.val (.int p0), .val (.int p1), .val (.int p2), .val (.int p3), .val (.int p4), .val (.int v4), .val (.int v11), .val (.ref b13), .val (.ref b28), .val (.int v35), .val (.int (0 : Int32)), .val (.int (0 : Int32)), .unset, .unset, .unset, .unset, .unset, .unset] [])) target
    refine XS.iloadN Xg28.here hx rfl (hb hby at_43) rfl ?_
    show Steps p.tables e below (Tg28.setTop (mkF m 44 #[.val (.int p0), .val (.int p1), .val (.int p2), .val (.int p3), .val (.int p4), .val (.int v4), .val (.int v11), .val (.ref b13), .val (.ref b28), .val (.int v35), .val (.int (0 : Int32)), .val (.int (0 : Int32)), .unset, .unset, .unset, .unset, .unset, .unset] [(.int p2)])) target
    refine XS.bipush Xg28.here hx rfl (hb hby at_44) ?_
    show Steps p.tables e below (Tg28.setTop (mkF m 46 #[.val (.int p0), .val (.int p1), .val (.int p2), .val (.int p3), .val (.int p4), .val (.int v4), .val (.int v11), .val (.ref b13), .val (.ref b28), .val (.int v35), .val (.int (0 : Int32)), .val (.int (0 : Int32)), .unset, .unset, .unset, .unset, .unset, .unset] [(.int (7 : Int32)), (.int p2)])) target
    refine XS.iand Xg28.here hx rfl (hb hby at_46) rfl ?_
    show Steps p.tables e below (Tg28.setTop (mkF m 47 #[.val (.int p0), .val (.int p1), .val (.int p2), .val (.int p3), .val (.int p4), .val (.int v4), .val (.int v11), .val (.ref b13), .val (.ref b28), .val (.int v35), .val (.int (0 : Int32)), .val (.int (0 : Int32)), .unset, .unset, .unset, .unset, .unset, .unset] [(.int (p2 &&& (7 : Int32)))])) target
    refine XS.istore Xg28.here hx rfl (hb hby at_47) rfl (l' := #[.val (.int p0), .val (.int p1), .val (.int p2), .val (.int p3), .val (.int p4), .val (.int v4), .val (.int v11), .val (.ref b13), .val (.ref b28), .val (.int v35), .val (.int (0 : Int32)), .val (.int (0 : Int32)), .val (.int v47), .unset, .unset, .unset, .unset, .unset]) (by subst hv47; rfl) ?_
    show Steps p.tables e below (Tg28.setTop (mkF m 49 #[.val (.int p0), .val (.int p1), .val (.int p2), .val (.int p3), .val (.int p4), .val (.int v4), .val (.int v11), .val (.ref b13), .val (.ref b28), .val (.int v35), .val (.int (0 : Int32)), .val (.int (0 : Int32)), .val (.int v47), .unset, .unset, .unset, .unset, .unset] [])) target
    refine XS.iloadN Xg28.here hx rfl (hb hby at_49) rfl ?_
    show Steps p.tables e below (Tg28.setTop (mkF m 50 #[.val (.int p0), .val (.int p1), .val (.int p2), .val (.int p3), .val (.int p4), .val (.int v4), .val (.int v11), .val (.ref b13), .val (.ref b28), .val (.int v35), .val (.int (0 : Int32)), .val (.int (0 : Int32)), .val (.int v47), .unset, .unset, .unset, .unset, .unset] [(.int p2)])) target
    refine XS.iconst Xg28.here hx rfl (hb hby at_50) ?_
    show Steps p.tables e below (Tg28.setTop (mkF m 51 #[.val (.int p0), .val (.int p1), .val (.int p2), .val (.int p3), .val (.int p4), .val (.int v4), .val (.int v11), .val (.ref b13), .val (.ref b28), .val (.int v35), .val (.int (0 : Int32)), .val (.int (0 : Int32)), .val (.int v47), .unset, .unset, .unset, .unset, .unset] [(.int (3 : Int32)), (.int p2)])) target
    refine XS.iushr Xg28.here hx rfl (hb hby at_51) rfl ?_
    show Steps p.tables e below (Tg28.setTop (mkF m 52 #[.val (.int p0), .val (.int p1), .val (.int p2), .val (.int p3), .val (.int p4), .val (.int v4), .val (.int v11), .val (.ref b13), .val (.ref b28), .val (.int v35), .val (.int (0 : Int32)), .val (.int (0 : Int32)), .val (.int v47), .unset, .unset, .unset, .unset, .unset] [(.int ((p2.toUInt32 >>> ((3 : Int32) &&& 31).toUInt32).toInt32))])) target
    refine XS.bipush Xg28.here hx rfl (hb hby at_52) ?_
    show Steps p.tables e below (Tg28.setTop (mkF m 54 #[.val (.int p0), .val (.int p1), .val (.int p2), .val (.int p3), .val (.int p4), .val (.int v4), .val (.int v11), .val (.ref b13), .val (.ref b28), .val (.int v35), .val (.int (0 : Int32)), .val (.int (0 : Int32)), .val (.int v47), .unset, .unset, .unset, .unset, .unset] [(.int (7 : Int32)), (.int ((p2.toUInt32 >>> ((3 : Int32) &&& 31).toUInt32).toInt32))])) target
    refine XS.iand Xg28.here hx rfl (hb hby at_54) rfl ?_
    show Steps p.tables e below (Tg28.setTop (mkF m 55 #[.val (.int p0), .val (.int p1), .val (.int p2), .val (.int p3), .val (.int p4), .val (.int v4), .val (.int v11), .val (.ref b13), .val (.ref b28), .val (.int v35), .val (.int (0 : Int32)), .val (.int (0 : Int32)), .val (.int v47), .unset, .unset, .unset, .unset, .unset] [(.int (((p2.toUInt32 >>> ((3 : Int32) &&& 31).toUInt32).toInt32) &&& (7 : Int32)))])) target
    refine XS.istore Xg28.here hx rfl (hb hby at_55) rfl (l' := #[.val (.int p0), .val (.int p1), .val (.int p2), .val (.int p3), .val (.int p4), .val (.int v4), .val (.int v11), .val (.ref b13), .val (.ref b28), .val (.int v35), .val (.int (0 : Int32)), .val (.int (0 : Int32)), .val (.int v47), .val (.int v55), .unset, .unset, .unset, .unset]) (by subst hv55; rfl) ?_
    show Steps p.tables e below (Tg28.setTop (mkF m 57 #[.val (.int p0), .val (.int p1), .val (.int p2), .val (.int p3), .val (.int p4), .val (.int v4), .val (.int v11), .val (.ref b13), .val (.ref b28), .val (.int v35), .val (.int (0 : Int32)), .val (.int (0 : Int32)), .val (.int v47), .val (.int v55), .unset, .unset, .unset, .unset] [])) target
    refine XS.iloadN Xg28.here hx rfl (hb hby at_57) rfl ?_
    show Steps p.tables e below (Tg28.setTop (mkF m 58 #[.val (.int p0), .val (.int p1), .val (.int p2), .val (.int p3), .val (.int p4), .val (.int v4), .val (.int v11), .val (.ref b13), .val (.ref b28), .val (.int v35), .val (.int (0 : Int32)), .val (.int (0 : Int32)), .val (.int v47), .val (.int v55), .unset, .unset, .unset, .unset] [(.int p2)])) target
    refine XS.bipush Xg28.here hx rfl (hb hby at_58) ?_
    show Steps p.tables e below (Tg28.setTop (mkF m 60 #[.val (.int p0), .val (.int p1), .val (.int p2), .val (.int p3), .val (.int p4), .val (.int v4), .val (.int v11), .val (.ref b13), .val (.ref b28), .val (.int v35), .val (.int (0 : Int32)), .val (.int (0 : Int32)), .val (.int v47), .val (.int v55), .unset, .unset, .unset, .unset] [(.int (6 : Int32)), (.int p2)])) target
    refine XS.iushr Xg28.here hx rfl (hb hby at_60) rfl ?_
    show Steps p.tables e below (Tg28.setTop (mkF m 61 #[.val (.int p0), .val (.int p1), .val (.int p2), .val (.int p3), .val (.int p4), .val (.int v4), .val (.int v11), .val (.ref b13), .val (.ref b28), .val (.int v35), .val (.int (0 : Int32)), .val (.int (0 : Int32)), .val (.int v47), .val (.int v55), .unset, .unset, .unset, .unset] [(.int ((p2.toUInt32 >>> ((6 : Int32) &&& 31).toUInt32).toInt32))])) target
    refine XS.bipush Xg28.here hx rfl (hb hby at_61) ?_
    show Steps p.tables e below (Tg28.setTop (mkF m 63 #[.val (.int p0), .val (.int p1), .val (.int p2), .val (.int p3), .val (.int p4), .val (.int v4), .val (.int v11), .val (.ref b13), .val (.ref b28), .val (.int v35), .val (.int (0 : Int32)), .val (.int (0 : Int32)), .val (.int v47), .val (.int v55), .unset, .unset, .unset, .unset] [(.int (7 : Int32)), (.int ((p2.toUInt32 >>> ((6 : Int32) &&& 31).toUInt32).toInt32))])) target
    refine XS.iand Xg28.here hx rfl (hb hby at_63) rfl ?_
    show Steps p.tables e below (Tg28.setTop (mkF m 64 #[.val (.int p0), .val (.int p1), .val (.int p2), .val (.int p3), .val (.int p4), .val (.int v4), .val (.int v11), .val (.ref b13), .val (.ref b28), .val (.int v35), .val (.int (0 : Int32)), .val (.int (0 : Int32)), .val (.int v47), .val (.int v55), .unset, .unset, .unset, .unset] [(.int (((p2.toUInt32 >>> ((6 : Int32) &&& 31).toUInt32).toInt32) &&& (7 : Int32)))])) target
    refine XS.istore Xg28.here hx rfl (hb hby at_64) rfl (l' := #[.val (.int p0), .val (.int p1), .val (.int p2), .val (.int p3), .val (.int p4), .val (.int v4), .val (.int v11), .val (.ref b13), .val (.ref b28), .val (.int v35), .val (.int (0 : Int32)), .val (.int (0 : Int32)), .val (.int v47), .val (.int v55), .val (.int v64), .unset, .unset, .unset]) (by subst hv64; rfl) ?_
    exact kt
  have hL0 : 0 ≤ v47.toInt ∧ v47.toInt ≤ 7 := by rw [hv47]; exact own_m7 _
  have hL1 : 0 ≤ v55.toInt ∧ v55.toInt ≤ 7 := by rw [hv55]; exact own_m7 _
  have hL2 : 0 ≤ v64.toInt ∧ v64.toInt ≤ 7 := by rw [hv64]; exact own_m7 _
  have hz0 : (0 : Int32).toInt = 0 := by decide
  have hI0 : own_I v4 v11 0 0 v47 := by unfold own_I; omega
  refine own_st (B := Tg28.setTop (mkF m 69 #[.val (.int p0), .val (.int p1), .val (.int p2), .val (.int p3), .val (.int p4), .val (.int v4), .val (.int v11), .val (.ref b13), .val (.ref b28), .val (.int v35), .val (.int (0 : Int32)), .val (.int (0 : Int32)), .val (.int v47), .val (.int v55), .val (.int v64), .unset, .unset, .unset] [(.int (1 : Int32)), (.int v35)])) (fun target kt => ?_) ?_
  · show Steps p.tables e below (Tg28.setTop (mkF m 66 #[.val (.int p0), .val (.int p1), .val (.int p2), .val (.int p3), .val (.int p4), .val (.int v4), .val (.int v11), .val (.ref b13), .val (.ref b28), .val (.int v35), .val (.int (0 : Int32)), .val (.int (0 : Int32)), .val (.int v47), .val (.int v55), .val (.int v64), .unset, .unset, .unset] [])) target
    refine XS.iload Xg28.here hx rfl (hb hby at_66) rfl ?_
    show Steps p.tables e below (Tg28.setTop (mkF m 68 #[.val (.int p0), .val (.int p1), .val (.int p2), .val (.int p3), .val (.int p4), .val (.int v4), .val (.int v11), .val (.ref b13), .val (.ref b28), .val (.int v35), .val (.int (0 : Int32)), .val (.int (0 : Int32)), .val (.int v47), .val (.int v55), .val (.int v64), .unset, .unset, .unset] [(.int v35)])) target
    refine XS.iconst Xg28.here hx rfl (hb hby at_68) ?_
    exact kt
  obtain ⟨_, ⟨T_M112, h_M112, lc_M112, j112_l10, j112_l11, j112_f_b13_size, j112_f_b13_used, j112_a, rfl, X_M112, e_M112, N_M112, Z_M112, F_30, F_31, F_32, F_33, F_34, F_35, F_36, F_37, hj112_l10, hj112_l11, hj112_f_b13_size, hj112_f_b13_used, hj112_a⟩, st_M112⟩ : own_Lead p.tables e below (Tg28.setTop (mkF m 69 #[.val (.int p0), .val (.int p1), .val (.int p2), .val (.int p3), .val (.int p4), .val (.int v4), .val (.int v11), .val (.ref b13), .val (.ref b28), .val (.int v35), .val (.int (0 : Int32)), .val (.int (0 : Int32)), .val (.int v47), .val (.int v55), .val (.int v64), .unset, .unset, .unset] [(.int (1 : Int32)), (.int v35)])) (fun B => ∃ (T_M112 : State) (h_M112 : Heap) (lc_M112 : List Loc) (j112_l10 : Int32) (j112_l11 : Int32) (j112_f_b13_size : Int32) (j112_f_b13_used : Int32) (j112_a : Nat → Int32), B = T_M112.setTop (mkF m 112 #[.val (.int p0), .val (.int p1), .val (.int p2), .val (.int p3), .val (.int p4), .val (.int v4), .val (.int v11), .val (.ref b13), .val (.ref b28), .val (.int v35), .val (.int j112_l10), .val (.int j112_l11), .val (.int v47), .val (.int v55), .val (.int v64), .unset, .unset, .unset] []) ∧ Stand p l e room_1 s m #[(.int p0), (.int p1), (.int p2), (.int p3), (.int p4)] below meth c T_M112 lc_M112 4 31 ∧ T_M112.heap = h_M112 ∧ Fr n0 lc_M112 ∧ n0 ≤ h_M112.size ∧ Exa Z h_M112 b13 "com/example/barnacle/barnacle/KeyBatch" ∧ Fld Z h_M112 b13 "com/example/barnacle/barnacle/KeyBatch" "bytes" "[B" (.ref b21_0) ∧ Fld Z h_M112 b13 "com/example/barnacle/barnacle/KeyBatch" "ends" "[I" (.ref b21_1) ∧ Fld Z h_M112 b13 "com/example/barnacle/barnacle/KeyBatch" "size" "I" (.int j112_f_b13_size) ∧ Fld Z h_M112 b13 "com/example/barnacle/barnacle/KeyBatch" "used" "I" (.int j112_f_b13_used) ∧ own_RayL Z h_M112 b21_0 (v4).toNatClampNeg () ∧ own_RayI Z h_M112 b21_1 (v11).toNatClampNeg j112_a ∧ own_RayB Z h_M112 b28 8 (fun _ => (0 : Int32)) ∧ j112_l10 = (if v35 < (1 : Int32) then (0 : Int32) else (if (0 : Int32) < v11 then (if (v4 - (0 : Int32)) < v47 then (0 : Int32) else (1 : Int32)) else (0 : Int32))) ∧ j112_l11 = (if v35 < (1 : Int32) then (0 : Int32) else (if (0 : Int32) < v11 then (if (v4 - (0 : Int32)) < v47 then (0 : Int32) else (((0 : Int32) + v47))) else (0 : Int32))) ∧ j112_f_b13_size = (if v35 < (1 : Int32) then (0 : Int32) else (if (0 : Int32) < v11 then (if (v4 - (0 : Int32)) < v47 then (0 : Int32) else (((0 : Int32) + (1 : Int32)))) else (0 : Int32))) ∧ j112_f_b13_used = (if v35 < (1 : Int32) then (0 : Int32) else (if (0 : Int32) < v11 then (if (v4 - (0 : Int32)) < v47 then (0 : Int32) else (((0 : Int32) + v47))) else (0 : Int32))) ∧ j112_a = (if v35 < (1 : Int32) then (fun _ => (0 : Int32)) else (if (0 : Int32) < v11 then (if (v4 - (0 : Int32)) < v47 then (fun _ => (0 : Int32)) else ((fun i => if i = (0 : Int32).toNatClampNeg then ((0 : Int32) + v47) else (fun _ => (0 : Int32)) i))) else (fun _ => (0 : Int32))))) := by
    by_cases c69 : v35 < (1 : Int32)
    · refine own_st (B := Tg28.setTop (mkF m 112 #[.val (.int p0), .val (.int p1), .val (.int p2), .val (.int p3), .val (.int p4), .val (.int v4), .val (.int v11), .val (.ref b13), .val (.ref b28), .val (.int v35), .val (.int (0 : Int32)), .val (.int (0 : Int32)), .val (.int v47), .val (.int v55), .val (.int v64), .unset, .unset, .unset] [])) (fun target kt => ?_) ?_
      · show Steps p.tables e below (Tg28.setTop (mkF m 69 #[.val (.int p0), .val (.int p1), .val (.int p2), .val (.int p3), .val (.int p4), .val (.int v4), .val (.int v11), .val (.ref b13), .val (.ref b28), .val (.int v35), .val (.int (0 : Int32)), .val (.int (0 : Int32)), .val (.int v47), .val (.int v55), .val (.int v64), .unset, .unset, .unset] [(.int (1 : Int32)), (.int v35)])) target
        refine XS.icmpYes Xg28.here hx rfl (pc0 := 69) (pc' := 112) rfl (hb hby at_69) rfl (tlt c69).1 (by decide) (by decide) ?_
        exact kt
      exact ⟨_, ⟨Tg28, hg28, _, (0 : Int32), (0 : Int32), (0 : Int32), (0 : Int32), (fun _ => (0 : Int32)), rfl, Xg28, eg28, Ng21, Zz_2, F_11, F_12, F_13, F_14, F_15, F_16, F_17, F_18, (if_pos c69).symm, (if_pos c69).symm, (if_pos c69).symm, (if_pos c69).symm, (if_pos c69).symm⟩, fun _ k => k⟩
    · refine own_st (B := Tg28.setTop (mkF m 76 #[.val (.int p0), .val (.int p1), .val (.int p2), .val (.int p3), .val (.int p4), .val (.int v4), .val (.int v11), .val (.ref b13), .val (.ref b28), .val (.int v35), .val (.int (0 : Int32)), .val (.int (0 : Int32)), .val (.int v47), .val (.int v55), .val (.int v64), .unset, .unset, .unset] [(.int v11), (.int (0 : Int32))])) (fun target kt => ?_) ?_
      · show Steps p.tables e below (Tg28.setTop (mkF m 69 #[.val (.int p0), .val (.int p1), .val (.int p2), .val (.int p3), .val (.int p4), .val (.int v4), .val (.int v11), .val (.ref b13), .val (.ref b28), .val (.int v35), .val (.int (0 : Int32)), .val (.int (0 : Int32)), .val (.int v47), .val (.int v55), .val (.int v64), .unset, .unset, .unset] [(.int (1 : Int32)), (.int v35)])) target
        refine XS.icmpNo Xg28.here hx rfl (hb hby at_69) rfl (flt c69).1 ?_
        show Steps p.tables e below (Tg28.setTop (mkF m 72 #[.val (.int p0), .val (.int p1), .val (.int p2), .val (.int p3), .val (.int p4), .val (.int v4), .val (.int v11), .val (.ref b13), .val (.ref b28), .val (.int v35), .val (.int (0 : Int32)), .val (.int (0 : Int32)), .val (.int v47), .val (.int v55), .val (.int v64), .unset, .unset, .unset] [])) target
        refine XS.iload Xg28.here hx rfl (hb hby at_72) rfl ?_
        show Steps p.tables e below (Tg28.setTop (mkF m 74 #[.val (.int p0), .val (.int p1), .val (.int p2), .val (.int p3), .val (.int p4), .val (.int v4), .val (.int v11), .val (.ref b13), .val (.ref b28), .val (.int v35), .val (.int (0 : Int32)), .val (.int (0 : Int32)), .val (.int v47), .val (.int v55), .val (.int v64), .unset, .unset, .unset] [(.int (0 : Int32))])) target
        refine XS.iload Xg28.here hx rfl (hb hby at_74) rfl ?_
        exact kt
      by_cases c76 : (0 : Int32) < v11
      · refine own_st (B := Tg28.setTop (mkF m 86 #[.val (.int p0), .val (.int p1), .val (.int p2), .val (.int p3), .val (.int p4), .val (.int v4), .val (.int v11), .val (.ref b13), .val (.ref b28), .val (.int v35), .val (.int (0 : Int32)), .val (.int (0 : Int32)), .val (.int v47), .val (.int v55), .val (.int v64), .unset, .unset, .unset] [(.int (v4 - (0 : Int32))), (.int v47)])) (fun target kt => ?_) ?_
        · show Steps p.tables e below (Tg28.setTop (mkF m 76 #[.val (.int p0), .val (.int p1), .val (.int p2), .val (.int p3), .val (.int p4), .val (.int v4), .val (.int v11), .val (.ref b13), .val (.ref b28), .val (.int v35), .val (.int (0 : Int32)), .val (.int (0 : Int32)), .val (.int v47), .val (.int v55), .val (.int v64), .unset, .unset, .unset] [(.int v11), (.int (0 : Int32))])) target
          refine XS.icmpNo Xg28.here hx rfl (hb hby at_76) rfl (tlt c76).2.1 ?_
          show Steps p.tables e below (Tg28.setTop (mkF m 79 #[.val (.int p0), .val (.int p1), .val (.int p2), .val (.int p3), .val (.int p4), .val (.int v4), .val (.int v11), .val (.ref b13), .val (.ref b28), .val (.int v35), .val (.int (0 : Int32)), .val (.int (0 : Int32)), .val (.int v47), .val (.int v55), .val (.int v64), .unset, .unset, .unset] [])) target
          refine XS.iload Xg28.here hx rfl (hb hby at_79) rfl ?_
          show Steps p.tables e below (Tg28.setTop (mkF m 81 #[.val (.int p0), .val (.int p1), .val (.int p2), .val (.int p3), .val (.int p4), .val (.int v4), .val (.int v11), .val (.ref b13), .val (.ref b28), .val (.int v35), .val (.int (0 : Int32)), .val (.int (0 : Int32)), .val (.int v47), .val (.int v55), .val (.int v64), .unset, .unset, .unset] [(.int v47)])) target
          refine XS.iload Xg28.here hx rfl (hb hby at_81) rfl ?_
          show Steps p.tables e below (Tg28.setTop (mkF m 83 #[.val (.int p0), .val (.int p1), .val (.int p2), .val (.int p3), .val (.int p4), .val (.int v4), .val (.int v11), .val (.ref b13), .val (.ref b28), .val (.int v35), .val (.int (0 : Int32)), .val (.int (0 : Int32)), .val (.int v47), .val (.int v55), .val (.int v64), .unset, .unset, .unset] [(.int v4), (.int v47)])) target
          refine XS.iload Xg28.here hx rfl (hb hby at_83) rfl ?_
          show Steps p.tables e below (Tg28.setTop (mkF m 85 #[.val (.int p0), .val (.int p1), .val (.int p2), .val (.int p3), .val (.int p4), .val (.int v4), .val (.int v11), .val (.ref b13), .val (.ref b28), .val (.int v35), .val (.int (0 : Int32)), .val (.int (0 : Int32)), .val (.int v47), .val (.int v55), .val (.int v64), .unset, .unset, .unset] [(.int (0 : Int32)), (.int v4), (.int v47)])) target
          refine XS.isub Xg28.here hx rfl (hb hby at_85) rfl ?_
          exact kt
        by_cases c86 : (v4 - (0 : Int32)) < v47
        · refine own_st (B := Tg28.setTop (mkF m 112 #[.val (.int p0), .val (.int p1), .val (.int p2), .val (.int p3), .val (.int p4), .val (.int v4), .val (.int v11), .val (.ref b13), .val (.ref b28), .val (.int v35), .val (.int (0 : Int32)), .val (.int (0 : Int32)), .val (.int v47), .val (.int v55), .val (.int v64), .unset, .unset, .unset] [])) (fun target kt => ?_) ?_
          · show Steps p.tables e below (Tg28.setTop (mkF m 86 #[.val (.int p0), .val (.int p1), .val (.int p2), .val (.int p3), .val (.int p4), .val (.int v4), .val (.int v11), .val (.ref b13), .val (.ref b28), .val (.int v35), .val (.int (0 : Int32)), .val (.int (0 : Int32)), .val (.int v47), .val (.int v55), .val (.int v64), .unset, .unset, .unset] [(.int (v4 - (0 : Int32))), (.int v47)])) target
            refine XS.icmpYes Xg28.here hx rfl (pc0 := 86) (pc' := 112) rfl (hb hby at_86) rfl (tlt c86).2.2.1 (by decide) (by decide) ?_
            exact kt
          exact ⟨_, ⟨Tg28, hg28, _, (0 : Int32), (0 : Int32), (0 : Int32), (0 : Int32), (fun _ => (0 : Int32)), rfl, Xg28, eg28, Ng21, Zz_2, F_11, F_12, F_13, F_14, F_15, F_16, F_17, F_18, (Eq.trans (Eq.trans (if_pos c86).symm (if_pos c76).symm) (if_neg c69).symm), (Eq.trans (Eq.trans (if_pos c86).symm (if_pos c76).symm) (if_neg c69).symm), (Eq.trans (Eq.trans (if_pos c86).symm (if_pos c76).symm) (if_neg c69).symm), (Eq.trans (Eq.trans (if_pos c86).symm (if_pos c76).symm) (if_neg c69).symm), (Eq.trans (Eq.trans (if_pos c86).symm (if_pos c76).symm) (if_neg c69).symm)⟩, fun _ k => k⟩
        · refine own_st (B := Tg28.setTop (mkF m 96 #[.val (.int p0), .val (.int p1), .val (.int p2), .val (.int p3), .val (.int p4), .val (.int v4), .val (.int v11), .val (.ref b13), .val (.ref b28), .val (.int v35), .val (.int (0 : Int32)), .val (.int (0 : Int32)), .val (.int v47), .val (.int v55), .val (.int v64), .unset, .unset, .unset] [(.int v47), (.int (0 : Int32)), (.ref b28), (.ref b13)])) (fun target kt => ?_) ?_
          · show Steps p.tables e below (Tg28.setTop (mkF m 86 #[.val (.int p0), .val (.int p1), .val (.int p2), .val (.int p3), .val (.int p4), .val (.int v4), .val (.int v11), .val (.ref b13), .val (.ref b28), .val (.int v35), .val (.int (0 : Int32)), .val (.int (0 : Int32)), .val (.int v47), .val (.int v55), .val (.int v64), .unset, .unset, .unset] [(.int (v4 - (0 : Int32))), (.int v47)])) target
            refine XS.icmpNo Xg28.here hx rfl (hb hby at_86) rfl (flt c86).2.2.1 ?_
            show Steps p.tables e below (Tg28.setTop (mkF m 89 #[.val (.int p0), .val (.int p1), .val (.int p2), .val (.int p3), .val (.int p4), .val (.int v4), .val (.int v11), .val (.ref b13), .val (.ref b28), .val (.int v35), .val (.int (0 : Int32)), .val (.int (0 : Int32)), .val (.int v47), .val (.int v55), .val (.int v64), .unset, .unset, .unset] [])) target
            refine XS.aload Xg28.here hx rfl (hb hby at_89) rfl rfl ?_
            show Steps p.tables e below (Tg28.setTop (mkF m 91 #[.val (.int p0), .val (.int p1), .val (.int p2), .val (.int p3), .val (.int p4), .val (.int v4), .val (.int v11), .val (.ref b13), .val (.ref b28), .val (.int v35), .val (.int (0 : Int32)), .val (.int (0 : Int32)), .val (.int v47), .val (.int v55), .val (.int v64), .unset, .unset, .unset] [(.ref b13)])) target
            refine XS.aload Xg28.here hx rfl (hb hby at_91) rfl rfl ?_
            show Steps p.tables e below (Tg28.setTop (mkF m 93 #[.val (.int p0), .val (.int p1), .val (.int p2), .val (.int p3), .val (.int p4), .val (.int v4), .val (.int v11), .val (.ref b13), .val (.ref b28), .val (.int v35), .val (.int (0 : Int32)), .val (.int (0 : Int32)), .val (.int v47), .val (.int v55), .val (.int v64), .unset, .unset, .unset] [(.ref b28), (.ref b13)])) target
            refine XS.iconst Xg28.here hx rfl (hb hby at_93) ?_
            show Steps p.tables e below (Tg28.setTop (mkF m 94 #[.val (.int p0), .val (.int p1), .val (.int p2), .val (.int p3), .val (.int p4), .val (.int v4), .val (.int v11), .val (.ref b13), .val (.ref b28), .val (.int v35), .val (.int (0 : Int32)), .val (.int (0 : Int32)), .val (.int v47), .val (.int v55), .val (.int v64), .unset, .unset, .unset] [(.int (0 : Int32)), (.ref b28), (.ref b13)])) target
            refine XS.iload Xg28.here hx rfl (hb hby at_94) rfl ?_
            exact kt
          obtain ⟨cqg96, kqg96, qg96a, qg96b, qg96c⟩ := isOf hZ eg28 F_11
          obtain ⟨_, _, ⟨Tg96, Lg96, kg96, ng96⟩, -, Xg96, ⟨Lcg96, hQg96, lg96, yg96, zg96⟩, stg96⟩ := Xg28.virtualBack hx (y := (⟨"com/example/barnacle/barnacle/KeyBatch", "add", "([BII)V"⟩ : MethodName)) (z := (⟨"com/example/barnacle/barnacle/KeyBatch", "add", "([BII)V"⟩ : MethodName)) hown (mvT hZ (hw _ (List.mem_of_getElem? (i := 25) rfl))) (mvT hZ (hw _ (List.mem_of_getElem? (i := 26) rfl))) (notFace_of_selects (args := #[]) (mvT hZ (hw _ (List.mem_of_getElem? (i := 28) rfl)))) (mvT hZ (hw _ (List.mem_of_getElem? (i := 28) rfl))) (mvT hZ (hw _ (List.mem_of_getElem? (i := 27) rfl))) (by decide) (backOf (W := 0) (own_rm4 l Z a0 hw [] b13 b28 v47 v4 v11 b21_0 b21_1 (0 : Int32) (0 : Int32) (fun _ => (0 : Int32)) (fun _ => (0 : Int32)) hg28 n0 Zz_2 F_11 F_12 F_13 F_14 F_15 F_18 F_16 F_17 g_b13 g_b21_0 g_b21_1 ne_b13_b28 ne_b13_b21_0 ne_b13_b21_1 (Ne.symm ne_b21_0_b28) (Ne.symm ne_b21_1_b28) ne_b21_0_b21_1 (show ¬ (v4 < (0 : Int32)) from hzB) (show ¬ (v11 < (0 : Int32)) from hzK) (show own_I v4 v11 (0 : Int32) (0 : Int32) v47 from hI0) (show ((0 : Int32) < v11) ∧ (¬ ((v4 - (0 : Int32)) < v47)) from ⟨c76, c86⟩)) hZ (hw _ (List.mem_of_getElem? (i := 29) rfl)) (hw _ (List.mem_of_getElem? (i := 2) rfl)) (by decide) (by decide)) qg96a qg96c (g := (mkF m 96 #[.val (.int p0), .val (.int p1), .val (.int p2), .val (.int p3), .val (.int p4), .val (.int v4), .val (.int v11), .val (.ref b13), .val (.ref b28), .val (.int v35), .val (.int (0 : Int32)), .val (.int (0 : Int32)), .val (.int v47), .val (.int v55), .val (.int v64), .unset, .unset, .unset] [(.int v47), (.int (0 : Int32)), (.ref b28), (.ref b13)])) rfl (by rw [hml]; rfl) (Steps.refl _) (argsL := [(.ref b28), (.int (0 : Int32)), (.int v47)]) (rest := []) (lenOf own_pd4 rfl) rfl (by show 2 * 0 + _ ≤ _; exact Nat.le_of_eq rfl) (hb hby at_96) (fun _ _ => ⟨rfl, eg28, (by decide : 4 + 0 ≤ _), (by decide : 31 + 0 ≤ _)⟩)
          dsimp only [Pt.U, Pt.locs, Pt.cells, Pt.slots] at Xg96 lg96 yg96 zg96 stg96 hQg96
          subst lg96 yg96 zg96
          obtain ⟨rfl, Ng96q, Kg96, F_19, F_20, F_21, F_22, F_23, F_24, F_25⟩ := hQg96
          have F_26 := F_18.keep Kg96 (ninS (Ne.symm ne_b13_b28) (ninS (Ne.symm ne_b21_0_b28) (ninS (Ne.symm ne_b21_1_b28) nin0)))
          have Zz_3 : n0 ≤ Tg96.heap.size := Nat.le_trans Zz_2 Kg96.1
          obtain ⟨w96_size, hw96_size⟩ : ∃ z : Int32, z = ((0 : Int32) + (1 : Int32)) := ⟨_, rfl⟩
          have F_27 : Fld Z Tg96.heap b13 "com/example/barnacle/barnacle/KeyBatch" "size" "I" (.int w96_size) := by subst hw96_size; exact F_22
          obtain ⟨w96_used, hw96_used⟩ : ∃ z : Int32, z = ((0 : Int32) + v47) := ⟨_, rfl⟩
          have F_28 : Fld Z Tg96.heap b13 "com/example/barnacle/barnacle/KeyBatch" "used" "I" (.int w96_used) := by subst hw96_used; exact F_23
          obtain ⟨a96, ha96⟩ : ∃ z : Nat → Int32, z = (fun i => if i = (0 : Int32).toNatClampNeg then ((0 : Int32) + v47) else (fun _ => (0 : Int32)) i) := ⟨_, rfl⟩
          have F_29 : own_RayI Z Tg96.heap b21_1 (v11).toNatClampNeg a96 := by subst ha96; exact F_25
          have Ng96 := Fr.app Ng21 Ng96q
          refine own_st (fun _ k => stg96.trans k) ?_
          obtain ⟨v110, hv110⟩ : ∃ z : Int32, z = ((0 : Int32) + v47) := ⟨_, rfl⟩
          refine own_st (B := Tg96.setTop (mkF m 112 #[.val (.int p0), .val (.int p1), .val (.int p2), .val (.int p3), .val (.int p4), .val (.int v4), .val (.int v11), .val (.ref b13), .val (.ref b28), .val (.int v35), .val (.int (1 : Int32)), .val (.int v110), .val (.int v47), .val (.int v55), .val (.int v64), .unset, .unset, .unset] [])) (fun target kt => ?_) ?_
          · show Steps p.tables e below (Tg96.setTop (mkF m 99 #[.val (.int p0), .val (.int p1), .val (.int p2), .val (.int p3), .val (.int p4), .val (.int v4), .val (.int v11), .val (.ref b13), .val (.ref b28), .val (.int v35), .val (.int (0 : Int32)), .val (.int (0 : Int32)), .val (.int v47), .val (.int v55), .val (.int v64), .unset, .unset, .unset] [])) target
            refine XS.iload Xg96.here hx rfl (hb hby at_99) rfl ?_
            show Steps p.tables e below (Tg96.setTop (mkF m 101 #[.val (.int p0), .val (.int p1), .val (.int p2), .val (.int p3), .val (.int p4), .val (.int v4), .val (.int v11), .val (.ref b13), .val (.ref b28), .val (.int v35), .val (.int (0 : Int32)), .val (.int (0 : Int32)), .val (.int v47), .val (.int v55), .val (.int v64), .unset, .unset, .unset] [(.int (0 : Int32))])) target
            refine XS.iconst Xg96.here hx rfl (hb hby at_101) ?_
            show Steps p.tables e below (Tg96.setTop (mkF m 102 #[.val (.int p0), .val (.int p1), .val (.int p2), .val (.int p3), .val (.int p4), .val (.int v4), .val (.int v11), .val (.ref b13), .val (.ref b28), .val (.int v35), .val (.int (0 : Int32)), .val (.int (0 : Int32)), .val (.int v47), .val (.int v55), .val (.int v64), .unset, .unset, .unset] [(.int (1 : Int32)), (.int (0 : Int32))])) target
            refine XS.iadd Xg96.here hx rfl (hb hby at_102) rfl ?_
            show Steps p.tables e below (Tg96.setTop (mkF m 103 #[.val (.int p0), .val (.int p1), .val (.int p2), .val (.int p3), .val (.int p4), .val (.int v4), .val (.int v11), .val (.ref b13), .val (.ref b28), .val (.int v35), .val (.int (0 : Int32)), .val (.int (0 : Int32)), .val (.int v47), .val (.int v55), .val (.int v64), .unset, .unset, .unset] [(.int (1 : Int32))])) target
            refine XS.istore Xg96.here hx rfl (hb hby at_103) rfl (l' := #[.val (.int p0), .val (.int p1), .val (.int p2), .val (.int p3), .val (.int p4), .val (.int v4), .val (.int v11), .val (.ref b13), .val (.ref b28), .val (.int v35), .val (.int (1 : Int32)), .val (.int (0 : Int32)), .val (.int v47), .val (.int v55), .val (.int v64), .unset, .unset, .unset]) rfl ?_
            show Steps p.tables e below (Tg96.setTop (mkF m 105 #[.val (.int p0), .val (.int p1), .val (.int p2), .val (.int p3), .val (.int p4), .val (.int v4), .val (.int v11), .val (.ref b13), .val (.ref b28), .val (.int v35), .val (.int (1 : Int32)), .val (.int (0 : Int32)), .val (.int v47), .val (.int v55), .val (.int v64), .unset, .unset, .unset] [])) target
            refine XS.iload Xg96.here hx rfl (hb hby at_105) rfl ?_
            show Steps p.tables e below (Tg96.setTop (mkF m 107 #[.val (.int p0), .val (.int p1), .val (.int p2), .val (.int p3), .val (.int p4), .val (.int v4), .val (.int v11), .val (.ref b13), .val (.ref b28), .val (.int v35), .val (.int (1 : Int32)), .val (.int (0 : Int32)), .val (.int v47), .val (.int v55), .val (.int v64), .unset, .unset, .unset] [(.int (0 : Int32))])) target
            refine XS.iload Xg96.here hx rfl (hb hby at_107) rfl ?_
            show Steps p.tables e below (Tg96.setTop (mkF m 109 #[.val (.int p0), .val (.int p1), .val (.int p2), .val (.int p3), .val (.int p4), .val (.int v4), .val (.int v11), .val (.ref b13), .val (.ref b28), .val (.int v35), .val (.int (1 : Int32)), .val (.int (0 : Int32)), .val (.int v47), .val (.int v55), .val (.int v64), .unset, .unset, .unset] [(.int v47), (.int (0 : Int32))])) target
            refine XS.iadd Xg96.here hx rfl (hb hby at_109) rfl ?_
            show Steps p.tables e below (Tg96.setTop (mkF m 110 #[.val (.int p0), .val (.int p1), .val (.int p2), .val (.int p3), .val (.int p4), .val (.int v4), .val (.int v11), .val (.ref b13), .val (.ref b28), .val (.int v35), .val (.int (1 : Int32)), .val (.int (0 : Int32)), .val (.int v47), .val (.int v55), .val (.int v64), .unset, .unset, .unset] [(.int ((0 : Int32) + v47))])) target
            refine XS.istore Xg96.here hx rfl (hb hby at_110) rfl (l' := #[.val (.int p0), .val (.int p1), .val (.int p2), .val (.int p3), .val (.int p4), .val (.int v4), .val (.int v11), .val (.ref b13), .val (.ref b28), .val (.int v35), .val (.int (1 : Int32)), .val (.int v110), .val (.int v47), .val (.int v55), .val (.int v64), .unset, .unset, .unset]) (by subst hv110; rfl) ?_
            exact kt
          subst hw96_size hw96_used ha96 hv110
          exact ⟨_, ⟨Tg96, Tg96.heap, _, (1 : Int32), (((0 : Int32) + v47)), (((0 : Int32) + (1 : Int32))), (((0 : Int32) + v47)), ((fun i => if i = (0 : Int32).toNatClampNeg then ((0 : Int32) + v47) else (fun _ => (0 : Int32)) i)), rfl, Xg96, rfl, Ng96, Zz_3, F_19, F_20, F_21, F_27, F_28, F_24, F_29, F_26, (Eq.trans (Eq.trans (if_neg c86).symm (if_pos c76).symm) (if_neg c69).symm), (Eq.trans (Eq.trans (if_neg c86).symm (if_pos c76).symm) (if_neg c69).symm), (Eq.trans (Eq.trans (if_neg c86).symm (if_pos c76).symm) (if_neg c69).symm), (Eq.trans (Eq.trans (if_neg c86).symm (if_pos c76).symm) (if_neg c69).symm), (Eq.trans (Eq.trans (if_neg c86).symm (if_pos c76).symm) (if_neg c69).symm)⟩, fun _ k => k⟩
      · refine own_st (B := Tg28.setTop (mkF m 112 #[.val (.int p0), .val (.int p1), .val (.int p2), .val (.int p3), .val (.int p4), .val (.int v4), .val (.int v11), .val (.ref b13), .val (.ref b28), .val (.int v35), .val (.int (0 : Int32)), .val (.int (0 : Int32)), .val (.int v47), .val (.int v55), .val (.int v64), .unset, .unset, .unset] [])) (fun target kt => ?_) ?_
        · show Steps p.tables e below (Tg28.setTop (mkF m 76 #[.val (.int p0), .val (.int p1), .val (.int p2), .val (.int p3), .val (.int p4), .val (.int v4), .val (.int v11), .val (.ref b13), .val (.ref b28), .val (.int v35), .val (.int (0 : Int32)), .val (.int (0 : Int32)), .val (.int v47), .val (.int v55), .val (.int v64), .unset, .unset, .unset] [(.int v11), (.int (0 : Int32))])) target
          refine XS.icmpYes Xg28.here hx rfl (pc0 := 76) (pc' := 112) rfl (hb hby at_76) rfl (flt c76).2.1 (by decide) (by decide) ?_
          exact kt
        exact ⟨_, ⟨Tg28, hg28, _, (0 : Int32), (0 : Int32), (0 : Int32), (0 : Int32), (fun _ => (0 : Int32)), rfl, Xg28, eg28, Ng21, Zz_2, F_11, F_12, F_13, F_14, F_15, F_16, F_17, F_18, (Eq.trans (if_neg c76).symm (if_neg c69).symm), (Eq.trans (if_neg c76).symm (if_neg c69).symm), (Eq.trans (if_neg c76).symm (if_neg c69).symm), (Eq.trans (if_neg c76).symm (if_neg c69).symm), (Eq.trans (if_neg c76).symm (if_neg c69).symm)⟩, fun _ k => k⟩
  refine own_st st_M112 ?_
  have hE1 : j112_f_b13_size = j112_l10 ∧ j112_f_b13_used = j112_l11 := by rw [hj112_f_b13_size, hj112_l10, hj112_f_b13_used, hj112_l11]; exact ⟨rfl, rfl⟩
  have hS1 := own_stp v4 v11 0 0 v47 v35 1 j112_l10 j112_l11 1 hI0 (by decide) hj112_l10 hj112_l11
  have hI1 : own_I v4 v11 j112_l11 j112_l10 v55 := by unfold own_I; omega
  refine own_st (B := T_M112.setTop (mkF m 115 #[.val (.int p0), .val (.int p1), .val (.int p2), .val (.int p3), .val (.int p4), .val (.int v4), .val (.int v11), .val (.ref b13), .val (.ref b28), .val (.int v35), .val (.int j112_l10), .val (.int j112_l11), .val (.int v47), .val (.int v55), .val (.int v64), .unset, .unset, .unset] [(.int (2 : Int32)), (.int v35)])) (fun target kt => ?_) ?_
  · show Steps p.tables e below (T_M112.setTop (mkF m 112 #[.val (.int p0), .val (.int p1), .val (.int p2), .val (.int p3), .val (.int p4), .val (.int v4), .val (.int v11), .val (.ref b13), .val (.ref b28), .val (.int v35), .val (.int j112_l10), .val (.int j112_l11), .val (.int v47), .val (.int v55), .val (.int v64), .unset, .unset, .unset] [])) target
    refine XS.iload X_M112.here hx rfl (hb hby at_112) rfl ?_
    show Steps p.tables e below (T_M112.setTop (mkF m 114 #[.val (.int p0), .val (.int p1), .val (.int p2), .val (.int p3), .val (.int p4), .val (.int v4), .val (.int v11), .val (.ref b13), .val (.ref b28), .val (.int v35), .val (.int j112_l10), .val (.int j112_l11), .val (.int v47), .val (.int v55), .val (.int v64), .unset, .unset, .unset] [(.int v35)])) target
    refine XS.iconst X_M112.here hx rfl (hb hby at_114) ?_
    exact kt
  obtain ⟨_, ⟨T_M158, h_M158, lc_M158, j158_l10, j158_l11, j158_f_b13_size, j158_f_b13_used, j158_a, rfl, X_M158, e_M158, N_M158, Z_M158, F_49, F_50, F_51, F_52, F_53, F_54, F_55, F_56, hj158_l10, hj158_l11, hj158_f_b13_size, hj158_f_b13_used, hj158_a⟩, st_M158⟩ : own_Lead p.tables e below (T_M112.setTop (mkF m 115 #[.val (.int p0), .val (.int p1), .val (.int p2), .val (.int p3), .val (.int p4), .val (.int v4), .val (.int v11), .val (.ref b13), .val (.ref b28), .val (.int v35), .val (.int j112_l10), .val (.int j112_l11), .val (.int v47), .val (.int v55), .val (.int v64), .unset, .unset, .unset] [(.int (2 : Int32)), (.int v35)])) (fun B => ∃ (T_M158 : State) (h_M158 : Heap) (lc_M158 : List Loc) (j158_l10 : Int32) (j158_l11 : Int32) (j158_f_b13_size : Int32) (j158_f_b13_used : Int32) (j158_a : Nat → Int32), B = T_M158.setTop (mkF m 158 #[.val (.int p0), .val (.int p1), .val (.int p2), .val (.int p3), .val (.int p4), .val (.int v4), .val (.int v11), .val (.ref b13), .val (.ref b28), .val (.int v35), .val (.int j158_l10), .val (.int j158_l11), .val (.int v47), .val (.int v55), .val (.int v64), .unset, .unset, .unset] []) ∧ Stand p l e room_1 s m #[(.int p0), (.int p1), (.int p2), (.int p3), (.int p4)] below meth c T_M158 lc_M158 4 31 ∧ T_M158.heap = h_M158 ∧ Fr n0 lc_M158 ∧ n0 ≤ h_M158.size ∧ Exa Z h_M158 b13 "com/example/barnacle/barnacle/KeyBatch" ∧ Fld Z h_M158 b13 "com/example/barnacle/barnacle/KeyBatch" "bytes" "[B" (.ref b21_0) ∧ Fld Z h_M158 b13 "com/example/barnacle/barnacle/KeyBatch" "ends" "[I" (.ref b21_1) ∧ Fld Z h_M158 b13 "com/example/barnacle/barnacle/KeyBatch" "size" "I" (.int j158_f_b13_size) ∧ Fld Z h_M158 b13 "com/example/barnacle/barnacle/KeyBatch" "used" "I" (.int j158_f_b13_used) ∧ own_RayL Z h_M158 b21_0 (v4).toNatClampNeg () ∧ own_RayI Z h_M158 b21_1 (v11).toNatClampNeg j158_a ∧ own_RayB Z h_M158 b28 8 (fun _ => (0 : Int32)) ∧ j158_l10 = (if v35 < (2 : Int32) then j112_l10 else (if j112_l10 < v11 then (if (v4 - j112_l11) < v55 then j112_l10 else ((j112_l10 + (1 : Int32)))) else j112_l10)) ∧ j158_l11 = (if v35 < (2 : Int32) then j112_l11 else (if j112_l10 < v11 then (if (v4 - j112_l11) < v55 then j112_l11 else ((j112_l11 + v55))) else j112_l11)) ∧ j158_f_b13_size = (if v35 < (2 : Int32) then j112_f_b13_size else (if j112_l10 < v11 then (if (v4 - j112_l11) < v55 then j112_f_b13_size else ((j112_f_b13_size + (1 : Int32)))) else j112_f_b13_size)) ∧ j158_f_b13_used = (if v35 < (2 : Int32) then j112_f_b13_used else (if j112_l10 < v11 then (if (v4 - j112_l11) < v55 then j112_f_b13_used else ((j112_f_b13_used + v55))) else j112_f_b13_used)) ∧ j158_a = (if v35 < (2 : Int32) then j112_a else (if j112_l10 < v11 then (if (v4 - j112_l11) < v55 then j112_a else ((fun i => if i = (j112_f_b13_size).toNatClampNeg then (j112_f_b13_used + v55) else j112_a i))) else j112_a))) := by
    by_cases c115 : v35 < (2 : Int32)
    · refine own_st (B := T_M112.setTop (mkF m 158 #[.val (.int p0), .val (.int p1), .val (.int p2), .val (.int p3), .val (.int p4), .val (.int v4), .val (.int v11), .val (.ref b13), .val (.ref b28), .val (.int v35), .val (.int j112_l10), .val (.int j112_l11), .val (.int v47), .val (.int v55), .val (.int v64), .unset, .unset, .unset] [])) (fun target kt => ?_) ?_
      · show Steps p.tables e below (T_M112.setTop (mkF m 115 #[.val (.int p0), .val (.int p1), .val (.int p2), .val (.int p3), .val (.int p4), .val (.int v4), .val (.int v11), .val (.ref b13), .val (.ref b28), .val (.int v35), .val (.int j112_l10), .val (.int j112_l11), .val (.int v47), .val (.int v55), .val (.int v64), .unset, .unset, .unset] [(.int (2 : Int32)), (.int v35)])) target
        refine XS.icmpYes X_M112.here hx rfl (pc0 := 115) (pc' := 158) rfl (hb hby at_115) rfl (tlt c115).1 (by decide) (by decide) ?_
        exact kt
      exact ⟨_, ⟨T_M112, h_M112, _, j112_l10, j112_l11, j112_f_b13_size, j112_f_b13_used, j112_a, rfl, X_M112, e_M112, N_M112, Z_M112, F_30, F_31, F_32, F_33, F_34, F_35, F_36, F_37, (if_pos c115).symm, (if_pos c115).symm, (if_pos c115).symm, (if_pos c115).symm, (if_pos c115).symm⟩, fun _ k => k⟩
    · refine own_st (B := T_M112.setTop (mkF m 122 #[.val (.int p0), .val (.int p1), .val (.int p2), .val (.int p3), .val (.int p4), .val (.int v4), .val (.int v11), .val (.ref b13), .val (.ref b28), .val (.int v35), .val (.int j112_l10), .val (.int j112_l11), .val (.int v47), .val (.int v55), .val (.int v64), .unset, .unset, .unset] [(.int v11), (.int j112_l10)])) (fun target kt => ?_) ?_
      · show Steps p.tables e below (T_M112.setTop (mkF m 115 #[.val (.int p0), .val (.int p1), .val (.int p2), .val (.int p3), .val (.int p4), .val (.int v4), .val (.int v11), .val (.ref b13), .val (.ref b28), .val (.int v35), .val (.int j112_l10), .val (.int j112_l11), .val (.int v47), .val (.int v55), .val (.int v64), .unset, .unset, .unset] [(.int (2 : Int32)), (.int v35)])) target
        refine XS.icmpNo X_M112.here hx rfl (hb hby at_115) rfl (flt c115).1 ?_
        show Steps p.tables e below (T_M112.setTop (mkF m 118 #[.val (.int p0), .val (.int p1), .val (.int p2), .val (.int p3), .val (.int p4), .val (.int v4), .val (.int v11), .val (.ref b13), .val (.ref b28), .val (.int v35), .val (.int j112_l10), .val (.int j112_l11), .val (.int v47), .val (.int v55), .val (.int v64), .unset, .unset, .unset] [])) target
        refine XS.iload X_M112.here hx rfl (hb hby at_118) rfl ?_
        show Steps p.tables e below (T_M112.setTop (mkF m 120 #[.val (.int p0), .val (.int p1), .val (.int p2), .val (.int p3), .val (.int p4), .val (.int v4), .val (.int v11), .val (.ref b13), .val (.ref b28), .val (.int v35), .val (.int j112_l10), .val (.int j112_l11), .val (.int v47), .val (.int v55), .val (.int v64), .unset, .unset, .unset] [(.int j112_l10)])) target
        refine XS.iload X_M112.here hx rfl (hb hby at_120) rfl ?_
        exact kt
      by_cases c122 : j112_l10 < v11
      · refine own_st (B := T_M112.setTop (mkF m 132 #[.val (.int p0), .val (.int p1), .val (.int p2), .val (.int p3), .val (.int p4), .val (.int v4), .val (.int v11), .val (.ref b13), .val (.ref b28), .val (.int v35), .val (.int j112_l10), .val (.int j112_l11), .val (.int v47), .val (.int v55), .val (.int v64), .unset, .unset, .unset] [(.int (v4 - j112_l11)), (.int v55)])) (fun target kt => ?_) ?_
        · show Steps p.tables e below (T_M112.setTop (mkF m 122 #[.val (.int p0), .val (.int p1), .val (.int p2), .val (.int p3), .val (.int p4), .val (.int v4), .val (.int v11), .val (.ref b13), .val (.ref b28), .val (.int v35), .val (.int j112_l10), .val (.int j112_l11), .val (.int v47), .val (.int v55), .val (.int v64), .unset, .unset, .unset] [(.int v11), (.int j112_l10)])) target
          refine XS.icmpNo X_M112.here hx rfl (hb hby at_122) rfl (tlt c122).2.1 ?_
          show Steps p.tables e below (T_M112.setTop (mkF m 125 #[.val (.int p0), .val (.int p1), .val (.int p2), .val (.int p3), .val (.int p4), .val (.int v4), .val (.int v11), .val (.ref b13), .val (.ref b28), .val (.int v35), .val (.int j112_l10), .val (.int j112_l11), .val (.int v47), .val (.int v55), .val (.int v64), .unset, .unset, .unset] [])) target
          refine XS.iload X_M112.here hx rfl (hb hby at_125) rfl ?_
          show Steps p.tables e below (T_M112.setTop (mkF m 127 #[.val (.int p0), .val (.int p1), .val (.int p2), .val (.int p3), .val (.int p4), .val (.int v4), .val (.int v11), .val (.ref b13), .val (.ref b28), .val (.int v35), .val (.int j112_l10), .val (.int j112_l11), .val (.int v47), .val (.int v55), .val (.int v64), .unset, .unset, .unset] [(.int v55)])) target
          refine XS.iload X_M112.here hx rfl (hb hby at_127) rfl ?_
          show Steps p.tables e below (T_M112.setTop (mkF m 129 #[.val (.int p0), .val (.int p1), .val (.int p2), .val (.int p3), .val (.int p4), .val (.int v4), .val (.int v11), .val (.ref b13), .val (.ref b28), .val (.int v35), .val (.int j112_l10), .val (.int j112_l11), .val (.int v47), .val (.int v55), .val (.int v64), .unset, .unset, .unset] [(.int v4), (.int v55)])) target
          refine XS.iload X_M112.here hx rfl (hb hby at_129) rfl ?_
          show Steps p.tables e below (T_M112.setTop (mkF m 131 #[.val (.int p0), .val (.int p1), .val (.int p2), .val (.int p3), .val (.int p4), .val (.int v4), .val (.int v11), .val (.ref b13), .val (.ref b28), .val (.int v35), .val (.int j112_l10), .val (.int j112_l11), .val (.int v47), .val (.int v55), .val (.int v64), .unset, .unset, .unset] [(.int j112_l11), (.int v4), (.int v55)])) target
          refine XS.isub X_M112.here hx rfl (hb hby at_131) rfl ?_
          exact kt
        by_cases c132 : (v4 - j112_l11) < v55
        · refine own_st (B := T_M112.setTop (mkF m 158 #[.val (.int p0), .val (.int p1), .val (.int p2), .val (.int p3), .val (.int p4), .val (.int v4), .val (.int v11), .val (.ref b13), .val (.ref b28), .val (.int v35), .val (.int j112_l10), .val (.int j112_l11), .val (.int v47), .val (.int v55), .val (.int v64), .unset, .unset, .unset] [])) (fun target kt => ?_) ?_
          · show Steps p.tables e below (T_M112.setTop (mkF m 132 #[.val (.int p0), .val (.int p1), .val (.int p2), .val (.int p3), .val (.int p4), .val (.int v4), .val (.int v11), .val (.ref b13), .val (.ref b28), .val (.int v35), .val (.int j112_l10), .val (.int j112_l11), .val (.int v47), .val (.int v55), .val (.int v64), .unset, .unset, .unset] [(.int (v4 - j112_l11)), (.int v55)])) target
            refine XS.icmpYes X_M112.here hx rfl (pc0 := 132) (pc' := 158) rfl (hb hby at_132) rfl (tlt c132).2.2.1 (by decide) (by decide) ?_
            exact kt
          exact ⟨_, ⟨T_M112, h_M112, _, j112_l10, j112_l11, j112_f_b13_size, j112_f_b13_used, j112_a, rfl, X_M112, e_M112, N_M112, Z_M112, F_30, F_31, F_32, F_33, F_34, F_35, F_36, F_37, (Eq.trans (Eq.trans (if_pos c132).symm (if_pos c122).symm) (if_neg c115).symm), (Eq.trans (Eq.trans (if_pos c132).symm (if_pos c122).symm) (if_neg c115).symm), (Eq.trans (Eq.trans (if_pos c132).symm (if_pos c122).symm) (if_neg c115).symm), (Eq.trans (Eq.trans (if_pos c132).symm (if_pos c122).symm) (if_neg c115).symm), (Eq.trans (Eq.trans (if_pos c132).symm (if_pos c122).symm) (if_neg c115).symm)⟩, fun _ k => k⟩
        · refine own_st (B := T_M112.setTop (mkF m 142 #[.val (.int p0), .val (.int p1), .val (.int p2), .val (.int p3), .val (.int p4), .val (.int v4), .val (.int v11), .val (.ref b13), .val (.ref b28), .val (.int v35), .val (.int j112_l10), .val (.int j112_l11), .val (.int v47), .val (.int v55), .val (.int v64), .unset, .unset, .unset] [(.int v55), (.int (0 : Int32)), (.ref b28), (.ref b13)])) (fun target kt => ?_) ?_
          · show Steps p.tables e below (T_M112.setTop (mkF m 132 #[.val (.int p0), .val (.int p1), .val (.int p2), .val (.int p3), .val (.int p4), .val (.int v4), .val (.int v11), .val (.ref b13), .val (.ref b28), .val (.int v35), .val (.int j112_l10), .val (.int j112_l11), .val (.int v47), .val (.int v55), .val (.int v64), .unset, .unset, .unset] [(.int (v4 - j112_l11)), (.int v55)])) target
            refine XS.icmpNo X_M112.here hx rfl (hb hby at_132) rfl (flt c132).2.2.1 ?_
            show Steps p.tables e below (T_M112.setTop (mkF m 135 #[.val (.int p0), .val (.int p1), .val (.int p2), .val (.int p3), .val (.int p4), .val (.int v4), .val (.int v11), .val (.ref b13), .val (.ref b28), .val (.int v35), .val (.int j112_l10), .val (.int j112_l11), .val (.int v47), .val (.int v55), .val (.int v64), .unset, .unset, .unset] [])) target
            refine XS.aload X_M112.here hx rfl (hb hby at_135) rfl rfl ?_
            show Steps p.tables e below (T_M112.setTop (mkF m 137 #[.val (.int p0), .val (.int p1), .val (.int p2), .val (.int p3), .val (.int p4), .val (.int v4), .val (.int v11), .val (.ref b13), .val (.ref b28), .val (.int v35), .val (.int j112_l10), .val (.int j112_l11), .val (.int v47), .val (.int v55), .val (.int v64), .unset, .unset, .unset] [(.ref b13)])) target
            refine XS.aload X_M112.here hx rfl (hb hby at_137) rfl rfl ?_
            show Steps p.tables e below (T_M112.setTop (mkF m 139 #[.val (.int p0), .val (.int p1), .val (.int p2), .val (.int p3), .val (.int p4), .val (.int v4), .val (.int v11), .val (.ref b13), .val (.ref b28), .val (.int v35), .val (.int j112_l10), .val (.int j112_l11), .val (.int v47), .val (.int v55), .val (.int v64), .unset, .unset, .unset] [(.ref b28), (.ref b13)])) target
            refine XS.iconst X_M112.here hx rfl (hb hby at_139) ?_
            show Steps p.tables e below (T_M112.setTop (mkF m 140 #[.val (.int p0), .val (.int p1), .val (.int p2), .val (.int p3), .val (.int p4), .val (.int v4), .val (.int v11), .val (.ref b13), .val (.ref b28), .val (.int v35), .val (.int j112_l10), .val (.int j112_l11), .val (.int v47), .val (.int v55), .val (.int v64), .unset, .unset, .unset] [(.int (0 : Int32)), (.ref b28), (.ref b13)])) target
            refine XS.iload X_M112.here hx rfl (hb hby at_140) rfl ?_
            exact kt
          obtain ⟨cqg142, kqg142, qg142a, qg142b, qg142c⟩ := isOf hZ e_M112 F_30
          obtain ⟨_, _, ⟨Tg142, Lg142, kg142, ng142⟩, -, Xg142, ⟨Lcg142, hQg142, lg142, yg142, zg142⟩, stg142⟩ := X_M112.virtualBack hx (y := (⟨"com/example/barnacle/barnacle/KeyBatch", "add", "([BII)V"⟩ : MethodName)) (z := (⟨"com/example/barnacle/barnacle/KeyBatch", "add", "([BII)V"⟩ : MethodName)) hown (mvT hZ (hw _ (List.mem_of_getElem? (i := 25) rfl))) (mvT hZ (hw _ (List.mem_of_getElem? (i := 26) rfl))) (notFace_of_selects (args := #[]) (mvT hZ (hw _ (List.mem_of_getElem? (i := 28) rfl)))) (mvT hZ (hw _ (List.mem_of_getElem? (i := 28) rfl))) (mvT hZ (hw _ (List.mem_of_getElem? (i := 27) rfl))) (by decide) (backOf (W := 0) (own_rm4 l Z a0 hw [] b13 b28 v55 v4 v11 b21_0 b21_1 j112_f_b13_size j112_f_b13_used (fun _ => (0 : Int32)) j112_a h_M112 n0 Z_M112 F_30 F_31 F_32 F_33 F_34 F_37 F_35 F_36 g_b13 g_b21_0 g_b21_1 ne_b13_b28 ne_b13_b21_0 ne_b13_b21_1 (Ne.symm ne_b21_0_b28) (Ne.symm ne_b21_1_b28) ne_b21_0_b21_1 (show ¬ (v4 < (0 : Int32)) from hzB) (show ¬ (v11 < (0 : Int32)) from hzK) (show own_I v4 v11 j112_f_b13_used j112_f_b13_size v55 from (by rw [hE1.1, hE1.2]; exact hI1)) (show (j112_f_b13_size < v11) ∧ (¬ ((v4 - j112_f_b13_used) < v55)) from (by rw [hE1.1, hE1.2]; exact ⟨c122, c132⟩))) hZ (hw _ (List.mem_of_getElem? (i := 29) rfl)) (hw _ (List.mem_of_getElem? (i := 2) rfl)) (by decide) (by decide)) qg142a qg142c (g := (mkF m 142 #[.val (.int p0), .val (.int p1), .val (.int p2), .val (.int p3), .val (.int p4), .val (.int v4), .val (.int v11), .val (.ref b13), .val (.ref b28), .val (.int v35), .val (.int j112_l10), .val (.int j112_l11), .val (.int v47), .val (.int v55), .val (.int v64), .unset, .unset, .unset] [(.int v55), (.int (0 : Int32)), (.ref b28), (.ref b13)])) rfl (by rw [hml]; rfl) (Steps.refl _) (argsL := [(.ref b28), (.int (0 : Int32)), (.int v55)]) (rest := []) (lenOf own_pd4 rfl) rfl (by show 2 * 0 + _ ≤ _; exact Nat.le_of_eq rfl) (hb hby at_142) (fun _ _ => ⟨rfl, e_M112, (by decide : 4 + 0 ≤ _), (by decide : 31 + 0 ≤ _)⟩)
          dsimp only [Pt.U, Pt.locs, Pt.cells, Pt.slots] at Xg142 lg142 yg142 zg142 stg142 hQg142
          subst lg142 yg142 zg142
          obtain ⟨rfl, Ng142q, Kg142, F_38, F_39, F_40, F_41, F_42, F_43, F_44⟩ := hQg142
          have F_45 := F_37.keep Kg142 (ninS (Ne.symm ne_b13_b28) (ninS (Ne.symm ne_b21_0_b28) (ninS (Ne.symm ne_b21_1_b28) nin0)))
          have Zz_4 : n0 ≤ Tg142.heap.size := Nat.le_trans Z_M112 Kg142.1
          obtain ⟨w142_size, hw142_size⟩ : ∃ z : Int32, z = (j112_f_b13_size + (1 : Int32)) := ⟨_, rfl⟩
          have F_46 : Fld Z Tg142.heap b13 "com/example/barnacle/barnacle/KeyBatch" "size" "I" (.int w142_size) := by subst hw142_size; exact F_41
          obtain ⟨w142_used, hw142_used⟩ : ∃ z : Int32, z = (j112_f_b13_used + v55) := ⟨_, rfl⟩
          have F_47 : Fld Z Tg142.heap b13 "com/example/barnacle/barnacle/KeyBatch" "used" "I" (.int w142_used) := by subst hw142_used; exact F_42
          obtain ⟨a142, ha142⟩ : ∃ z : Nat → Int32, z = (fun i => if i = (j112_f_b13_size).toNatClampNeg then (j112_f_b13_used + v55) else j112_a i) := ⟨_, rfl⟩
          have F_48 : own_RayI Z Tg142.heap b21_1 (v11).toNatClampNeg a142 := by subst ha142; exact F_44
          have Ng142 := Fr.app N_M112 Ng142q
          refine own_st (fun _ k => stg142.trans k) ?_
          obtain ⟨v149, hv149⟩ : ∃ z : Int32, z = (j112_l10 + (1 : Int32)) := ⟨_, rfl⟩
          obtain ⟨v156, hv156⟩ : ∃ z : Int32, z = (j112_l11 + v55) := ⟨_, rfl⟩
          refine own_st (B := Tg142.setTop (mkF m 158 #[.val (.int p0), .val (.int p1), .val (.int p2), .val (.int p3), .val (.int p4), .val (.int v4), .val (.int v11), .val (.ref b13), .val (.ref b28), .val (.int v35), .val (.int v149), .val (.int v156), .val (.int v47), .val (.int v55), .val (.int v64), .unset, .unset, .unset] [])) (fun target kt => ?_) ?_
          · show Steps p.tables e below (Tg142.setTop (mkF m 145 #[.val (.int p0), .val (.int p1), .val (.int p2), .val (.int p3), .val (.int p4), .val (.int v4), .val (.int v11), .val (.ref b13), .val (.ref b28), .val (.int v35), .val (.int j112_l10), .val (.int j112_l11), .val (.int v47), .val (.int v55), .val (.int v64), .unset, .unset, .unset] [])) target
            refine XS.iload Xg142.here hx rfl (hb hby at_145) rfl ?_
            show Steps p.tables e below (Tg142.setTop (mkF m 147 #[.val (.int p0), .val (.int p1), .val (.int p2), .val (.int p3), .val (.int p4), .val (.int v4), .val (.int v11), .val (.ref b13), .val (.ref b28), .val (.int v35), .val (.int j112_l10), .val (.int j112_l11), .val (.int v47), .val (.int v55), .val (.int v64), .unset, .unset, .unset] [(.int j112_l10)])) target
            refine XS.iconst Xg142.here hx rfl (hb hby at_147) ?_
            show Steps p.tables e below (Tg142.setTop (mkF m 148 #[.val (.int p0), .val (.int p1), .val (.int p2), .val (.int p3), .val (.int p4), .val (.int v4), .val (.int v11), .val (.ref b13), .val (.ref b28), .val (.int v35), .val (.int j112_l10), .val (.int j112_l11), .val (.int v47), .val (.int v55), .val (.int v64), .unset, .unset, .unset] [(.int (1 : Int32)), (.int j112_l10)])) target
            refine XS.iadd Xg142.here hx rfl (hb hby at_148) rfl ?_
            show Steps p.tables e below (Tg142.setTop (mkF m 149 #[.val (.int p0), .val (.int p1), .val (.int p2), .val (.int p3), .val (.int p4), .val (.int v4), .val (.int v11), .val (.ref b13), .val (.ref b28), .val (.int v35), .val (.int j112_l10), .val (.int j112_l11), .val (.int v47), .val (.int v55), .val (.int v64), .unset, .unset, .unset] [(.int (j112_l10 + (1 : Int32)))])) target
            refine XS.istore Xg142.here hx rfl (hb hby at_149) rfl (l' := #[.val (.int p0), .val (.int p1), .val (.int p2), .val (.int p3), .val (.int p4), .val (.int v4), .val (.int v11), .val (.ref b13), .val (.ref b28), .val (.int v35), .val (.int v149), .val (.int j112_l11), .val (.int v47), .val (.int v55), .val (.int v64), .unset, .unset, .unset]) (by subst hv149; rfl) ?_
            show Steps p.tables e below (Tg142.setTop (mkF m 151 #[.val (.int p0), .val (.int p1), .val (.int p2), .val (.int p3), .val (.int p4), .val (.int v4), .val (.int v11), .val (.ref b13), .val (.ref b28), .val (.int v35), .val (.int v149), .val (.int j112_l11), .val (.int v47), .val (.int v55), .val (.int v64), .unset, .unset, .unset] [])) target
            refine XS.iload Xg142.here hx rfl (hb hby at_151) rfl ?_
            show Steps p.tables e below (Tg142.setTop (mkF m 153 #[.val (.int p0), .val (.int p1), .val (.int p2), .val (.int p3), .val (.int p4), .val (.int v4), .val (.int v11), .val (.ref b13), .val (.ref b28), .val (.int v35), .val (.int v149), .val (.int j112_l11), .val (.int v47), .val (.int v55), .val (.int v64), .unset, .unset, .unset] [(.int j112_l11)])) target
            refine XS.iload Xg142.here hx rfl (hb hby at_153) rfl ?_
            show Steps p.tables e below (Tg142.setTop (mkF m 155 #[.val (.int p0), .val (.int p1), .val (.int p2), .val (.int p3), .val (.int p4), .val (.int v4), .val (.int v11), .val (.ref b13), .val (.ref b28), .val (.int v35), .val (.int v149), .val (.int j112_l11), .val (.int v47), .val (.int v55), .val (.int v64), .unset, .unset, .unset] [(.int v55), (.int j112_l11)])) target
            refine XS.iadd Xg142.here hx rfl (hb hby at_155) rfl ?_
            show Steps p.tables e below (Tg142.setTop (mkF m 156 #[.val (.int p0), .val (.int p1), .val (.int p2), .val (.int p3), .val (.int p4), .val (.int v4), .val (.int v11), .val (.ref b13), .val (.ref b28), .val (.int v35), .val (.int v149), .val (.int j112_l11), .val (.int v47), .val (.int v55), .val (.int v64), .unset, .unset, .unset] [(.int (j112_l11 + v55))])) target
            refine XS.istore Xg142.here hx rfl (hb hby at_156) rfl (l' := #[.val (.int p0), .val (.int p1), .val (.int p2), .val (.int p3), .val (.int p4), .val (.int v4), .val (.int v11), .val (.ref b13), .val (.ref b28), .val (.int v35), .val (.int v149), .val (.int v156), .val (.int v47), .val (.int v55), .val (.int v64), .unset, .unset, .unset]) (by subst hv156; rfl) ?_
            exact kt
          subst hw142_size hw142_used ha142 hv149 hv156
          exact ⟨_, ⟨Tg142, Tg142.heap, _, ((j112_l10 + (1 : Int32))), ((j112_l11 + v55)), ((j112_f_b13_size + (1 : Int32))), ((j112_f_b13_used + v55)), ((fun i => if i = (j112_f_b13_size).toNatClampNeg then (j112_f_b13_used + v55) else j112_a i)), rfl, Xg142, rfl, Ng142, Zz_4, F_38, F_39, F_40, F_46, F_47, F_43, F_48, F_45, (Eq.trans (Eq.trans (if_neg c132).symm (if_pos c122).symm) (if_neg c115).symm), (Eq.trans (Eq.trans (if_neg c132).symm (if_pos c122).symm) (if_neg c115).symm), (Eq.trans (Eq.trans (if_neg c132).symm (if_pos c122).symm) (if_neg c115).symm), (Eq.trans (Eq.trans (if_neg c132).symm (if_pos c122).symm) (if_neg c115).symm), (Eq.trans (Eq.trans (if_neg c132).symm (if_pos c122).symm) (if_neg c115).symm)⟩, fun _ k => k⟩
      · refine own_st (B := T_M112.setTop (mkF m 158 #[.val (.int p0), .val (.int p1), .val (.int p2), .val (.int p3), .val (.int p4), .val (.int v4), .val (.int v11), .val (.ref b13), .val (.ref b28), .val (.int v35), .val (.int j112_l10), .val (.int j112_l11), .val (.int v47), .val (.int v55), .val (.int v64), .unset, .unset, .unset] [])) (fun target kt => ?_) ?_
        · show Steps p.tables e below (T_M112.setTop (mkF m 122 #[.val (.int p0), .val (.int p1), .val (.int p2), .val (.int p3), .val (.int p4), .val (.int v4), .val (.int v11), .val (.ref b13), .val (.ref b28), .val (.int v35), .val (.int j112_l10), .val (.int j112_l11), .val (.int v47), .val (.int v55), .val (.int v64), .unset, .unset, .unset] [(.int v11), (.int j112_l10)])) target
          refine XS.icmpYes X_M112.here hx rfl (pc0 := 122) (pc' := 158) rfl (hb hby at_122) rfl (flt c122).2.1 (by decide) (by decide) ?_
          exact kt
        exact ⟨_, ⟨T_M112, h_M112, _, j112_l10, j112_l11, j112_f_b13_size, j112_f_b13_used, j112_a, rfl, X_M112, e_M112, N_M112, Z_M112, F_30, F_31, F_32, F_33, F_34, F_35, F_36, F_37, (Eq.trans (if_neg c122).symm (if_neg c115).symm), (Eq.trans (if_neg c122).symm (if_neg c115).symm), (Eq.trans (if_neg c122).symm (if_neg c115).symm), (Eq.trans (if_neg c122).symm (if_neg c115).symm), (Eq.trans (if_neg c122).symm (if_neg c115).symm)⟩, fun _ k => k⟩
  refine own_st st_M158 ?_
  have hE2 : j158_f_b13_size = j158_l10 ∧ j158_f_b13_used = j158_l11 := by rw [hj158_f_b13_size, hj158_l10, hj158_f_b13_used, hj158_l11, hE1.1, hE1.2]; exact ⟨rfl, rfl⟩
  have hS2 := own_stp v4 v11 j112_l11 j112_l10 v55 v35 2 j158_l10 j158_l11 _ hI1 rfl hj158_l10 hj158_l11
  have hI2 : own_I v4 v11 j158_l11 j158_l10 v64 := by unfold own_I; omega
  refine own_st (B := T_M158.setTop (mkF m 161 #[.val (.int p0), .val (.int p1), .val (.int p2), .val (.int p3), .val (.int p4), .val (.int v4), .val (.int v11), .val (.ref b13), .val (.ref b28), .val (.int v35), .val (.int j158_l10), .val (.int j158_l11), .val (.int v47), .val (.int v55), .val (.int v64), .unset, .unset, .unset] [(.int (3 : Int32)), (.int v35)])) (fun target kt => ?_) ?_
  · show Steps p.tables e below (T_M158.setTop (mkF m 158 #[.val (.int p0), .val (.int p1), .val (.int p2), .val (.int p3), .val (.int p4), .val (.int v4), .val (.int v11), .val (.ref b13), .val (.ref b28), .val (.int v35), .val (.int j158_l10), .val (.int j158_l11), .val (.int v47), .val (.int v55), .val (.int v64), .unset, .unset, .unset] [])) target
    refine XS.iload X_M158.here hx rfl (hb hby at_158) rfl ?_
    show Steps p.tables e below (T_M158.setTop (mkF m 160 #[.val (.int p0), .val (.int p1), .val (.int p2), .val (.int p3), .val (.int p4), .val (.int v4), .val (.int v11), .val (.ref b13), .val (.ref b28), .val (.int v35), .val (.int j158_l10), .val (.int j158_l11), .val (.int v47), .val (.int v55), .val (.int v64), .unset, .unset, .unset] [(.int v35)])) target
    refine XS.iconst X_M158.here hx rfl (hb hby at_160) ?_
    exact kt
  obtain ⟨_, ⟨T_M204, h_M204, lc_M204, j204_l10, j204_l11, j204_f_b13_size, j204_f_b13_used, j204_a, rfl, X_M204, e_M204, N_M204, Z_M204, F_68, F_69, F_70, F_71, F_72, F_73, F_74, F_75, hj204_l10, hj204_l11, hj204_f_b13_size, hj204_f_b13_used, hj204_a⟩, st_M204⟩ : own_Lead p.tables e below (T_M158.setTop (mkF m 161 #[.val (.int p0), .val (.int p1), .val (.int p2), .val (.int p3), .val (.int p4), .val (.int v4), .val (.int v11), .val (.ref b13), .val (.ref b28), .val (.int v35), .val (.int j158_l10), .val (.int j158_l11), .val (.int v47), .val (.int v55), .val (.int v64), .unset, .unset, .unset] [(.int (3 : Int32)), (.int v35)])) (fun B => ∃ (T_M204 : State) (h_M204 : Heap) (lc_M204 : List Loc) (j204_l10 : Int32) (j204_l11 : Int32) (j204_f_b13_size : Int32) (j204_f_b13_used : Int32) (j204_a : Nat → Int32), B = T_M204.setTop (mkF m 204 #[.val (.int p0), .val (.int p1), .val (.int p2), .val (.int p3), .val (.int p4), .val (.int v4), .val (.int v11), .val (.ref b13), .val (.ref b28), .val (.int v35), .val (.int j204_l10), .val (.int j204_l11), .val (.int v47), .val (.int v55), .val (.int v64), .unset, .unset, .unset] []) ∧ Stand p l e room_1 s m #[(.int p0), (.int p1), (.int p2), (.int p3), (.int p4)] below meth c T_M204 lc_M204 4 31 ∧ T_M204.heap = h_M204 ∧ Fr n0 lc_M204 ∧ n0 ≤ h_M204.size ∧ Exa Z h_M204 b13 "com/example/barnacle/barnacle/KeyBatch" ∧ Fld Z h_M204 b13 "com/example/barnacle/barnacle/KeyBatch" "bytes" "[B" (.ref b21_0) ∧ Fld Z h_M204 b13 "com/example/barnacle/barnacle/KeyBatch" "ends" "[I" (.ref b21_1) ∧ Fld Z h_M204 b13 "com/example/barnacle/barnacle/KeyBatch" "size" "I" (.int j204_f_b13_size) ∧ Fld Z h_M204 b13 "com/example/barnacle/barnacle/KeyBatch" "used" "I" (.int j204_f_b13_used) ∧ own_RayL Z h_M204 b21_0 (v4).toNatClampNeg () ∧ own_RayI Z h_M204 b21_1 (v11).toNatClampNeg j204_a ∧ own_RayB Z h_M204 b28 8 (fun _ => (0 : Int32)) ∧ j204_l10 = (if v35 < (3 : Int32) then j158_l10 else (if j158_l10 < v11 then (if (v4 - j158_l11) < v64 then j158_l10 else ((j158_l10 + (1 : Int32)))) else j158_l10)) ∧ j204_l11 = (if v35 < (3 : Int32) then j158_l11 else (if j158_l10 < v11 then (if (v4 - j158_l11) < v64 then j158_l11 else ((j158_l11 + v64))) else j158_l11)) ∧ j204_f_b13_size = (if v35 < (3 : Int32) then j158_f_b13_size else (if j158_l10 < v11 then (if (v4 - j158_l11) < v64 then j158_f_b13_size else ((j158_f_b13_size + (1 : Int32)))) else j158_f_b13_size)) ∧ j204_f_b13_used = (if v35 < (3 : Int32) then j158_f_b13_used else (if j158_l10 < v11 then (if (v4 - j158_l11) < v64 then j158_f_b13_used else ((j158_f_b13_used + v64))) else j158_f_b13_used)) ∧ j204_a = (if v35 < (3 : Int32) then j158_a else (if j158_l10 < v11 then (if (v4 - j158_l11) < v64 then j158_a else ((fun i => if i = (j158_f_b13_size).toNatClampNeg then (j158_f_b13_used + v64) else j158_a i))) else j158_a))) := by
    by_cases c161 : v35 < (3 : Int32)
    · refine own_st (B := T_M158.setTop (mkF m 204 #[.val (.int p0), .val (.int p1), .val (.int p2), .val (.int p3), .val (.int p4), .val (.int v4), .val (.int v11), .val (.ref b13), .val (.ref b28), .val (.int v35), .val (.int j158_l10), .val (.int j158_l11), .val (.int v47), .val (.int v55), .val (.int v64), .unset, .unset, .unset] [])) (fun target kt => ?_) ?_
      · show Steps p.tables e below (T_M158.setTop (mkF m 161 #[.val (.int p0), .val (.int p1), .val (.int p2), .val (.int p3), .val (.int p4), .val (.int v4), .val (.int v11), .val (.ref b13), .val (.ref b28), .val (.int v35), .val (.int j158_l10), .val (.int j158_l11), .val (.int v47), .val (.int v55), .val (.int v64), .unset, .unset, .unset] [(.int (3 : Int32)), (.int v35)])) target
        refine XS.icmpYes X_M158.here hx rfl (pc0 := 161) (pc' := 204) rfl (hb hby at_161) rfl (tlt c161).1 (by decide) (by decide) ?_
        exact kt
      exact ⟨_, ⟨T_M158, h_M158, _, j158_l10, j158_l11, j158_f_b13_size, j158_f_b13_used, j158_a, rfl, X_M158, e_M158, N_M158, Z_M158, F_49, F_50, F_51, F_52, F_53, F_54, F_55, F_56, (if_pos c161).symm, (if_pos c161).symm, (if_pos c161).symm, (if_pos c161).symm, (if_pos c161).symm⟩, fun _ k => k⟩
    · refine own_st (B := T_M158.setTop (mkF m 168 #[.val (.int p0), .val (.int p1), .val (.int p2), .val (.int p3), .val (.int p4), .val (.int v4), .val (.int v11), .val (.ref b13), .val (.ref b28), .val (.int v35), .val (.int j158_l10), .val (.int j158_l11), .val (.int v47), .val (.int v55), .val (.int v64), .unset, .unset, .unset] [(.int v11), (.int j158_l10)])) (fun target kt => ?_) ?_
      · show Steps p.tables e below (T_M158.setTop (mkF m 161 #[.val (.int p0), .val (.int p1), .val (.int p2), .val (.int p3), .val (.int p4), .val (.int v4), .val (.int v11), .val (.ref b13), .val (.ref b28), .val (.int v35), .val (.int j158_l10), .val (.int j158_l11), .val (.int v47), .val (.int v55), .val (.int v64), .unset, .unset, .unset] [(.int (3 : Int32)), (.int v35)])) target
        refine XS.icmpNo X_M158.here hx rfl (hb hby at_161) rfl (flt c161).1 ?_
        show Steps p.tables e below (T_M158.setTop (mkF m 164 #[.val (.int p0), .val (.int p1), .val (.int p2), .val (.int p3), .val (.int p4), .val (.int v4), .val (.int v11), .val (.ref b13), .val (.ref b28), .val (.int v35), .val (.int j158_l10), .val (.int j158_l11), .val (.int v47), .val (.int v55), .val (.int v64), .unset, .unset, .unset] [])) target
        refine XS.iload X_M158.here hx rfl (hb hby at_164) rfl ?_
        show Steps p.tables e below (T_M158.setTop (mkF m 166 #[.val (.int p0), .val (.int p1), .val (.int p2), .val (.int p3), .val (.int p4), .val (.int v4), .val (.int v11), .val (.ref b13), .val (.ref b28), .val (.int v35), .val (.int j158_l10), .val (.int j158_l11), .val (.int v47), .val (.int v55), .val (.int v64), .unset, .unset, .unset] [(.int j158_l10)])) target
        refine XS.iload X_M158.here hx rfl (hb hby at_166) rfl ?_
        exact kt
      by_cases c168 : j158_l10 < v11
      · refine own_st (B := T_M158.setTop (mkF m 178 #[.val (.int p0), .val (.int p1), .val (.int p2), .val (.int p3), .val (.int p4), .val (.int v4), .val (.int v11), .val (.ref b13), .val (.ref b28), .val (.int v35), .val (.int j158_l10), .val (.int j158_l11), .val (.int v47), .val (.int v55), .val (.int v64), .unset, .unset, .unset] [(.int (v4 - j158_l11)), (.int v64)])) (fun target kt => ?_) ?_
        · show Steps p.tables e below (T_M158.setTop (mkF m 168 #[.val (.int p0), .val (.int p1), .val (.int p2), .val (.int p3), .val (.int p4), .val (.int v4), .val (.int v11), .val (.ref b13), .val (.ref b28), .val (.int v35), .val (.int j158_l10), .val (.int j158_l11), .val (.int v47), .val (.int v55), .val (.int v64), .unset, .unset, .unset] [(.int v11), (.int j158_l10)])) target
          refine XS.icmpNo X_M158.here hx rfl (hb hby at_168) rfl (tlt c168).2.1 ?_
          show Steps p.tables e below (T_M158.setTop (mkF m 171 #[.val (.int p0), .val (.int p1), .val (.int p2), .val (.int p3), .val (.int p4), .val (.int v4), .val (.int v11), .val (.ref b13), .val (.ref b28), .val (.int v35), .val (.int j158_l10), .val (.int j158_l11), .val (.int v47), .val (.int v55), .val (.int v64), .unset, .unset, .unset] [])) target
          refine XS.iload X_M158.here hx rfl (hb hby at_171) rfl ?_
          show Steps p.tables e below (T_M158.setTop (mkF m 173 #[.val (.int p0), .val (.int p1), .val (.int p2), .val (.int p3), .val (.int p4), .val (.int v4), .val (.int v11), .val (.ref b13), .val (.ref b28), .val (.int v35), .val (.int j158_l10), .val (.int j158_l11), .val (.int v47), .val (.int v55), .val (.int v64), .unset, .unset, .unset] [(.int v64)])) target
          refine XS.iload X_M158.here hx rfl (hb hby at_173) rfl ?_
          show Steps p.tables e below (T_M158.setTop (mkF m 175 #[.val (.int p0), .val (.int p1), .val (.int p2), .val (.int p3), .val (.int p4), .val (.int v4), .val (.int v11), .val (.ref b13), .val (.ref b28), .val (.int v35), .val (.int j158_l10), .val (.int j158_l11), .val (.int v47), .val (.int v55), .val (.int v64), .unset, .unset, .unset] [(.int v4), (.int v64)])) target
          refine XS.iload X_M158.here hx rfl (hb hby at_175) rfl ?_
          show Steps p.tables e below (T_M158.setTop (mkF m 177 #[.val (.int p0), .val (.int p1), .val (.int p2), .val (.int p3), .val (.int p4), .val (.int v4), .val (.int v11), .val (.ref b13), .val (.ref b28), .val (.int v35), .val (.int j158_l10), .val (.int j158_l11), .val (.int v47), .val (.int v55), .val (.int v64), .unset, .unset, .unset] [(.int j158_l11), (.int v4), (.int v64)])) target
          refine XS.isub X_M158.here hx rfl (hb hby at_177) rfl ?_
          exact kt
        by_cases c178 : (v4 - j158_l11) < v64
        · refine own_st (B := T_M158.setTop (mkF m 204 #[.val (.int p0), .val (.int p1), .val (.int p2), .val (.int p3), .val (.int p4), .val (.int v4), .val (.int v11), .val (.ref b13), .val (.ref b28), .val (.int v35), .val (.int j158_l10), .val (.int j158_l11), .val (.int v47), .val (.int v55), .val (.int v64), .unset, .unset, .unset] [])) (fun target kt => ?_) ?_
          · show Steps p.tables e below (T_M158.setTop (mkF m 178 #[.val (.int p0), .val (.int p1), .val (.int p2), .val (.int p3), .val (.int p4), .val (.int v4), .val (.int v11), .val (.ref b13), .val (.ref b28), .val (.int v35), .val (.int j158_l10), .val (.int j158_l11), .val (.int v47), .val (.int v55), .val (.int v64), .unset, .unset, .unset] [(.int (v4 - j158_l11)), (.int v64)])) target
            refine XS.icmpYes X_M158.here hx rfl (pc0 := 178) (pc' := 204) rfl (hb hby at_178) rfl (tlt c178).2.2.1 (by decide) (by decide) ?_
            exact kt
          exact ⟨_, ⟨T_M158, h_M158, _, j158_l10, j158_l11, j158_f_b13_size, j158_f_b13_used, j158_a, rfl, X_M158, e_M158, N_M158, Z_M158, F_49, F_50, F_51, F_52, F_53, F_54, F_55, F_56, (Eq.trans (Eq.trans (if_pos c178).symm (if_pos c168).symm) (if_neg c161).symm), (Eq.trans (Eq.trans (if_pos c178).symm (if_pos c168).symm) (if_neg c161).symm), (Eq.trans (Eq.trans (if_pos c178).symm (if_pos c168).symm) (if_neg c161).symm), (Eq.trans (Eq.trans (if_pos c178).symm (if_pos c168).symm) (if_neg c161).symm), (Eq.trans (Eq.trans (if_pos c178).symm (if_pos c168).symm) (if_neg c161).symm)⟩, fun _ k => k⟩
        · refine own_st (B := T_M158.setTop (mkF m 188 #[.val (.int p0), .val (.int p1), .val (.int p2), .val (.int p3), .val (.int p4), .val (.int v4), .val (.int v11), .val (.ref b13), .val (.ref b28), .val (.int v35), .val (.int j158_l10), .val (.int j158_l11), .val (.int v47), .val (.int v55), .val (.int v64), .unset, .unset, .unset] [(.int v64), (.int (0 : Int32)), (.ref b28), (.ref b13)])) (fun target kt => ?_) ?_
          · show Steps p.tables e below (T_M158.setTop (mkF m 178 #[.val (.int p0), .val (.int p1), .val (.int p2), .val (.int p3), .val (.int p4), .val (.int v4), .val (.int v11), .val (.ref b13), .val (.ref b28), .val (.int v35), .val (.int j158_l10), .val (.int j158_l11), .val (.int v47), .val (.int v55), .val (.int v64), .unset, .unset, .unset] [(.int (v4 - j158_l11)), (.int v64)])) target
            refine XS.icmpNo X_M158.here hx rfl (hb hby at_178) rfl (flt c178).2.2.1 ?_
            show Steps p.tables e below (T_M158.setTop (mkF m 181 #[.val (.int p0), .val (.int p1), .val (.int p2), .val (.int p3), .val (.int p4), .val (.int v4), .val (.int v11), .val (.ref b13), .val (.ref b28), .val (.int v35), .val (.int j158_l10), .val (.int j158_l11), .val (.int v47), .val (.int v55), .val (.int v64), .unset, .unset, .unset] [])) target
            refine XS.aload X_M158.here hx rfl (hb hby at_181) rfl rfl ?_
            show Steps p.tables e below (T_M158.setTop (mkF m 183 #[.val (.int p0), .val (.int p1), .val (.int p2), .val (.int p3), .val (.int p4), .val (.int v4), .val (.int v11), .val (.ref b13), .val (.ref b28), .val (.int v35), .val (.int j158_l10), .val (.int j158_l11), .val (.int v47), .val (.int v55), .val (.int v64), .unset, .unset, .unset] [(.ref b13)])) target
            refine XS.aload X_M158.here hx rfl (hb hby at_183) rfl rfl ?_
            show Steps p.tables e below (T_M158.setTop (mkF m 185 #[.val (.int p0), .val (.int p1), .val (.int p2), .val (.int p3), .val (.int p4), .val (.int v4), .val (.int v11), .val (.ref b13), .val (.ref b28), .val (.int v35), .val (.int j158_l10), .val (.int j158_l11), .val (.int v47), .val (.int v55), .val (.int v64), .unset, .unset, .unset] [(.ref b28), (.ref b13)])) target
            refine XS.iconst X_M158.here hx rfl (hb hby at_185) ?_
            show Steps p.tables e below (T_M158.setTop (mkF m 186 #[.val (.int p0), .val (.int p1), .val (.int p2), .val (.int p3), .val (.int p4), .val (.int v4), .val (.int v11), .val (.ref b13), .val (.ref b28), .val (.int v35), .val (.int j158_l10), .val (.int j158_l11), .val (.int v47), .val (.int v55), .val (.int v64), .unset, .unset, .unset] [(.int (0 : Int32)), (.ref b28), (.ref b13)])) target
            refine XS.iload X_M158.here hx rfl (hb hby at_186) rfl ?_
            exact kt
          obtain ⟨cqg188, kqg188, qg188a, qg188b, qg188c⟩ := isOf hZ e_M158 F_49
          obtain ⟨_, _, ⟨Tg188, Lg188, kg188, ng188⟩, -, Xg188, ⟨Lcg188, hQg188, lg188, yg188, zg188⟩, stg188⟩ := X_M158.virtualBack hx (y := (⟨"com/example/barnacle/barnacle/KeyBatch", "add", "([BII)V"⟩ : MethodName)) (z := (⟨"com/example/barnacle/barnacle/KeyBatch", "add", "([BII)V"⟩ : MethodName)) hown (mvT hZ (hw _ (List.mem_of_getElem? (i := 25) rfl))) (mvT hZ (hw _ (List.mem_of_getElem? (i := 26) rfl))) (notFace_of_selects (args := #[]) (mvT hZ (hw _ (List.mem_of_getElem? (i := 28) rfl)))) (mvT hZ (hw _ (List.mem_of_getElem? (i := 28) rfl))) (mvT hZ (hw _ (List.mem_of_getElem? (i := 27) rfl))) (by decide) (backOf (W := 0) (own_rm4 l Z a0 hw [] b13 b28 v64 v4 v11 b21_0 b21_1 j158_f_b13_size j158_f_b13_used (fun _ => (0 : Int32)) j158_a h_M158 n0 Z_M158 F_49 F_50 F_51 F_52 F_53 F_56 F_54 F_55 g_b13 g_b21_0 g_b21_1 ne_b13_b28 ne_b13_b21_0 ne_b13_b21_1 (Ne.symm ne_b21_0_b28) (Ne.symm ne_b21_1_b28) ne_b21_0_b21_1 (show ¬ (v4 < (0 : Int32)) from hzB) (show ¬ (v11 < (0 : Int32)) from hzK) (show own_I v4 v11 j158_f_b13_used j158_f_b13_size v64 from (by rw [hE2.1, hE2.2]; exact hI2)) (show (j158_f_b13_size < v11) ∧ (¬ ((v4 - j158_f_b13_used) < v64)) from (by rw [hE2.1, hE2.2]; exact ⟨c168, c178⟩))) hZ (hw _ (List.mem_of_getElem? (i := 29) rfl)) (hw _ (List.mem_of_getElem? (i := 2) rfl)) (by decide) (by decide)) qg188a qg188c (g := (mkF m 188 #[.val (.int p0), .val (.int p1), .val (.int p2), .val (.int p3), .val (.int p4), .val (.int v4), .val (.int v11), .val (.ref b13), .val (.ref b28), .val (.int v35), .val (.int j158_l10), .val (.int j158_l11), .val (.int v47), .val (.int v55), .val (.int v64), .unset, .unset, .unset] [(.int v64), (.int (0 : Int32)), (.ref b28), (.ref b13)])) rfl (by rw [hml]; rfl) (Steps.refl _) (argsL := [(.ref b28), (.int (0 : Int32)), (.int v64)]) (rest := []) (lenOf own_pd4 rfl) rfl (by show 2 * 0 + _ ≤ _; exact Nat.le_of_eq rfl) (hb hby at_188) (fun _ _ => ⟨rfl, e_M158, (by decide : 4 + 0 ≤ _), (by decide : 31 + 0 ≤ _)⟩)
          dsimp only [Pt.U, Pt.locs, Pt.cells, Pt.slots] at Xg188 lg188 yg188 zg188 stg188 hQg188
          subst lg188 yg188 zg188
          obtain ⟨rfl, Ng188q, Kg188, F_57, F_58, F_59, F_60, F_61, F_62, F_63⟩ := hQg188
          have F_64 := F_56.keep Kg188 (ninS (Ne.symm ne_b13_b28) (ninS (Ne.symm ne_b21_0_b28) (ninS (Ne.symm ne_b21_1_b28) nin0)))
          have Zz_5 : n0 ≤ Tg188.heap.size := Nat.le_trans Z_M158 Kg188.1
          obtain ⟨w188_size, hw188_size⟩ : ∃ z : Int32, z = (j158_f_b13_size + (1 : Int32)) := ⟨_, rfl⟩
          have F_65 : Fld Z Tg188.heap b13 "com/example/barnacle/barnacle/KeyBatch" "size" "I" (.int w188_size) := by subst hw188_size; exact F_60
          obtain ⟨w188_used, hw188_used⟩ : ∃ z : Int32, z = (j158_f_b13_used + v64) := ⟨_, rfl⟩
          have F_66 : Fld Z Tg188.heap b13 "com/example/barnacle/barnacle/KeyBatch" "used" "I" (.int w188_used) := by subst hw188_used; exact F_61
          obtain ⟨a188, ha188⟩ : ∃ z : Nat → Int32, z = (fun i => if i = (j158_f_b13_size).toNatClampNeg then (j158_f_b13_used + v64) else j158_a i) := ⟨_, rfl⟩
          have F_67 : own_RayI Z Tg188.heap b21_1 (v11).toNatClampNeg a188 := by subst ha188; exact F_63
          have Ng188 := Fr.app N_M158 Ng188q
          refine own_st (fun _ k => stg188.trans k) ?_
          obtain ⟨v195, hv195⟩ : ∃ z : Int32, z = (j158_l10 + (1 : Int32)) := ⟨_, rfl⟩
          obtain ⟨v202, hv202⟩ : ∃ z : Int32, z = (j158_l11 + v64) := ⟨_, rfl⟩
          refine own_st (B := Tg188.setTop (mkF m 204 #[.val (.int p0), .val (.int p1), .val (.int p2), .val (.int p3), .val (.int p4), .val (.int v4), .val (.int v11), .val (.ref b13), .val (.ref b28), .val (.int v35), .val (.int v195), .val (.int v202), .val (.int v47), .val (.int v55), .val (.int v64), .unset, .unset, .unset] [])) (fun target kt => ?_) ?_
          · show Steps p.tables e below (Tg188.setTop (mkF m 191 #[.val (.int p0), .val (.int p1), .val (.int p2), .val (.int p3), .val (.int p4), .val (.int v4), .val (.int v11), .val (.ref b13), .val (.ref b28), .val (.int v35), .val (.int j158_l10), .val (.int j158_l11), .val (.int v47), .val (.int v55), .val (.int v64), .unset, .unset, .unset] [])) target
            refine XS.iload Xg188.here hx rfl (hb hby at_191) rfl ?_
            show Steps p.tables e below (Tg188.setTop (mkF m 193 #[.val (.int p0), .val (.int p1), .val (.int p2), .val (.int p3), .val (.int p4), .val (.int v4), .val (.int v11), .val (.ref b13), .val (.ref b28), .val (.int v35), .val (.int j158_l10), .val (.int j158_l11), .val (.int v47), .val (.int v55), .val (.int v64), .unset, .unset, .unset] [(.int j158_l10)])) target
            refine XS.iconst Xg188.here hx rfl (hb hby at_193) ?_
            show Steps p.tables e below (Tg188.setTop (mkF m 194 #[.val (.int p0), .val (.int p1), .val (.int p2), .val (.int p3), .val (.int p4), .val (.int v4), .val (.int v11), .val (.ref b13), .val (.ref b28), .val (.int v35), .val (.int j158_l10), .val (.int j158_l11), .val (.int v47), .val (.int v55), .val (.int v64), .unset, .unset, .unset] [(.int (1 : Int32)), (.int j158_l10)])) target
            refine XS.iadd Xg188.here hx rfl (hb hby at_194) rfl ?_
            show Steps p.tables e below (Tg188.setTop (mkF m 195 #[.val (.int p0), .val (.int p1), .val (.int p2), .val (.int p3), .val (.int p4), .val (.int v4), .val (.int v11), .val (.ref b13), .val (.ref b28), .val (.int v35), .val (.int j158_l10), .val (.int j158_l11), .val (.int v47), .val (.int v55), .val (.int v64), .unset, .unset, .unset] [(.int (j158_l10 + (1 : Int32)))])) target
            refine XS.istore Xg188.here hx rfl (hb hby at_195) rfl (l' := #[.val (.int p0), .val (.int p1), .val (.int p2), .val (.int p3), .val (.int p4), .val (.int v4), .val (.int v11), .val (.ref b13), .val (.ref b28), .val (.int v35), .val (.int v195), .val (.int j158_l11), .val (.int v47), .val (.int v55), .val (.int v64), .unset, .unset, .unset]) (by subst hv195; rfl) ?_
            show Steps p.tables e below (Tg188.setTop (mkF m 197 #[.val (.int p0), .val (.int p1), .val (.int p2), .val (.int p3), .val (.int p4), .val (.int v4), .val (.int v11), .val (.ref b13), .val (.ref b28), .val (.int v35), .val (.int v195), .val (.int j158_l11), .val (.int v47), .val (.int v55), .val (.int v64), .unset, .unset, .unset] [])) target
            refine XS.iload Xg188.here hx rfl (hb hby at_197) rfl ?_
            show Steps p.tables e below (Tg188.setTop (mkF m 199 #[.val (.int p0), .val (.int p1), .val (.int p2), .val (.int p3), .val (.int p4), .val (.int v4), .val (.int v11), .val (.ref b13), .val (.ref b28), .val (.int v35), .val (.int v195), .val (.int j158_l11), .val (.int v47), .val (.int v55), .val (.int v64), .unset, .unset, .unset] [(.int j158_l11)])) target
            refine XS.iload Xg188.here hx rfl (hb hby at_199) rfl ?_
            show Steps p.tables e below (Tg188.setTop (mkF m 201 #[.val (.int p0), .val (.int p1), .val (.int p2), .val (.int p3), .val (.int p4), .val (.int v4), .val (.int v11), .val (.ref b13), .val (.ref b28), .val (.int v35), .val (.int v195), .val (.int j158_l11), .val (.int v47), .val (.int v55), .val (.int v64), .unset, .unset, .unset] [(.int v64), (.int j158_l11)])) target
            refine XS.iadd Xg188.here hx rfl (hb hby at_201) rfl ?_
            show Steps p.tables e below (Tg188.setTop (mkF m 202 #[.val (.int p0), .val (.int p1), .val (.int p2), .val (.int p3), .val (.int p4), .val (.int v4), .val (.int v11), .val (.ref b13), .val (.ref b28), .val (.int v35), .val (.int v195), .val (.int j158_l11), .val (.int v47), .val (.int v55), .val (.int v64), .unset, .unset, .unset] [(.int (j158_l11 + v64))])) target
            refine XS.istore Xg188.here hx rfl (hb hby at_202) rfl (l' := #[.val (.int p0), .val (.int p1), .val (.int p2), .val (.int p3), .val (.int p4), .val (.int v4), .val (.int v11), .val (.ref b13), .val (.ref b28), .val (.int v35), .val (.int v195), .val (.int v202), .val (.int v47), .val (.int v55), .val (.int v64), .unset, .unset, .unset]) (by subst hv202; rfl) ?_
            exact kt
          subst hw188_size hw188_used ha188 hv195 hv202
          exact ⟨_, ⟨Tg188, Tg188.heap, _, ((j158_l10 + (1 : Int32))), ((j158_l11 + v64)), ((j158_f_b13_size + (1 : Int32))), ((j158_f_b13_used + v64)), ((fun i => if i = (j158_f_b13_size).toNatClampNeg then (j158_f_b13_used + v64) else j158_a i)), rfl, Xg188, rfl, Ng188, Zz_5, F_57, F_58, F_59, F_65, F_66, F_62, F_67, F_64, (Eq.trans (Eq.trans (if_neg c178).symm (if_pos c168).symm) (if_neg c161).symm), (Eq.trans (Eq.trans (if_neg c178).symm (if_pos c168).symm) (if_neg c161).symm), (Eq.trans (Eq.trans (if_neg c178).symm (if_pos c168).symm) (if_neg c161).symm), (Eq.trans (Eq.trans (if_neg c178).symm (if_pos c168).symm) (if_neg c161).symm), (Eq.trans (Eq.trans (if_neg c178).symm (if_pos c168).symm) (if_neg c161).symm)⟩, fun _ k => k⟩
      · refine own_st (B := T_M158.setTop (mkF m 204 #[.val (.int p0), .val (.int p1), .val (.int p2), .val (.int p3), .val (.int p4), .val (.int v4), .val (.int v11), .val (.ref b13), .val (.ref b28), .val (.int v35), .val (.int j158_l10), .val (.int j158_l11), .val (.int v47), .val (.int v55), .val (.int v64), .unset, .unset, .unset] [])) (fun target kt => ?_) ?_
        · show Steps p.tables e below (T_M158.setTop (mkF m 168 #[.val (.int p0), .val (.int p1), .val (.int p2), .val (.int p3), .val (.int p4), .val (.int v4), .val (.int v11), .val (.ref b13), .val (.ref b28), .val (.int v35), .val (.int j158_l10), .val (.int j158_l11), .val (.int v47), .val (.int v55), .val (.int v64), .unset, .unset, .unset] [(.int v11), (.int j158_l10)])) target
          refine XS.icmpYes X_M158.here hx rfl (pc0 := 168) (pc' := 204) rfl (hb hby at_168) rfl (flt c168).2.1 (by decide) (by decide) ?_
          exact kt
        exact ⟨_, ⟨T_M158, h_M158, _, j158_l10, j158_l11, j158_f_b13_size, j158_f_b13_used, j158_a, rfl, X_M158, e_M158, N_M158, Z_M158, F_49, F_50, F_51, F_52, F_53, F_54, F_55, F_56, (Eq.trans (if_neg c168).symm (if_neg c161).symm), (Eq.trans (if_neg c168).symm (if_neg c161).symm), (Eq.trans (if_neg c168).symm (if_neg c161).symm), (Eq.trans (if_neg c168).symm (if_neg c161).symm), (Eq.trans (if_neg c168).symm (if_neg c161).symm)⟩, fun _ k => k⟩
  refine own_st st_M204 ?_
  have hE3 : j204_f_b13_size = j204_l10 ∧ j204_f_b13_used = j204_l11 := by rw [hj204_f_b13_size, hj204_l10, hj204_f_b13_used, hj204_l11, hE2.1, hE2.2]; exact ⟨rfl, rfl⟩
  refine own_st (B := T_M204.setTop (mkF m 208 #[.val (.int p0), .val (.int p1), .val (.int p2), .val (.int p3), .val (.int p4), .val (.int v4), .val (.int v11), .val (.ref b13), .val (.ref b28), .val (.int v35), .val (.int j204_l10), .val (.int j204_l11), .val (.int v47), .val (.int v55), .val (.int v64), .unset, .unset, .unset] [(.int v11), (.int j204_l10)])) (fun target kt => ?_) ?_
  · show Steps p.tables e below (T_M204.setTop (mkF m 204 #[.val (.int p0), .val (.int p1), .val (.int p2), .val (.int p3), .val (.int p4), .val (.int v4), .val (.int v11), .val (.ref b13), .val (.ref b28), .val (.int v35), .val (.int j204_l10), .val (.int j204_l11), .val (.int v47), .val (.int v55), .val (.int v64), .unset, .unset, .unset] [])) target
    refine XS.iload X_M204.here hx rfl (hb hby at_204) rfl ?_
    show Steps p.tables e below (T_M204.setTop (mkF m 206 #[.val (.int p0), .val (.int p1), .val (.int p2), .val (.int p3), .val (.int p4), .val (.int v4), .val (.int v11), .val (.ref b13), .val (.ref b28), .val (.int v35), .val (.int j204_l10), .val (.int j204_l11), .val (.int v47), .val (.int v55), .val (.int v64), .unset, .unset, .unset] [(.int j204_l10)])) target
    refine XS.iload X_M204.here hx rfl (hb hby at_206) rfl ?_
    exact kt
  obtain ⟨_, ⟨j216_s0, rfl, rfl⟩, st_M216⟩ : own_Lead p.tables e below (T_M204.setTop (mkF m 208 #[.val (.int p0), .val (.int p1), .val (.int p2), .val (.int p3), .val (.int p4), .val (.int v4), .val (.int v11), .val (.ref b13), .val (.ref b28), .val (.int v35), .val (.int j204_l10), .val (.int j204_l11), .val (.int v47), .val (.int v55), .val (.int v64), .unset, .unset, .unset] [(.int v11), (.int j204_l10)])) (fun B => ∃ (j216_s0 : Int32), B = T_M204.setTop (mkF m 216 #[.val (.int p0), .val (.int p1), .val (.int p2), .val (.int p3), .val (.int p4), .val (.int v4), .val (.int v11), .val (.ref b13), .val (.ref b28), .val (.int v35), .val (.int j204_l10), .val (.int j204_l11), .val (.int v47), .val (.int v55), .val (.int v64), .unset, .unset, .unset] [(.int j216_s0)]) ∧ j216_s0 = own_b (j204_l10 < v11)) := by
    by_cases c208 : j204_l10 < v11
    · refine own_st (B := T_M204.setTop (mkF m 216 #[.val (.int p0), .val (.int p1), .val (.int p2), .val (.int p3), .val (.int p4), .val (.int v4), .val (.int v11), .val (.ref b13), .val (.ref b28), .val (.int v35), .val (.int j204_l10), .val (.int j204_l11), .val (.int v47), .val (.int v55), .val (.int v64), .unset, .unset, .unset] [(.int (1 : Int32))])) (fun target kt => ?_) ?_
      · show Steps p.tables e below (T_M204.setTop (mkF m 208 #[.val (.int p0), .val (.int p1), .val (.int p2), .val (.int p3), .val (.int p4), .val (.int v4), .val (.int v11), .val (.ref b13), .val (.ref b28), .val (.int v35), .val (.int j204_l10), .val (.int j204_l11), .val (.int v47), .val (.int v55), .val (.int v64), .unset, .unset, .unset] [(.int v11), (.int j204_l10)])) target
        refine XS.icmpNo X_M204.here hx rfl (hb hby at_208) rfl (tlt c208).2.1 ?_
        show Steps p.tables e below (T_M204.setTop (mkF m 211 #[.val (.int p0), .val (.int p1), .val (.int p2), .val (.int p3), .val (.int p4), .val (.int v4), .val (.int v11), .val (.ref b13), .val (.ref b28), .val (.int v35), .val (.int j204_l10), .val (.int j204_l11), .val (.int v47), .val (.int v55), .val (.int v64), .unset, .unset, .unset] [])) target
        refine XS.iconst X_M204.here hx rfl (hb hby at_211) ?_
        show Steps p.tables e below (T_M204.setTop (mkF m 212 #[.val (.int p0), .val (.int p1), .val (.int p2), .val (.int p3), .val (.int p4), .val (.int v4), .val (.int v11), .val (.ref b13), .val (.ref b28), .val (.int v35), .val (.int j204_l10), .val (.int j204_l11), .val (.int v47), .val (.int v55), .val (.int v64), .unset, .unset, .unset] [(.int (1 : Int32))])) target
        refine XS.goto X_M204.here hx rfl (pc0 := 212) (pc' := 216) rfl (hb hby at_212) (by decide) (by decide) ?_
        exact kt
      exact ⟨_, ⟨(1 : Int32), rfl, (own_b1 c208).symm⟩, fun _ k => k⟩
    · refine own_st (B := T_M204.setTop (mkF m 216 #[.val (.int p0), .val (.int p1), .val (.int p2), .val (.int p3), .val (.int p4), .val (.int v4), .val (.int v11), .val (.ref b13), .val (.ref b28), .val (.int v35), .val (.int j204_l10), .val (.int j204_l11), .val (.int v47), .val (.int v55), .val (.int v64), .unset, .unset, .unset] [(.int (0 : Int32))])) (fun target kt => ?_) ?_
      · show Steps p.tables e below (T_M204.setTop (mkF m 208 #[.val (.int p0), .val (.int p1), .val (.int p2), .val (.int p3), .val (.int p4), .val (.int v4), .val (.int v11), .val (.ref b13), .val (.ref b28), .val (.int v35), .val (.int j204_l10), .val (.int j204_l11), .val (.int v47), .val (.int v55), .val (.int v64), .unset, .unset, .unset] [(.int v11), (.int j204_l10)])) target
        refine XS.icmpYes X_M204.here hx rfl (pc0 := 208) (pc' := 215) rfl (hb hby at_208) rfl (flt c208).2.1 (by decide) (by decide) ?_
        show Steps p.tables e below (T_M204.setTop (mkF m 215 #[.val (.int p0), .val (.int p1), .val (.int p2), .val (.int p3), .val (.int p4), .val (.int v4), .val (.int v11), .val (.ref b13), .val (.ref b28), .val (.int v35), .val (.int j204_l10), .val (.int j204_l11), .val (.int v47), .val (.int v55), .val (.int v64), .unset, .unset, .unset] [])) target
        refine XS.iconst X_M204.here hx rfl (hb hby at_215) ?_
        exact kt
      exact ⟨_, ⟨(0 : Int32), rfl, (own_b0 c208).symm⟩, fun _ k => k⟩
  refine own_st st_M216 ?_
  refine own_st (B := T_M204.setTop (mkF m 225 #[.val (.int p0), .val (.int p1), .val (.int p2), .val (.int p3), .val (.int p4), .val (.int v4), .val (.int v11), .val (.ref b13), .val (.ref b28), .val (.int v35), .val (.int j204_l10), .val (.int j204_l11), .val (.int v47), .val (.int v55), .val (.int v64), .val (.int (own_b (j204_l10 < v11))), .unset, .unset] [(.int (v4 - j204_l11)), (.int p4)])) (fun target kt => ?_) ?_
  · show Steps p.tables e below (T_M204.setTop (mkF m 216 #[.val (.int p0), .val (.int p1), .val (.int p2), .val (.int p3), .val (.int p4), .val (.int v4), .val (.int v11), .val (.ref b13), .val (.ref b28), .val (.int v35), .val (.int j204_l10), .val (.int j204_l11), .val (.int v47), .val (.int v55), .val (.int v64), .unset, .unset, .unset] [(.int (own_b (j204_l10 < v11)))])) target
    refine XS.istore X_M204.here hx rfl (hb hby at_216) rfl (l' := #[.val (.int p0), .val (.int p1), .val (.int p2), .val (.int p3), .val (.int p4), .val (.int v4), .val (.int v11), .val (.ref b13), .val (.ref b28), .val (.int v35), .val (.int j204_l10), .val (.int j204_l11), .val (.int v47), .val (.int v55), .val (.int v64), .val (.int (own_b (j204_l10 < v11))), .unset, .unset]) rfl ?_
    show Steps p.tables e below (T_M204.setTop (mkF m 218 #[.val (.int p0), .val (.int p1), .val (.int p2), .val (.int p3), .val (.int p4), .val (.int v4), .val (.int v11), .val (.ref b13), .val (.ref b28), .val (.int v35), .val (.int j204_l10), .val (.int j204_l11), .val (.int v47), .val (.int v55), .val (.int v64), .val (.int (own_b (j204_l10 < v11))), .unset, .unset] [])) target
    refine XS.iload X_M204.here hx rfl (hb hby at_218) rfl ?_
    show Steps p.tables e below (T_M204.setTop (mkF m 220 #[.val (.int p0), .val (.int p1), .val (.int p2), .val (.int p3), .val (.int p4), .val (.int v4), .val (.int v11), .val (.ref b13), .val (.ref b28), .val (.int v35), .val (.int j204_l10), .val (.int j204_l11), .val (.int v47), .val (.int v55), .val (.int v64), .val (.int (own_b (j204_l10 < v11))), .unset, .unset] [(.int p4)])) target
    refine XS.iload X_M204.here hx rfl (hb hby at_220) rfl ?_
    show Steps p.tables e below (T_M204.setTop (mkF m 222 #[.val (.int p0), .val (.int p1), .val (.int p2), .val (.int p3), .val (.int p4), .val (.int v4), .val (.int v11), .val (.ref b13), .val (.ref b28), .val (.int v35), .val (.int j204_l10), .val (.int j204_l11), .val (.int v47), .val (.int v55), .val (.int v64), .val (.int (own_b (j204_l10 < v11))), .unset, .unset] [(.int v4), (.int p4)])) target
    refine XS.iload X_M204.here hx rfl (hb hby at_222) rfl ?_
    show Steps p.tables e below (T_M204.setTop (mkF m 224 #[.val (.int p0), .val (.int p1), .val (.int p2), .val (.int p3), .val (.int p4), .val (.int v4), .val (.int v11), .val (.ref b13), .val (.ref b28), .val (.int v35), .val (.int j204_l10), .val (.int j204_l11), .val (.int v47), .val (.int v55), .val (.int v64), .val (.int (own_b (j204_l10 < v11))), .unset, .unset] [(.int j204_l11), (.int v4), (.int p4)])) target
    refine XS.isub X_M204.here hx rfl (hb hby at_224) rfl ?_
    exact kt
  obtain ⟨_, ⟨j233_s0, rfl, rfl⟩, st_M233⟩ : own_Lead p.tables e below (T_M204.setTop (mkF m 225 #[.val (.int p0), .val (.int p1), .val (.int p2), .val (.int p3), .val (.int p4), .val (.int v4), .val (.int v11), .val (.ref b13), .val (.ref b28), .val (.int v35), .val (.int j204_l10), .val (.int j204_l11), .val (.int v47), .val (.int v55), .val (.int v64), .val (.int (own_b (j204_l10 < v11))), .unset, .unset] [(.int (v4 - j204_l11)), (.int p4)])) (fun B => ∃ (j233_s0 : Int32), B = T_M204.setTop (mkF m 233 #[.val (.int p0), .val (.int p1), .val (.int p2), .val (.int p3), .val (.int p4), .val (.int v4), .val (.int v11), .val (.ref b13), .val (.ref b28), .val (.int v35), .val (.int j204_l10), .val (.int j204_l11), .val (.int v47), .val (.int v55), .val (.int v64), .val (.int (own_b (j204_l10 < v11))), .unset, .unset] [(.int j233_s0)]) ∧ j233_s0 = own_b (¬ ((v4 - j204_l11) < p4))) := by
    by_cases c225 : (v4 - j204_l11) < p4
    · refine own_st (B := T_M204.setTop (mkF m 233 #[.val (.int p0), .val (.int p1), .val (.int p2), .val (.int p3), .val (.int p4), .val (.int v4), .val (.int v11), .val (.ref b13), .val (.ref b28), .val (.int v35), .val (.int j204_l10), .val (.int j204_l11), .val (.int v47), .val (.int v55), .val (.int v64), .val (.int (own_b (j204_l10 < v11))), .unset, .unset] [(.int (0 : Int32))])) (fun target kt => ?_) ?_
      · show Steps p.tables e below (T_M204.setTop (mkF m 225 #[.val (.int p0), .val (.int p1), .val (.int p2), .val (.int p3), .val (.int p4), .val (.int v4), .val (.int v11), .val (.ref b13), .val (.ref b28), .val (.int v35), .val (.int j204_l10), .val (.int j204_l11), .val (.int v47), .val (.int v55), .val (.int v64), .val (.int (own_b (j204_l10 < v11))), .unset, .unset] [(.int (v4 - j204_l11)), (.int p4)])) target
        refine XS.icmpYes X_M204.here hx rfl (pc0 := 225) (pc' := 232) rfl (hb hby at_225) rfl (tlt c225).2.2.1 (by decide) (by decide) ?_
        show Steps p.tables e below (T_M204.setTop (mkF m 232 #[.val (.int p0), .val (.int p1), .val (.int p2), .val (.int p3), .val (.int p4), .val (.int v4), .val (.int v11), .val (.ref b13), .val (.ref b28), .val (.int v35), .val (.int j204_l10), .val (.int j204_l11), .val (.int v47), .val (.int v55), .val (.int v64), .val (.int (own_b (j204_l10 < v11))), .unset, .unset] [])) target
        refine XS.iconst X_M204.here hx rfl (hb hby at_232) ?_
        exact kt
      exact ⟨_, ⟨(0 : Int32), rfl, (own_b0 (fun w => w c225)).symm⟩, fun _ k => k⟩
    · refine own_st (B := T_M204.setTop (mkF m 233 #[.val (.int p0), .val (.int p1), .val (.int p2), .val (.int p3), .val (.int p4), .val (.int v4), .val (.int v11), .val (.ref b13), .val (.ref b28), .val (.int v35), .val (.int j204_l10), .val (.int j204_l11), .val (.int v47), .val (.int v55), .val (.int v64), .val (.int (own_b (j204_l10 < v11))), .unset, .unset] [(.int (1 : Int32))])) (fun target kt => ?_) ?_
      · show Steps p.tables e below (T_M204.setTop (mkF m 225 #[.val (.int p0), .val (.int p1), .val (.int p2), .val (.int p3), .val (.int p4), .val (.int v4), .val (.int v11), .val (.ref b13), .val (.ref b28), .val (.int v35), .val (.int j204_l10), .val (.int j204_l11), .val (.int v47), .val (.int v55), .val (.int v64), .val (.int (own_b (j204_l10 < v11))), .unset, .unset] [(.int (v4 - j204_l11)), (.int p4)])) target
        refine XS.icmpNo X_M204.here hx rfl (hb hby at_225) rfl (flt c225).2.2.1 ?_
        show Steps p.tables e below (T_M204.setTop (mkF m 228 #[.val (.int p0), .val (.int p1), .val (.int p2), .val (.int p3), .val (.int p4), .val (.int v4), .val (.int v11), .val (.ref b13), .val (.ref b28), .val (.int v35), .val (.int j204_l10), .val (.int j204_l11), .val (.int v47), .val (.int v55), .val (.int v64), .val (.int (own_b (j204_l10 < v11))), .unset, .unset] [])) target
        refine XS.iconst X_M204.here hx rfl (hb hby at_228) ?_
        show Steps p.tables e below (T_M204.setTop (mkF m 229 #[.val (.int p0), .val (.int p1), .val (.int p2), .val (.int p3), .val (.int p4), .val (.int v4), .val (.int v11), .val (.ref b13), .val (.ref b28), .val (.int v35), .val (.int j204_l10), .val (.int j204_l11), .val (.int v47), .val (.int v55), .val (.int v64), .val (.int (own_b (j204_l10 < v11))), .unset, .unset] [(.int (1 : Int32))])) target
        refine XS.goto X_M204.here hx rfl (pc0 := 229) (pc' := 233) rfl (hb hby at_229) (by decide) (by decide) ?_
        exact kt
      exact ⟨_, ⟨(1 : Int32), rfl, (own_b1 c225).symm⟩, fun _ k => k⟩
  refine own_st st_M233 ?_
  refine own_st (B := T_M204.setTop (mkF m 237 #[.val (.int p0), .val (.int p1), .val (.int p2), .val (.int p3), .val (.int p4), .val (.int v4), .val (.int v11), .val (.ref b13), .val (.ref b28), .val (.int v35), .val (.int j204_l10), .val (.int j204_l11), .val (.int v47), .val (.int v55), .val (.int v64), .val (.int (own_b (j204_l10 < v11))), .val (.int (own_b (¬ ((v4 - j204_l11) < p4)))), .unset] [(.int (own_b (j204_l10 < v11)))])) (fun target kt => ?_) ?_
  · show Steps p.tables e below (T_M204.setTop (mkF m 233 #[.val (.int p0), .val (.int p1), .val (.int p2), .val (.int p3), .val (.int p4), .val (.int v4), .val (.int v11), .val (.ref b13), .val (.ref b28), .val (.int v35), .val (.int j204_l10), .val (.int j204_l11), .val (.int v47), .val (.int v55), .val (.int v64), .val (.int (own_b (j204_l10 < v11))), .unset, .unset] [(.int (own_b (¬ ((v4 - j204_l11) < p4))))])) target
    refine XS.istore X_M204.here hx rfl (hb hby at_233) rfl (l' := #[.val (.int p0), .val (.int p1), .val (.int p2), .val (.int p3), .val (.int p4), .val (.int v4), .val (.int v11), .val (.ref b13), .val (.ref b28), .val (.int v35), .val (.int j204_l10), .val (.int j204_l11), .val (.int v47), .val (.int v55), .val (.int v64), .val (.int (own_b (j204_l10 < v11))), .val (.int (own_b (¬ ((v4 - j204_l11) < p4)))), .unset]) rfl ?_
    show Steps p.tables e below (T_M204.setTop (mkF m 235 #[.val (.int p0), .val (.int p1), .val (.int p2), .val (.int p3), .val (.int p4), .val (.int v4), .val (.int v11), .val (.ref b13), .val (.ref b28), .val (.int v35), .val (.int j204_l10), .val (.int j204_l11), .val (.int v47), .val (.int v55), .val (.int v64), .val (.int (own_b (j204_l10 < v11))), .val (.int (own_b (¬ ((v4 - j204_l11) < p4)))), .unset] [])) target
    refine XS.iload X_M204.here hx rfl (hb hby at_235) rfl ?_
    exact kt
  obtain ⟨_, ⟨j250_s0, rfl, rfl⟩, st_M250⟩ : own_Lead p.tables e below (T_M204.setTop (mkF m 237 #[.val (.int p0), .val (.int p1), .val (.int p2), .val (.int p3), .val (.int p4), .val (.int v4), .val (.int v11), .val (.ref b13), .val (.ref b28), .val (.int v35), .val (.int j204_l10), .val (.int j204_l11), .val (.int v47), .val (.int v55), .val (.int v64), .val (.int (own_b (j204_l10 < v11))), .val (.int (own_b (¬ ((v4 - j204_l11) < p4)))), .unset] [(.int (own_b (j204_l10 < v11)))])) (fun B => ∃ (j250_s0 : Int32), B = T_M204.setTop (mkF m 250 #[.val (.int p0), .val (.int p1), .val (.int p2), .val (.int p3), .val (.int p4), .val (.int v4), .val (.int v11), .val (.ref b13), .val (.ref b28), .val (.int v35), .val (.int j204_l10), .val (.int j204_l11), .val (.int v47), .val (.int v55), .val (.int v64), .val (.int (own_b (j204_l10 < v11))), .val (.int (own_b (¬ ((v4 - j204_l11) < p4)))), .unset] [(.int j250_s0)]) ∧ j250_s0 = own_b (((j204_l10 < v11) ∧ (¬ ((v4 - j204_l11) < p4))))) := by
    by_cases c237 : j204_l10 < v11
    · refine own_st (B := T_M204.setTop (mkF m 242 #[.val (.int p0), .val (.int p1), .val (.int p2), .val (.int p3), .val (.int p4), .val (.int v4), .val (.int v11), .val (.ref b13), .val (.ref b28), .val (.int v35), .val (.int j204_l10), .val (.int j204_l11), .val (.int v47), .val (.int v55), .val (.int v64), .val (.int (own_b (j204_l10 < v11))), .val (.int (own_b (¬ ((v4 - j204_l11) < p4)))), .unset] [(.int (own_b (¬ ((v4 - j204_l11) < p4))))])) (fun target kt => ?_) ?_
      · show Steps p.tables e below (T_M204.setTop (mkF m 237 #[.val (.int p0), .val (.int p1), .val (.int p2), .val (.int p3), .val (.int p4), .val (.int v4), .val (.int v11), .val (.ref b13), .val (.ref b28), .val (.int v35), .val (.int j204_l10), .val (.int j204_l11), .val (.int v47), .val (.int v55), .val (.int v64), .val (.int (own_b (j204_l10 < v11))), .val (.int (own_b (¬ ((v4 - j204_l11) < p4)))), .unset] [(.int (own_b (j204_l10 < v11)))])) target
        refine XS.ifNo X_M204.here hx rfl (hb hby at_237) rfl ((if0 _ _).trans (feq (own_bn0 rfl c237)).1) ?_
        show Steps p.tables e below (T_M204.setTop (mkF m 240 #[.val (.int p0), .val (.int p1), .val (.int p2), .val (.int p3), .val (.int p4), .val (.int v4), .val (.int v11), .val (.ref b13), .val (.ref b28), .val (.int v35), .val (.int j204_l10), .val (.int j204_l11), .val (.int v47), .val (.int v55), .val (.int v64), .val (.int (own_b (j204_l10 < v11))), .val (.int (own_b (¬ ((v4 - j204_l11) < p4)))), .unset] [])) target
        refine XS.iload X_M204.here hx rfl (hb hby at_240) rfl ?_
        exact kt
      by_cases c242 : ¬ ((v4 - j204_l11) < p4)
      · refine own_st (B := T_M204.setTop (mkF m 250 #[.val (.int p0), .val (.int p1), .val (.int p2), .val (.int p3), .val (.int p4), .val (.int v4), .val (.int v11), .val (.ref b13), .val (.ref b28), .val (.int v35), .val (.int j204_l10), .val (.int j204_l11), .val (.int v47), .val (.int v55), .val (.int v64), .val (.int (own_b (j204_l10 < v11))), .val (.int (own_b (¬ ((v4 - j204_l11) < p4)))), .unset] [(.int (1 : Int32))])) (fun target kt => ?_) ?_
        · show Steps p.tables e below (T_M204.setTop (mkF m 242 #[.val (.int p0), .val (.int p1), .val (.int p2), .val (.int p3), .val (.int p4), .val (.int v4), .val (.int v11), .val (.ref b13), .val (.ref b28), .val (.int v35), .val (.int j204_l10), .val (.int j204_l11), .val (.int v47), .val (.int v55), .val (.int v64), .val (.int (own_b (j204_l10 < v11))), .val (.int (own_b (¬ ((v4 - j204_l11) < p4)))), .unset] [(.int (own_b (¬ ((v4 - j204_l11) < p4))))])) target
          refine XS.ifNo X_M204.here hx rfl (hb hby at_242) rfl ((if0 _ _).trans (feq (own_bn0 rfl c242)).1) ?_
          show Steps p.tables e below (T_M204.setTop (mkF m 245 #[.val (.int p0), .val (.int p1), .val (.int p2), .val (.int p3), .val (.int p4), .val (.int v4), .val (.int v11), .val (.ref b13), .val (.ref b28), .val (.int v35), .val (.int j204_l10), .val (.int j204_l11), .val (.int v47), .val (.int v55), .val (.int v64), .val (.int (own_b (j204_l10 < v11))), .val (.int (own_b (¬ ((v4 - j204_l11) < p4)))), .unset] [])) target
          refine XS.iconst X_M204.here hx rfl (hb hby at_245) ?_
          show Steps p.tables e below (T_M204.setTop (mkF m 246 #[.val (.int p0), .val (.int p1), .val (.int p2), .val (.int p3), .val (.int p4), .val (.int v4), .val (.int v11), .val (.ref b13), .val (.ref b28), .val (.int v35), .val (.int j204_l10), .val (.int j204_l11), .val (.int v47), .val (.int v55), .val (.int v64), .val (.int (own_b (j204_l10 < v11))), .val (.int (own_b (¬ ((v4 - j204_l11) < p4)))), .unset] [(.int (1 : Int32))])) target
          refine XS.goto X_M204.here hx rfl (pc0 := 246) (pc' := 250) rfl (hb hby at_246) (by decide) (by decide) ?_
          exact kt
        exact ⟨_, ⟨(1 : Int32), rfl, (own_b1 ⟨c237, c242⟩).symm⟩, fun _ k => k⟩
      · refine own_st (B := T_M204.setTop (mkF m 250 #[.val (.int p0), .val (.int p1), .val (.int p2), .val (.int p3), .val (.int p4), .val (.int v4), .val (.int v11), .val (.ref b13), .val (.ref b28), .val (.int v35), .val (.int j204_l10), .val (.int j204_l11), .val (.int v47), .val (.int v55), .val (.int v64), .val (.int (own_b (j204_l10 < v11))), .val (.int (own_b (¬ ((v4 - j204_l11) < p4)))), .unset] [(.int (0 : Int32))])) (fun target kt => ?_) ?_
        · show Steps p.tables e below (T_M204.setTop (mkF m 242 #[.val (.int p0), .val (.int p1), .val (.int p2), .val (.int p3), .val (.int p4), .val (.int v4), .val (.int v11), .val (.ref b13), .val (.ref b28), .val (.int v35), .val (.int j204_l10), .val (.int j204_l11), .val (.int v47), .val (.int v55), .val (.int v64), .val (.int (own_b (j204_l10 < v11))), .val (.int (own_b (¬ ((v4 - j204_l11) < p4)))), .unset] [(.int (own_b (¬ ((v4 - j204_l11) < p4))))])) target
          refine XS.ifYes X_M204.here hx rfl (pc0 := 242) (pc' := 249) rfl (hb hby at_242) rfl ((if0 _ _).trans (teq (own_b00 rfl c242)).1) (by decide) (by decide) ?_
          show Steps p.tables e below (T_M204.setTop (mkF m 249 #[.val (.int p0), .val (.int p1), .val (.int p2), .val (.int p3), .val (.int p4), .val (.int v4), .val (.int v11), .val (.ref b13), .val (.ref b28), .val (.int v35), .val (.int j204_l10), .val (.int j204_l11), .val (.int v47), .val (.int v55), .val (.int v64), .val (.int (own_b (j204_l10 < v11))), .val (.int (own_b (¬ ((v4 - j204_l11) < p4)))), .unset] [])) target
          refine XS.iconst X_M204.here hx rfl (hb hby at_249) ?_
          exact kt
        exact ⟨_, ⟨(0 : Int32), rfl, (own_b0 (fun w => c242 w.2)).symm⟩, fun _ k => k⟩
    · refine own_st (B := T_M204.setTop (mkF m 250 #[.val (.int p0), .val (.int p1), .val (.int p2), .val (.int p3), .val (.int p4), .val (.int v4), .val (.int v11), .val (.ref b13), .val (.ref b28), .val (.int v35), .val (.int j204_l10), .val (.int j204_l11), .val (.int v47), .val (.int v55), .val (.int v64), .val (.int (own_b (j204_l10 < v11))), .val (.int (own_b (¬ ((v4 - j204_l11) < p4)))), .unset] [(.int (0 : Int32))])) (fun target kt => ?_) ?_
      · show Steps p.tables e below (T_M204.setTop (mkF m 237 #[.val (.int p0), .val (.int p1), .val (.int p2), .val (.int p3), .val (.int p4), .val (.int v4), .val (.int v11), .val (.ref b13), .val (.ref b28), .val (.int v35), .val (.int j204_l10), .val (.int j204_l11), .val (.int v47), .val (.int v55), .val (.int v64), .val (.int (own_b (j204_l10 < v11))), .val (.int (own_b (¬ ((v4 - j204_l11) < p4)))), .unset] [(.int (own_b (j204_l10 < v11)))])) target
        refine XS.ifYes X_M204.here hx rfl (pc0 := 237) (pc' := 249) rfl (hb hby at_237) rfl ((if0 _ _).trans (teq (own_b00 rfl c237)).1) (by decide) (by decide) ?_
        show Steps p.tables e below (T_M204.setTop (mkF m 249 #[.val (.int p0), .val (.int p1), .val (.int p2), .val (.int p3), .val (.int p4), .val (.int v4), .val (.int v11), .val (.ref b13), .val (.ref b28), .val (.int v35), .val (.int j204_l10), .val (.int j204_l11), .val (.int v47), .val (.int v55), .val (.int v64), .val (.int (own_b (j204_l10 < v11))), .val (.int (own_b (¬ ((v4 - j204_l11) < p4)))), .unset] [])) target
        refine XS.iconst X_M204.here hx rfl (hb hby at_249) ?_
        exact kt
      exact ⟨_, ⟨(0 : Int32), rfl, (own_b0 (fun w => c237 w.1)).symm⟩, fun _ k => k⟩
  refine own_st st_M250 ?_
  refine own_st (B := T_M204.setTop (mkF m 256 #[.val (.int p0), .val (.int p1), .val (.int p2), .val (.int p3), .val (.int p4), .val (.int v4), .val (.int v11), .val (.ref b13), .val (.ref b28), .val (.int v35), .val (.int j204_l10), .val (.int j204_l11), .val (.int v47), .val (.int v55), .val (.int v64), .val (.int (own_b (j204_l10 < v11))), .val (.int (own_b (¬ ((v4 - j204_l11) < p4)))), .val (.int (own_b ((j204_l10 < v11) ∧ (¬ ((v4 - j204_l11) < p4)))))] [(.int p4), (.ref b13)])) (fun target kt => ?_) ?_
  · show Steps p.tables e below (T_M204.setTop (mkF m 250 #[.val (.int p0), .val (.int p1), .val (.int p2), .val (.int p3), .val (.int p4), .val (.int v4), .val (.int v11), .val (.ref b13), .val (.ref b28), .val (.int v35), .val (.int j204_l10), .val (.int j204_l11), .val (.int v47), .val (.int v55), .val (.int v64), .val (.int (own_b (j204_l10 < v11))), .val (.int (own_b (¬ ((v4 - j204_l11) < p4)))), .unset] [(.int (own_b ((j204_l10 < v11) ∧ (¬ ((v4 - j204_l11) < p4)))))])) target
    refine XS.istore X_M204.here hx rfl (hb hby at_250) rfl (l' := #[.val (.int p0), .val (.int p1), .val (.int p2), .val (.int p3), .val (.int p4), .val (.int v4), .val (.int v11), .val (.ref b13), .val (.ref b28), .val (.int v35), .val (.int j204_l10), .val (.int j204_l11), .val (.int v47), .val (.int v55), .val (.int v64), .val (.int (own_b (j204_l10 < v11))), .val (.int (own_b (¬ ((v4 - j204_l11) < p4)))), .val (.int (own_b ((j204_l10 < v11) ∧ (¬ ((v4 - j204_l11) < p4)))))]) rfl ?_
    show Steps p.tables e below (T_M204.setTop (mkF m 252 #[.val (.int p0), .val (.int p1), .val (.int p2), .val (.int p3), .val (.int p4), .val (.int v4), .val (.int v11), .val (.ref b13), .val (.ref b28), .val (.int v35), .val (.int j204_l10), .val (.int j204_l11), .val (.int v47), .val (.int v55), .val (.int v64), .val (.int (own_b (j204_l10 < v11))), .val (.int (own_b (¬ ((v4 - j204_l11) < p4)))), .val (.int (own_b ((j204_l10 < v11) ∧ (¬ ((v4 - j204_l11) < p4)))))] [])) target
    refine XS.aload X_M204.here hx rfl (hb hby at_252) rfl rfl ?_
    show Steps p.tables e below (T_M204.setTop (mkF m 254 #[.val (.int p0), .val (.int p1), .val (.int p2), .val (.int p3), .val (.int p4), .val (.int v4), .val (.int v11), .val (.ref b13), .val (.ref b28), .val (.int v35), .val (.int j204_l10), .val (.int j204_l11), .val (.int v47), .val (.int v55), .val (.int v64), .val (.int (own_b (j204_l10 < v11))), .val (.int (own_b (¬ ((v4 - j204_l11) < p4)))), .val (.int (own_b ((j204_l10 < v11) ∧ (¬ ((v4 - j204_l11) < p4)))))] [(.ref b13)])) target
    refine XS.iload X_M204.here hx rfl (hb hby at_254) rfl ?_
    exact kt
  obtain ⟨cqg256, kqg256, qg256a, qg256b, qg256c⟩ := isOf hZ e_M204 F_68
  obtain ⟨_, _, ⟨Tg256, Lg256, kg256, ng256⟩, -, Xg256, ⟨Lcg256, hQg256, lg256, yg256, zg256⟩, stg256⟩ := X_M204.virtualBack hx (y := (⟨"com/example/barnacle/barnacle/KeyBatch", "fits", "(I)Z"⟩ : MethodName)) (z := (⟨"com/example/barnacle/barnacle/KeyBatch", "fits", "(I)Z"⟩ : MethodName)) hown (mvT hZ (hw _ (List.mem_of_getElem? (i := 16) rfl))) (mvT hZ (hw _ (List.mem_of_getElem? (i := 17) rfl))) (notFace_of_selects (args := #[]) (mvT hZ (hw _ (List.mem_of_getElem? (i := 19) rfl)))) (mvT hZ (hw _ (List.mem_of_getElem? (i := 19) rfl))) (mvT hZ (hw _ (List.mem_of_getElem? (i := 18) rfl))) (by decide) (backOf (W := 0) (own_rm3 l Z a0 hw [] b13 p4 v4 v11 b21_0 b21_1 j204_f_b13_size j204_f_b13_used j204_a h_M204 n0 Z_M204 F_69 F_70 F_71 F_72 F_73 F_74 (show ¬ (v4 < (0 : Int32)) from hzB) (show ¬ (v11 < (0 : Int32)) from hzK)) hZ (hw _ (List.mem_of_getElem? (i := 20) rfl)) (hw _ (List.mem_of_getElem? (i := 2) rfl)) (by decide) (by decide)) qg256a qg256c (g := (mkF m 256 #[.val (.int p0), .val (.int p1), .val (.int p2), .val (.int p3), .val (.int p4), .val (.int v4), .val (.int v11), .val (.ref b13), .val (.ref b28), .val (.int v35), .val (.int j204_l10), .val (.int j204_l11), .val (.int v47), .val (.int v55), .val (.int v64), .val (.int (own_b (j204_l10 < v11))), .val (.int (own_b (¬ ((v4 - j204_l11) < p4)))), .val (.int (own_b ((j204_l10 < v11) ∧ (¬ ((v4 - j204_l11) < p4)))))] [(.int p4), (.ref b13)])) rfl (by rw [hml]; rfl) (Steps.refl _) (argsL := [(.int p4)]) (rest := []) (lenOf own_pd2 rfl) rfl (by show 2 * 0 + _ ≤ _; exact Nat.le_of_eq rfl) (hb hby at_256) (fun _ _ => ⟨rfl, e_M204, (by decide : 4 + 0 ≤ _), (by decide : 31 + 0 ≤ _)⟩)
  dsimp only [Pt.U, Pt.locs, Pt.cells, Pt.slots] at Xg256 lg256 yg256 zg256 stg256 hQg256
  subst lg256 yg256 zg256
  obtain ⟨rfl, Ng256q, eg256⟩ := hQg256
  have Ng256 := Fr.app N_M204 Ng256q
  refine own_st (fun _ k => stg256.trans k) ?_
  refine own_st (B := Tg256.setTop (mkF m 261 #[.val (.int p0), .val (.int p1), .val (.int p2), .val (.int p3), .val (.int p4), .val (.int v4), .val (.int v11), .val (.ref b13), .val (.ref b28), .val (.int v35), .val (.int j204_l10), .val (.int j204_l11), .val (.int v47), .val (.int v55), .val (.int v64), .val (.int (own_b (j204_l10 < v11))), .val (.int (own_b (¬ ((v4 - j204_l11) < p4)))), .val (.int (own_b ((j204_l10 < v11) ∧ (¬ ((v4 - j204_l11) < p4)))))] [(.int (own_b ((j204_l10 < v11) ∧ (¬ ((v4 - j204_l11) < p4))))), (.int (own_b ((j204_f_b13_size < v11) ∧ (¬ ((v4 - j204_f_b13_used) < p4)))))])) (fun target kt => ?_) ?_
  · show Steps p.tables e below (Tg256.setTop (mkF m 259 #[.val (.int p0), .val (.int p1), .val (.int p2), .val (.int p3), .val (.int p4), .val (.int v4), .val (.int v11), .val (.ref b13), .val (.ref b28), .val (.int v35), .val (.int j204_l10), .val (.int j204_l11), .val (.int v47), .val (.int v55), .val (.int v64), .val (.int (own_b (j204_l10 < v11))), .val (.int (own_b (¬ ((v4 - j204_l11) < p4)))), .val (.int (own_b ((j204_l10 < v11) ∧ (¬ ((v4 - j204_l11) < p4)))))] [(.int (own_b ((j204_f_b13_size < v11) ∧ (¬ ((v4 - j204_f_b13_used) < p4)))))])) target
    refine XS.iload Xg256.here hx rfl (hb hby at_259) rfl ?_
    exact kt
  have c261 : ((j204_f_b13_size < v11) ∧ (¬ ((v4 - j204_f_b13_used) < p4))) ↔ ((j204_l10 < v11) ∧ (¬ ((v4 - j204_l11) < p4))) := by
    rw [hE3.1, hE3.2]
  refine own_st (B := Tg256.setTop (mkF m 269 #[.val (.int p0), .val (.int p1), .val (.int p2), .val (.int p3), .val (.int p4), .val (.int v4), .val (.int v11), .val (.ref b13), .val (.ref b28), .val (.int v35), .val (.int j204_l10), .val (.int j204_l11), .val (.int v47), .val (.int v55), .val (.int v64), .val (.int (own_b (j204_l10 < v11))), .val (.int (own_b (¬ ((v4 - j204_l11) < p4)))), .val (.int (own_b ((j204_l10 < v11) ∧ (¬ ((v4 - j204_l11) < p4)))))] [(.int (1 : Int32))])) (fun target kt => ?_) ?_
  · show Steps p.tables e below (Tg256.setTop (mkF m 261 #[.val (.int p0), .val (.int p1), .val (.int p2), .val (.int p3), .val (.int p4), .val (.int v4), .val (.int v11), .val (.ref b13), .val (.ref b28), .val (.int v35), .val (.int j204_l10), .val (.int j204_l11), .val (.int v47), .val (.int v55), .val (.int v64), .val (.int (own_b (j204_l10 < v11))), .val (.int (own_b (¬ ((v4 - j204_l11) < p4)))), .val (.int (own_b ((j204_l10 < v11) ∧ (¬ ((v4 - j204_l11) < p4)))))] [(.int (own_b ((j204_l10 < v11) ∧ (¬ ((v4 - j204_l11) < p4))))), (.int (own_b ((j204_f_b13_size < v11) ∧ (¬ ((v4 - j204_f_b13_used) < p4)))))])) target
    refine XS.icmpNo Xg256.here hx rfl (hb hby at_261) rfl (teq (own_bb rfl rfl c261)).2 ?_
    show Steps p.tables e below (Tg256.setTop (mkF m 264 #[.val (.int p0), .val (.int p1), .val (.int p2), .val (.int p3), .val (.int p4), .val (.int v4), .val (.int v11), .val (.ref b13), .val (.ref b28), .val (.int v35), .val (.int j204_l10), .val (.int j204_l11), .val (.int v47), .val (.int v55), .val (.int v64), .val (.int (own_b (j204_l10 < v11))), .val (.int (own_b (¬ ((v4 - j204_l11) < p4)))), .val (.int (own_b ((j204_l10 < v11) ∧ (¬ ((v4 - j204_l11) < p4)))))] [])) target
    refine XS.iconst Xg256.here hx rfl (hb hby at_264) ?_
    show Steps p.tables e below (Tg256.setTop (mkF m 265 #[.val (.int p0), .val (.int p1), .val (.int p2), .val (.int p3), .val (.int p4), .val (.int v4), .val (.int v11), .val (.ref b13), .val (.ref b28), .val (.int v35), .val (.int j204_l10), .val (.int j204_l11), .val (.int v47), .val (.int v55), .val (.int v64), .val (.int (own_b (j204_l10 < v11))), .val (.int (own_b (¬ ((v4 - j204_l11) < p4)))), .val (.int (own_b ((j204_l10 < v11) ∧ (¬ ((v4 - j204_l11) < p4)))))] [(.int (1 : Int32))])) target
    refine XS.goto Xg256.here hx rfl (pc0 := 265) (pc' := 269) rfl (hb hby at_265) (by decide) (by decide) ?_
    exact kt
  obtain ⟨fs, hr, hrun, hended, hW, hsame⟩ := Xg256.leave (v := some (.int (1 : Int32))) (fun h => by rw [Bd.returns] at h; cases h)
  have hend : Steps p.tables e below (Tg256.setTop (mkF m 269 #[.val (.int p0), .val (.int p1), .val (.int p2), .val (.int p3), .val (.int p4), .val (.int v4), .val (.int v11), .val (.ref b13), .val (.ref b28), .val (.int v35), .val (.int j204_l10), .val (.int j204_l11), .val (.int v47), .val (.int v55), .val (.int v64), .val (.int (own_b (j204_l10 < v11))), .val (.int (own_b (¬ ((v4 - j204_l11) < p4)))), .val (.int (own_b ((j204_l10 < v11) ∧ (¬ ((v4 - j204_l11) < p4)))))] [(.int (1 : Int32))])) (Tg256.setFrames fs) := by
    exact retN Xg256 hx (t := .boolean) Bd.returns (by simp) (hb hby at_269) hr
  refine own_fin hend ⟨_, hrun, hended, _, _, rfl, ?_, ⟨_, rfl⟩, hW, hsame.mono (by decide) (by decide)⟩
  show own_Q0 Z p0 p1 p2 p3 p4 h0 n0 _ Tg256.heap _
  rw [eg256]
  exact ⟨rfl, Ng256⟩
set_option maxRecDepth 65536 in
set_option maxHeartbeats 40000000 in
theorem own_comes_1 {Post : Tables → Env → Array Value → State → Outcome → State → Prop} (hpost : ∀ tb e args s v u, (limb_1_1.after args s (.returned v) u = true ∧ limb_1_2.after args s (.returned v) u = true ∧ True) → FrameEnd s (.returned v) u (Jvm.fieldLocs frame_1_writes args s ++ Jvm.arrayLocs frame_1_arrays args s ++ Jvm.staticLocs frame_1_statics s) 16 128 → Post tb e args s (.returned v) u) :
    ArmFor flags0 classFile x code maxLocals ret World_1 tables_1 room_1 Calls_1 rest_1 Pre_1 Post := by
  intro l hfl _ _ p e ha hc hk s m args below hf hA hF happ hP
  obtain ⟨hcalls, hrest, hpre⟩ := hP
  obtain ⟨-, -, -, hnamed, -, -, -, hat⟩ := (Spec.applies_iff hf).mp happ
  obtain ⟨hg, hn⟩ := and_e (Cond.before_iff.mp (show (Jvm.Cond.and given_1 narrow_1).before args s = true from hpre))
  obtain ⟨g1, g2⟩ := and_e hg
  obtain ⟨g3, g4⟩ := and_e g2
  obtain ⟨g5, g6⟩ := and_e g4
  obtain ⟨g7, g8⟩ := and_e g6
  obtain ⟨g9, g10⟩ := and_e g8
  obtain ⟨w0, w1, w2, w3, w4, rfl⟩ : ∃ w0 w1 w2 w3 w4 : Value, args = #[w0, w1, w2, w3, w4] := by
    have hs : args.size = 5 := by simpa [Cond.value, given_1] using g1
    obtain ⟨L⟩ := args
    match L, hs with
    | [w0, w1, w2, w3, w4], _ => exact ⟨w0, w1, w2, w3, w4, rfl⟩
  have hw := fun d (hd : d ∈ tables_1) => atoms_spec (ws := Jvm.Cond.code x code maxLocals ret :: tables_1) hat d (List.mem_cons_of_mem _ hd)
  obtain ⟨i0, ei0⟩ := is_v g3
  obtain rfl : w0 = (.int i0) := Option.some.inj ei0
  obtain ⟨i1, ei1⟩ := is_v g5
  obtain rfl : w1 = (.int i1) := Option.some.inj ei1
  obtain ⟨i2, ei2⟩ := is_v g7
  obtain rfl : w2 = (.int i2) := Option.some.inj ei2
  obtain ⟨i3, ei3⟩ := is_v g9
  obtain rfl : w3 = (.int i3) := Option.some.inj ei3
  obtain ⟨i4, ei4⟩ := is_v g10
  obtain rfl : w4 = (.int i4) := Option.some.inj ei4
  obtain ⟨n, o, h1, h2, h3, _, L, rfl, ⟨rfl, N⟩, hq⟩ := own_rm0 l s _ hw tables_1 i0 i1 i2 i3 i4 s.heap s.heap.size (Nat.le_refl _) p e ha hc hk s m _ below hf ((Spec.applies_iff_loose hf).mp happ).1 ⟨rfl, State.Warmed39.refl s, rfl⟩ trivial
  refine ⟨n, _, h1, h2, h3, hpost _ _ _ _ _ _ ⟨Cond.after_iff.mpr rfl, Cond.after_iff.mpr (eq_i res_at (Term.int_eval (1)) rfl), trivial⟩ ⟨hq.1, hq.2.1, (hq.2.2.sift fun y hy => Or.inr (N y hy)).mono (by decide) (by decide)⟩⟩
theorem main_1_1 : Claimed_1_1 := own_comes_1 fun _ _ _ _ _ _ h hF => ⟨h.1, hF⟩
theorem main_1_2 : Claimed_1_2 := own_comes_1 fun _ _ _ _ _ _ h hF => ⟨h.2.1, hF⟩
end Jvm.Pilot.@@N@@
namespace Jvm.Pilot.@@N@@
open Jvm Jvm.ClassFile Sem Op Lib Jvm.Free Jvm.Stand Jvm.Pilot.@@N@@.Jvm.D
/-! MADE BY PROGRAM (witnessworld.py) out of the Statement's table words and the real class files: 12 classes; the members and pool entries that the words name. The judged class is class 1, her method 1. -/
namespace start1
open Jvm.ClassFile
def u (s : String) : CpInfo := .utf8 (stringToUtf16 s)
/-- a pool by its gaps: so many unusable entries, then the entry; so many at the end -/
def gap : Nat → List CpInfo → List CpInfo
  | 0, r => r
  | n + 1, r => .unusable :: gap n r
def poolList (es : List (Nat × CpInfo)) (last : Nat) : List CpInfo := es.foldr (fun e r => gap e.1 (e.2 :: r)) (gap last [])
def pool (es : List (Nat × CpInfo)) (last : Nat) : Array CpInfo := ⟨poolList es last⟩
def fileOf (pool : Array CpInfo) (this : Nat) (attrs : Array Attribute := #[]) (ms : Array MethodInfo := #[]) (fl : Nat := 33) (sup : Nat := 0) (ifs : Array Nat := #[]) (fds : Array FieldInfo := #[]) : ClassFile where
  minorVersion := 0
  majorVersion := 65
  constantPool := pool
  accessFlags := fl
  thisClass := this
  superClass := sup
  interfaces := ifs
  fields := fds
  methods := ms
  attributes := attrs
def plain (name : String) (sup : Option ClassId) : Class where
  name := name
  kind := .ordinary
  loader := none
  accessFlags := 33
  super := sup
  interfaces := #[]
  cf := none
  fields := #[]
  methods := #[]
  instanceTypes := #[]
  staticTypes := #[]
  resolved := #[]
  callSites := []
  init := .initialized
  statics := none
  mirror := none

def pool0 : Array CpInfo := pool [(5, u "<init>"), (0, u "()V"), (1, .class_ 10), (1, u "java/lang/Object")] 113

def k0c0 : Code := { maxStack := 0, maxLocals := 1, code := object_method_1_code, exceptionTable := #[], attributes := #[] }
def k0m0 : Method := { name := "<init>", desc := "()V", sig := { parameters := [], returnType := none }, accessFlags := 1, code := some k0c0 }
/-- java/lang/Object -/
def k0 : Class := { plain "java/lang/Object" none with
  accessFlags := 33
  interfaces := #[]
  cf := some (fileOf pool0 8 #[] #[{ accessFlags := 1, nameIndex := 5, descriptorIndex := 6, attributes := #[] }] 33 0 #[] #[])
  fields := #[]
  methods := #[k0m0]
  instanceTypes := #[]
  staticTypes := #[]
  resolved := Array.replicate 124 none
  statics := none }

def pool1 : Array CpInfo := pool [(2, .class_ 4), (1, u "java/lang/Object"), (0, u "<init>"), (0, u "()V"), (0, .class_ 8), (0, u "com/example/barnacle/barnacle/KeyBatch"), (0, .methodref 7 10), (0, .nameAndType 5 11), (0, u "(II)V"), (0, .methodref 7 13), (0, .nameAndType 14 15), (0, u "add"), (0, u "([BII)V"), (0, .methodref 7 17), (0, .nameAndType 18 19), (0, u "fits"), (0, u "(I)Z"), (0, .class_ 21), (0, u "com/example/barnacle/barnacle/KeyBatchFitsPinLaw"), (2, u "law"), (0, u "(IIIII)Z")] 5

def k1m0 : Method := { name := "<init>", desc := "()V", sig := { parameters := [], returnType := none }, accessFlags := 1, code := none }
def k1c1 : Code := { maxStack := 4, maxLocals := 18, code := code, exceptionTable := #[], attributes := #[] }
def k1m1 : Method := { name := "law", desc := "(IIIII)Z", sig := { parameters := [.int, .int, .int, .int, .int], returnType := some .boolean }, accessFlags := 9, code := some k1c1 }
/-- com/example/barnacle/barnacle/KeyBatchFitsPinLaw -/
def k1 : Class := { plain "com/example/barnacle/barnacle/KeyBatchFitsPinLaw" (some 0) with
  accessFlags := 49
  interfaces := #[]
  cf := some (fileOf pool1 20 #[] #[{ accessFlags := 1, nameIndex := 5, descriptorIndex := 6, attributes := #[] }, { accessFlags := 9, nameIndex := 24, descriptorIndex := 25, attributes := #[] }] 49 2 #[] #[])
  fields := #[]
  methods := #[k1m0, k1m1]
  instanceTypes := #[]
  staticTypes := #[]
  resolved := Array.replicate 31 none
  statics := none }

def pool2 : Array CpInfo := pool [(1, .methodref 2 3), (0, .class_ 4), (0, .nameAndType 5 6), (0, u "java/lang/Object"), (0, u "<init>"), (0, u "()V"), (0, .class_ 8), (0, u "com/example/barnacle/barnacle/KeyBatch"), (0, .integer 268435456), (9, .fieldref 7 20), (0, .nameAndType 21 22), (0, u "bytes"), (0, u "[B"), (0, .fieldref 7 24), (0, .nameAndType 25 26), (0, u "ends"), (0, u "[I"), (0, .fieldref 7 28), (0, .nameAndType 29 30), (0, u "size"), (0, u "I"), (0, .fieldref 7 32), (0, .nameAndType 33 30), (0, u "used"), (0, .methodref 35 36), (0, .class_ 37), (0, .nameAndType 38 39), (0, u "java/util/Objects"), (0, u "checkFromIndexSize"), (0, u "(III)I"), (0, .methodref 7 41), (0, .nameAndType 42 43), (0, u "fits"), (0, u "(I)Z"), (6, .methodref 51 52), (0, .class_ 53), (0, .nameAndType 54 55), (0, u "java/lang/System"), (0, u "arraycopy"), (0, u "(Ljava/lang/Object;ILjava/lang/Object;II)V"), (13, u "([BII)V"), (0, u "MAX_KEYS"), (1, u "(II)V"), (3, u "add")] 27

def k2c0 : Code := { maxStack := 4, maxLocals := 3, code := prog_13_method_1_code, exceptionTable := #[], attributes := #[] }
def k2m0 : Method := { name := "<init>", desc := "(II)V", sig := { parameters := [.int, .int], returnType := none }, accessFlags := 1, code := some k2c0 }
def k2c1 : Code := { maxStack := 3, maxLocals := 2, code := prog_13_method_2_code, exceptionTable := #[], attributes := #[] }
def k2m1 : Method := { name := "fits", desc := "(I)Z", sig := { parameters := [.int], returnType := some .boolean }, accessFlags := 1, code := some k2c1 }
def k2c2 : Code := { maxStack := 5, maxLocals := 4, code := prog_13_method_3_code, exceptionTable := #[], attributes := #[] }
def k2m2 : Method := { name := "add", desc := "([BII)V", sig := { parameters := [(.array .byte), .int, .int], returnType := none }, accessFlags := 1, code := some k2c2 }
/-- com/example/barnacle/barnacle/KeyBatch -/
def k2 : Class := { plain "com/example/barnacle/barnacle/KeyBatch" (some 0) with
  accessFlags := 33
  interfaces := #[]
  cf := some (fileOf pool2 7 #[] #[{ accessFlags := 1, nameIndex := 5, descriptorIndex := 72, attributes := #[] }, { accessFlags := 1, nameIndex := 42, descriptorIndex := 43, attributes := #[] }, { accessFlags := 1, nameIndex := 76, descriptorIndex := 69, attributes := #[] }] 33 2 #[] #[{ accessFlags := 24, nameIndex := 70, descriptorIndex := 30, attributes := #[] }, { accessFlags := 18, nameIndex := 21, descriptorIndex := 22, attributes := #[] }, { accessFlags := 18, nameIndex := 25, descriptorIndex := 26, attributes := #[] }, { accessFlags := 2, nameIndex := 29, descriptorIndex := 30, attributes := #[] }, { accessFlags := 2, nameIndex := 33, descriptorIndex := 30, attributes := #[] }])
  fields := #[{ name := "MAX_KEYS", type := .int, accessFlags := 24, slot := 0, constantValue := 0 }, { name := "bytes", type := (.array .byte), accessFlags := 18, slot := 0, constantValue := 0 }, { name := "ends", type := (.array .int), accessFlags := 18, slot := 1, constantValue := 0 }, { name := "size", type := .int, accessFlags := 2, slot := 2, constantValue := 0 }, { name := "used", type := .int, accessFlags := 2, slot := 3, constantValue := 0 }]
  methods := #[k2m0, k2m1, k2m2]
  instanceTypes := #[(.array .byte), (.array .int), .int, .int]
  staticTypes := #[.int]
  resolved := Array.replicate 104 none
  statics := none }

def pool3 : Array CpInfo := pool [(2, .class_ 4), (1, u "java/lang/Object"), (0, u "<init>"), (0, u "()V"), (35, .class_ 44), (1, u "java/util/Objects"), (61, .class_ 108), (1, u "jdk/internal/util/Preconditions"), (5, u "(IIILjava/util/function/BiFunction;)I"), (0, .methodref 106 116), (0, .nameAndType 117 114), (0, u "checkFromIndexSize"), (57, u "(III)I")] 8

def k3m0 : Method := { name := "<init>", desc := "()V", sig := { parameters := [], returnType := none }, accessFlags := 2, code := none }
def k3c1 : Code := { maxStack := 4, maxLocals := 3, code := jdk_31_method_19_code, exceptionTable := #[], attributes := #[] }
def k3m1 : Method := { name := "checkFromIndexSize", desc := "(III)I", sig := { parameters := [.int, .int, .int], returnType := some .int }, accessFlags := 9, code := some k3c1 }
/-- java/util/Objects -/
def k3 : Class := { plain "java/util/Objects" (some 0) with
  accessFlags := 49
  interfaces := #[]
  cf := some (fileOf pool3 42 #[] #[{ accessFlags := 2, nameIndex := 5, descriptorIndex := 6, attributes := #[] }, { accessFlags := 9, nameIndex := 117, descriptorIndex := 175, attributes := #[] }] 49 2 #[] #[])
  fields := #[]
  methods := #[k3m0, k3m1]
  instanceTypes := #[]
  staticTypes := #[]
  resolved := Array.replicate 184 none
  statics := none }

def pool4 : Array CpInfo := pool [(2, .class_ 4), (1, u "java/lang/Object"), (0, u "<init>"), (0, u "()V"), (17, .class_ 26), (1, u "jdk/internal/util/Preconditions"), (22, u "checkFromIndexSize"), (5, .class_ 56), (0, u "jdk/internal/util/Preconditions$4"), (57, .class_ 115), (0, u "jdk/internal/util/Preconditions$1"), (7, u "SIOOBE_FORMATTER"), (0, u "Ljava/util/function/BiFunction;"), (0, .class_ 126), (0, u "jdk/internal/util/Preconditions$2"), (3, u "AIOOBE_FORMATTER"), (0, .class_ 132), (0, u "jdk/internal/util/Preconditions$3"), (3, u "IOOBE_FORMATTER"), (46, u "(IIILjava/util/function/BiFunction;)I")] 10

def k4m0 : Method := { name := "<init>", desc := "()V", sig := { parameters := [], returnType := none }, accessFlags := 1, code := none }
def k4c1 : Code := { maxStack := 4, maxLocals := 4, code := jdk_41_method_13_code, exceptionTable := #[], attributes := #[] }
def k4m1 : Method := { name := "checkFromIndexSize", desc := "(IIILjava/util/function/BiFunction;)I", sig := { parameters := [.int, .int, .int, (.object "java/util/function/BiFunction")], returnType := some .int }, accessFlags := 9, code := some k4c1 }
/-- jdk/internal/util/Preconditions -/
def k4 : Class := { plain "jdk/internal/util/Preconditions" (some 0) with
  accessFlags := 33
  interfaces := #[]
  cf := some (fileOf pool4 24 #[.nestMembers #[55, 131, 125, 114]] #[{ accessFlags := 1, nameIndex := 5, descriptorIndex := 6, attributes := #[] }, { accessFlags := 9, nameIndex := 49, descriptorIndex := 183, attributes := #[] }] 33 2 #[] #[{ accessFlags := 25, nameIndex := 123, descriptorIndex := 124, attributes := #[] }, { accessFlags := 25, nameIndex := 130, descriptorIndex := 124, attributes := #[] }, { accessFlags := 25, nameIndex := 136, descriptorIndex := 124, attributes := #[] }])
  fields := #[{ name := "SIOOBE_FORMATTER", type := (.object "java/util/function/BiFunction"), accessFlags := 25, slot := 0, constantValue := 0 }, { name := "AIOOBE_FORMATTER", type := (.object "java/util/function/BiFunction"), accessFlags := 25, slot := 1, constantValue := 0 }, { name := "IOOBE_FORMATTER", type := (.object "java/util/function/BiFunction"), accessFlags := 25, slot := 2, constantValue := 0 }]
  methods := #[k4m0, k4m1]
  instanceTypes := #[]
  staticTypes := #[(.object "java/util/function/BiFunction"), (.object "java/util/function/BiFunction"), (.object "java/util/function/BiFunction")]
  resolved := Array.replicate 194 none
  statics := none }

def pool5 : Array CpInfo := pool [(2, .class_ 4), (1, u "java/lang/Object"), (0, u "<init>"), (0, u "()V"), (1, .class_ 10), (1, u "java/lang/System"), (0, u "allowSecurityManager"), (0, u "I"), (16, u "cons"), (0, u "Ljava/io/Console;"), (77, .class_ 110), (1, u "java/lang/System$CallersHolder"), (43, u "initialErrStream"), (0, u "Ljava/io/PrintStream;"), (19, u "security"), (0, u "Ljava/lang/SecurityManager;"), (31, .class_ 209), (0, u "java/lang/System$1"), (7, u "props"), (0, u "Ljava/util/Properties;"), (2, u "lineSeparator"), (0, u "Ljava/lang/String;"), (96, .class_ 321), (1, u "java/lang/System$LoggerFinder"), (5, .class_ 328), (0, u "java/lang/System$Logger"), (67, u "err"), (2, u "out"), (91, u "notSupportedJnuEncoding"), (15, u "in"), (17, u "initialIn"), (0, u "Ljava/io/InputStream;"), (35, u "bootLayer"), (0, u "Ljava/lang/ModuleLayer;"), (99, .class_ 664), (0, u "java/lang/System$2"), (9, u "NEVER"), (2, u "MAYBE"), (49, u "arraycopy"), (0, u "(Ljava/lang/Object;ILjava/lang/Object;II)V"), (72, .class_ 802), (0, u "java/lang/System$Logger$Level")] 31

def k5m0 : Method := { name := "<init>", desc := "()V", sig := { parameters := [], returnType := none }, accessFlags := 2, code := none }
def k5m1 : Method := { name := "arraycopy", desc := "(Ljava/lang/Object;ILjava/lang/Object;II)V", sig := { parameters := [(.object "java/lang/Object"), .int, (.object "java/lang/Object"), .int, .int], returnType := none }, accessFlags := 265, code := none }
/-- java/lang/System -/
def k5 : Class := { plain "java/lang/System" (some 0) with
  accessFlags := 49
  interfaces := #[]
  cf := some (fileOf pool5 8 #[.nestMembers #[319, 327, 801, 108, 663, 208]] #[{ accessFlags := 2, nameIndex := 5, descriptorIndex := 6, attributes := #[] }, { accessFlags := 265, nameIndex := 727, descriptorIndex := 728, attributes := #[] }] 49 2 #[] #[{ accessFlags := 25, nameIndex := 507, descriptorIndex := 526, attributes := #[] }, { accessFlags := 25, nameIndex := 399, descriptorIndex := 155, attributes := #[] }, { accessFlags := 25, nameIndex := 396, descriptorIndex := 155, attributes := #[] }, { accessFlags := 10, nameIndex := 525, descriptorIndex := 526, attributes := #[] }, { accessFlags := 26, nameIndex := 674, descriptorIndex := 12, attributes := #[] }, { accessFlags := 26, nameIndex := 677, descriptorIndex := 12, attributes := #[] }, { accessFlags := 10, nameIndex := 11, descriptorIndex := 12, attributes := #[] }, { accessFlags := 74, nameIndex := 175, descriptorIndex := 176, attributes := #[] }, { accessFlags := 10, nameIndex := 491, descriptorIndex := 222, attributes := #[] }, { accessFlags := 74, nameIndex := 29, descriptorIndex := 30, attributes := #[] }, { accessFlags := 74, nameIndex := 154, descriptorIndex := 155, attributes := #[] }, { accessFlags := 10, nameIndex := 217, descriptorIndex := 218, attributes := #[] }, { accessFlags := 10, nameIndex := 221, descriptorIndex := 222, attributes := #[] }, { accessFlags := 8, nameIndex := 562, descriptorIndex := 563, attributes := #[] }])
  fields := #[{ name := "in", type := (.object "java/io/InputStream"), accessFlags := 25, slot := 0, constantValue := 0 }, { name := "out", type := (.object "java/io/PrintStream"), accessFlags := 25, slot := 1, constantValue := 0 }, { name := "err", type := (.object "java/io/PrintStream"), accessFlags := 25, slot := 2, constantValue := 0 }, { name := "initialIn", type := (.object "java/io/InputStream"), accessFlags := 10, slot := 3, constantValue := 0 }, { name := "NEVER", type := .int, accessFlags := 26, slot := 4, constantValue := 0 }, { name := "MAYBE", type := .int, accessFlags := 26, slot := 5, constantValue := 0 }, { name := "allowSecurityManager", type := .int, accessFlags := 10, slot := 6, constantValue := 0 }, { name := "security", type := (.object "java/lang/SecurityManager"), accessFlags := 74, slot := 7, constantValue := 0 }, { name := "notSupportedJnuEncoding", type := (.object "java/lang/String"), accessFlags := 10, slot := 8, constantValue := 0 }, { name := "cons", type := (.object "java/io/Console"), accessFlags := 74, slot := 9, constantValue := 0 }, { name := "initialErrStream", type := (.object "java/io/PrintStream"), accessFlags := 74, slot := 10, constantValue := 0 }, { name := "props", type := (.object "java/util/Properties"), accessFlags := 10, slot := 11, constantValue := 0 }, { name := "lineSeparator", type := (.object "java/lang/String"), accessFlags := 10, slot := 12, constantValue := 0 }, { name := "bootLayer", type := (.object "java/lang/ModuleLayer"), accessFlags := 8, slot := 13, constantValue := 0 }]
  methods := #[k5m0, k5m1]
  instanceTypes := #[]
  staticTypes := #[(.object "java/io/InputStream"), (.object "java/io/PrintStream"), (.object "java/io/PrintStream"), (.object "java/io/InputStream"), .int, .int, .int, (.object "java/lang/SecurityManager"), (.object "java/lang/String"), (.object "java/io/Console"), (.object "java/io/PrintStream"), (.object "java/util/Properties"), (.object "java/lang/String"), (.object "java/lang/ModuleLayer")]
  resolved := Array.replicate 834 none
  statics := none }

def pool6 : Array CpInfo := pool [(1, u "java/lang/Cloneable"), (0, .class_ 1), (0, u "java/lang/Object"), (0, .class_ 3)] 3

/-- java/lang/Cloneable -/
def k6 : Class := { plain "java/lang/Cloneable" (some 0) with
  accessFlags := 1537
  interfaces := #[]
  cf := some (fileOf pool6 2 #[] #[] 1537 4 #[] #[])
  fields := #[]
  methods := #[]
  instanceTypes := #[]
  staticTypes := #[]
  resolved := Array.replicate 8 none
  statics := none }

def pool7 : Array CpInfo := pool [(1, u "java/io/Serializable"), (0, .class_ 1), (0, u "java/lang/Object"), (0, .class_ 3)] 3

/-- java/io/Serializable -/
def k7 : Class := { plain "java/io/Serializable" (some 0) with
  accessFlags := 1537
  interfaces := #[]
  cf := some (fileOf pool7 2 #[] #[] 1537 4 #[] #[])
  fields := #[]
  methods := #[]
  instanceTypes := #[]
  staticTypes := #[]
  resolved := Array.replicate 8 none
  statics := none }

/-- the primitive byte -/
def k8 : Class := { plain "byte" none with kind := .primitive 'B', accessFlags := 0x411 }
/-- [B -/
def k9 : Class := { plain "[B" (some 0) with kind := .array 8 .byte, interfaces := #[6, 7], accessFlags := 1041 }

/-- the primitive int -/
def k10 : Class := { plain "int" none with kind := .primitive 'I', accessFlags := 0x411 }
/-- [I -/
def k11 : Class := { plain "[I" (some 0) with kind := .array 10 .int, interfaces := #[6, 7], accessFlags := 1041 }

def heap : Heap := #[]
def classes : Array Class := #[k0, k1, k2, k3, k4, k5, k6, k7, k8, k9, k10, k11]
def interned : List (Array UInt16 × Addr) := []
def slotsUsed : Nat := 0
def theMethod : MethodId := ⟨1, 1⟩
def args0 : Array Value := #[.int 3, .int 4, .int 5, .int 6, .int 7]
def aboutOver (below : List Frame) : State where
  vm := { classes := classes, interned := interned.toArray }
  heap := heap
  slotsUsed := slotsUsed
  threads := #[{ frames := .invoking theMethod args0 :: below }]
def below0 : List Frame := [.native { method := ⟨0, 0⟩, args := #[] }]
def about1 : State := aboutOver below0
def p0 : Program := .bare "" "" ""
def e0 : Env := launch0.env 0 0 0
theorem w_frames : about1.frames = Frame.invoking theMethod args0 :: below0 := rfl
set_option maxRecDepth 65536 in
theorem w_args : argsFit about1.vm theMethod args0 = true := by decide +kernel
set_option maxRecDepth 65536 in
theorem w_heap : heapFits about1 = true := by decide +kernel
set_option maxRecDepth 65536 in
theorem w_runnable : about1.curStatus? = some .runnable := by decide +kernel
set_option maxRecDepth 65536 in
theorem w_alone : about1.alone = true := by decide +kernel
set_option maxRecDepth 65536 in
theorem w_named : about1.methodNamed? x = some theMethod := by decide +kernel
set_option maxRecDepth 65536 in
theorem w_hears : about1.hears theMethod below0 = true := by decide +kernel
set_option maxRecDepth 65536 in
theorem w_ripe : about1.ripe theMethod args0 below0 = true := by decide +kernel
theorem w_running : about1.status = .running := rfl
set_option maxRecDepth 65536 in
theorem w_room : about1.hasRoom e0.platform room_1 = true :=
  launch0.hasRoom_least _ room_1 (by decide +kernel) (by decide +kernel) (by decide +kernel) (by decide +kernel) (by decide +kernel) (by decide +kernel)
theorem allAtoms_all (ts : List Jvm.Cond) (a : Array Jvm.Value) (st : Jvm.State) : (allAtoms ts).before a st = ts.all (fun c => c.before a st) := by
  induction ts with
  | nil => rfl
  | cons c t ih =>
    show (Jvm.Cond.and c (allAtoms t)).before a st = _
    rw [Jvm.Cond.before_and, ih, List.all_cons]
def words1 : List Jvm.Cond := Jvm.Cond.code x code maxLocals ret :: tables_1
/-- a 'code' word, met by the world's own term for the bytes: nothing is compared byte by byte -/
theorem code_word {y : MethodName} {bytes : ByteArray} {mx : Nat} {rt : Option FieldType} {a : Array Value} {s : State} {m : MethodId} {meth : Method} {c : Code} (h1 : s.methodNamed? y = some m) (h2 : s.vm.method? m = some meth) (h3 : meth.code = some c) (h4 : c.code = bytes)
    (h5 : (c.maxLocals == mx && c.exceptionTable.isEmpty && decide (c.maxStack ≤ mostOperands) && decide (meth.sig.returnType = rt) && !meth.locks && decide (parseMethodDescriptor y.desc = some meth.sig)) = true) : (Jvm.Cond.code y bytes mx rt).before a s = true := by
  simp only [Bool.and_eq_true, beq_iff_eq, Bool.not_eq_true', decide_eq_true_eq] at h5
  obtain ⟨⟨⟨⟨⟨g1, g2⟩, g3⟩, g4⟩, g5⟩, g6⟩ := h5
  simp [Cond.before, Cond.holds, Cond.value, h1, h2, h3, h4, g1, g2, g3, g4, g5, g6]
def isCode : Jvm.Cond → Bool
  | .code _ _ _ _ => true
  | _ => false
theorem all_split {L : List Jvm.Cond} {P : Jvm.Cond → Bool} (h1 : L.all (fun c => isCode c || P c) = true) (h2 : ∀ c ∈ L.filter isCode, P c = true) : L.all P = true := by
  refine List.all_eq_true.mpr fun c hc => ?_
  have h := List.all_eq_true.mp h1 c hc
  rcases Bool.eq_false_or_eq_true (isCode c) with hi | hi
  · exact h2 c (List.mem_filter.mpr ⟨hc, hi⟩)
  · simpa [hi] using h
set_option maxRecDepth 65536 in
theorem w_c0 : (Jvm.Cond.code x code maxLocals ret).before args0 about1 = true := code_word (m := ⟨1, 1⟩) (meth := k1m1) (c := k1c1) (by decide +kernel) rfl rfl rfl (by decide +kernel)
set_option maxRecDepth 65536 in
theorem w_c1 : (Jvm.Cond.code ({ cls := "com/example/barnacle/barnacle/KeyBatch", name := "<init>", desc := "(II)V" } : Jvm.MethodName) prog_13_method_1_code (3 : Nat) (Option.none : Option Jvm.ClassFile.FieldType)).before args0 about1 = true := code_word (m := ⟨2, 0⟩) (meth := k2m0) (c := k2c0) (by decide +kernel) rfl rfl rfl (by decide +kernel)
set_option maxRecDepth 65536 in
theorem w_c2 : (Jvm.Cond.code ({ cls := "java/lang/Object", name := "<init>", desc := "()V" } : Jvm.MethodName) object_method_1_code (1 : Nat) (Option.none : Option Jvm.ClassFile.FieldType)).before args0 about1 = true := code_word (m := ⟨0, 0⟩) (meth := k0m0) (c := k0c0) (by decide +kernel) rfl rfl rfl (by decide +kernel)
set_option maxRecDepth 65536 in
theorem w_c3 : (Jvm.Cond.code ({ cls := "com/example/barnacle/barnacle/KeyBatch", name := "fits", desc := "(I)Z" } : Jvm.MethodName) prog_13_method_2_code (2 : Nat) (Option.some Jvm.ClassFile.FieldType.boolean)).before args0 about1 = true := code_word (m := ⟨2, 1⟩) (meth := k2m1) (c := k2c1) (by decide +kernel) rfl rfl rfl (by decide +kernel)
set_option maxRecDepth 65536 in
theorem w_c4 : (Jvm.Cond.code ({ cls := "com/example/barnacle/barnacle/KeyBatch", name := "add", desc := "([BII)V" } : Jvm.MethodName) prog_13_method_3_code (4 : Nat) (Option.none : Option Jvm.ClassFile.FieldType)).before args0 about1 = true := code_word (m := ⟨2, 2⟩) (meth := k2m2) (c := k2c2) (by decide +kernel) rfl rfl rfl (by decide +kernel)
set_option maxRecDepth 65536 in
theorem w_c5 : (Jvm.Cond.code ({ cls := "java/util/Objects", name := "checkFromIndexSize", desc := "(III)I" } : Jvm.MethodName) jdk_31_method_19_code (3 : Nat) (Option.some Jvm.ClassFile.FieldType.int)).before args0 about1 = true := code_word (m := ⟨3, 1⟩) (meth := k3m1) (c := k3c1) (by decide +kernel) rfl rfl rfl (by decide +kernel)
set_option maxRecDepth 65536 in
theorem w_c6 : (Jvm.Cond.code ({ cls := "jdk/internal/util/Preconditions", name := "checkFromIndexSize", desc := "(IIILjava/util/function/BiFunction;)I" } : Jvm.MethodName) jdk_41_method_13_code (4 : Nat) (Option.some Jvm.ClassFile.FieldType.int)).before args0 about1 = true := code_word (m := ⟨4, 1⟩) (meth := k4m1) (c := k4c1) (by decide +kernel) rfl rfl rfl (by decide +kernel)
def codes1 : List Jvm.Cond := [Jvm.Cond.code x code maxLocals ret, Jvm.Cond.code ({ cls := "com/example/barnacle/barnacle/KeyBatch", name := "<init>", desc := "(II)V" } : Jvm.MethodName) prog_13_method_1_code (3 : Nat) (Option.none : Option Jvm.ClassFile.FieldType), Jvm.Cond.code ({ cls := "java/lang/Object", name := "<init>", desc := "()V" } : Jvm.MethodName) object_method_1_code (1 : Nat) (Option.none : Option Jvm.ClassFile.FieldType), Jvm.Cond.code ({ cls := "com/example/barnacle/barnacle/KeyBatch", name := "fits", desc := "(I)Z" } : Jvm.MethodName) prog_13_method_2_code (2 : Nat) (Option.some Jvm.ClassFile.FieldType.boolean), Jvm.Cond.code ({ cls := "com/example/barnacle/barnacle/KeyBatch", name := "add", desc := "([BII)V" } : Jvm.MethodName) prog_13_method_3_code (4 : Nat) (Option.none : Option Jvm.ClassFile.FieldType), Jvm.Cond.code ({ cls := "java/util/Objects", name := "checkFromIndexSize", desc := "(III)I" } : Jvm.MethodName) jdk_31_method_19_code (3 : Nat) (Option.some Jvm.ClassFile.FieldType.int), Jvm.Cond.code ({ cls := "jdk/internal/util/Preconditions", name := "checkFromIndexSize", desc := "(IIILjava/util/function/BiFunction;)I" } : Jvm.MethodName) jdk_41_method_13_code (4 : Nat) (Option.some Jvm.ClassFile.FieldType.int)]
set_option maxRecDepth 65536 in
theorem codes_eq : words1.filter isCode = codes1 := rfl
theorem w_codes : ∀ c ∈ words1.filter isCode, c.before args0 about1 = true := by
  rw [codes_eq]
  intro c hc
  simp only [codes1, List.mem_cons, List.not_mem_nil, or_false] at hc
  rcases hc with rfl | rfl | rfl | rfl | rfl | rfl | rfl
  · exact w_c0
  · exact w_c1
  · exact w_c2
  · exact w_c3
  · exact w_c4
  · exact w_c5
  · exact w_c6
set_option maxRecDepth 65536 in
theorem w_t1 : (words1.take 24).all (fun c => isCode c || c.before args0 about1) = true := by decide +kernel
set_option maxRecDepth 65536 in
theorem w_t2 : (words1.drop 24).all (fun c => isCode c || c.before args0 about1) = true := by decide +kernel
theorem w_tables : (allAtoms (Jvm.Cond.code x code maxLocals ret :: tables_1)).before args0 about1 = true := by
  rw [allAtoms_all]
  show words1.all (fun c => c.before args0 about1) = true
  refine all_split ?_ w_codes
  rw [← List.take_append_drop 24 words1, List.all_append, w_t1, w_t2]
  rfl
set_option maxRecDepth 65536 in
theorem w_case : (Jvm.Cond.and given_1 narrow_1).before args0 about1 = true := by decide +kernel
theorem w_applies : (headSpec (Jvm.Cond.code x code maxLocals ret :: tables_1) room_1).applies x e0.platform about1 = true :=
  (Spec.applies_iff w_frames).mpr ⟨w_running, w_runnable, w_alone, w_named, w_hears, w_ripe, w_room, w_tables⟩
theorem atStart : AtStart classFile x code maxLocals ret World_1 tables_1 room_1 Calls_1 rest_1 Pre_1 launch0 p0 e0 about1 theMethod args0 below0 :=
  ⟨lists_1, trivial, launch0.admits_env _ _ _, launch0.least_env, fairChoices_fair.cas, fairChoices_fair.clock, w_frames, w_args, w_heap, w_applies, trivial, trivial, w_case⟩
end start1
theorem witness_1 : WitnessClaimed_1 := ⟨start1.p0, start1.e0, start1.about1, start1.theMethod, start1.args0, start1.below0, start1.atStart⟩
end Jvm.Pilot.@@N@@
