import JvmDerived
import JvmDerived.Pilot.@@N@@Statement
import JvmDerived.Pilot.@@N@@Code
set_option linter.unusedVariables false
set_option linter.unusedSimpArgs false
namespace Jvm.RoadKit
open Sem ClassFile Op Lib Jvm.Stand Jvm.Free Jvm.LawKit
section New
variable {p : Program} {l : Launch} {e : Env} {R : Room} {s : State} {m : MethodId} {args : Array Value} {below : List Frame} {meth : Method} {c : Code} {T : State} {locs : List Loc} {cells slots : Nat}
theorem retI (X : Stand p l e R s m args below meth c T locs cells slots) (hx : p.tables.exec = Jvm.exec) {pc : Nat} {Ls : Array Slot} {z : Int32} {rest : List Value} (hret : meth.sig.returnType = some .int) (hd : decode c.code pc = .ok (.ireturn, 1)) {fs : List Frame}
    (hl : ∀ (f : JFrame) (acts : List Action), f.method = m → f.locked = none → f.entered = [] → (doReturn e (T.setTop f) acts (some (.int z))).1 = T.setFrames fs) : Steps p.tables e below (T.setTop (mkF m pc Ls (.int z :: rest))) (T.setFrames fs) := by
  have hm' : T.vm.method? m = some meth := X.method'
  have hn : narrow .int (.int z) = .int z := rfl
  show Steps p.tables e below (T.setTop { method := m, pc := pc, locals := Ls, stack := _ :: rest, locked := none }) _
  jvm_step X.here [X.here.top, hx, hd, hm', hret, hn]
  first | (intro acts; rw [hl _ acts rfl rfl rfl]) | rw [hl _ _ rfl rfl rfl]
  exact Steps.refl _
theorem own_retJ (X : Stand p l e R s m args below meth c T locs cells slots) (hx : p.tables.exec = Jvm.exec) {pc : Nat} {Ls : Array Slot} {z : Int64} {rest : List Value} (hret : meth.sig.returnType = some .long) (hd : decode c.code pc = .ok (.lreturn, 1)) {fs : List Frame}
    (hl : ∀ (f : JFrame) (acts : List Action), f.method = m → f.locked = none → f.entered = [] → (doReturn e (T.setTop f) acts (some (.long z))).1 = T.setFrames fs) : Steps p.tables e below (T.setTop (mkF m pc Ls (.long z :: rest))) (T.setFrames fs) := by
  have hm' : T.vm.method? m = some meth := X.method'
  have hn : narrow .long (.long z) = .long z := rfl
  show Steps p.tables e below (T.setTop { method := m, pc := pc, locals := Ls, stack := _ :: rest, locked := none }) _
  jvm_step X.here [X.here.top, hx, hd, hm', hret, hn]
  first | (intro acts; rw [hl _ acts rfl rfl rfl]) | rw [hl _ _ rfl rfl rfl]
  exact Steps.refl _
end New
/-- from the state A the run comes to a state that P describes -/
def own_Lead (tb : Tables) (e : Env) (below : List Frame) (A : State) (P : State → Prop) : Prop := ∃ B, P B ∧ ∀ t, Steps tb e below B t → Steps tb e below A t
theorem own_st {tb : Tables} {e : Env} {below : List Frame} {A B : State} {P : State → Prop} (st : ∀ t, Steps tb e below B t → Steps tb e below A t) (h : own_Lead tb e below B P) : own_Lead tb e below A P := by
  obtain ⟨C, hp, hs⟩ := h
  exact ⟨C, hp, fun t k => st t (hs t k)⟩
theorem own_fin {tb : Tables} {e : Env} {below : List Frame} {A B : State} {P : State → Prop} (st : Steps tb e below A B) (h : P B) : own_Lead tb e below A P := ⟨B, h, fun t k => st.trans k⟩
theorem own_run {tb : Tables} {e : Env} {below : List Frame} {A : State} {K : State → Outcome → Prop} (h : own_Lead tb e below A (fun B => ∃ o, K B o)) : ∃ s₂ o, Steps tb e below A s₂ ∧ K s₂ o := by
  obtain ⟨B, ⟨o, hk⟩, st⟩ := h
  exact ⟨B, o, st B (Steps.refl _), hk⟩
/-- a boolean as an int -/
def own_b (P : Prop) [Decidable P] : Int32 := if P then 1 else 0
theorem own_b1 {P : Prop} [Decidable P] (h : P) : own_b P = 1 := if_pos h
theorem own_b0 {P : Prop} [Decidable P] (h : ¬ P) : own_b P = 0 := if_neg h
theorem own_bi {P Q : Prop} [Decidable P] [Decidable Q] (h : P ↔ Q) : own_b P = own_b Q := by
  by_cases hp : P
  · rw [own_b1 hp, own_b1 (h.mp hp)]
  · rw [own_b0 hp, own_b0 (fun q => hp (h.mpr q))]
theorem own_bb {P Q : Prop} [Decidable P] [Decidable Q] {x y : Int32} (hx : x = own_b P) (hy : y = own_b Q) (h : P ↔ Q) : x = y := by rw [hx, hy, own_bi h]
theorem own_bnar {P : Prop} [Decidable P] : nar .boolean (own_b P) = own_b P := by
  by_cases hp : P
  · rw [own_b1 hp]; decide
  · rw [own_b0 hp]; decide
theorem own_nar {P : Prop} [Decidable P] {x : Int32} (hx : x = own_b P) : nar .boolean x = own_b P := by rw [hx]; exact own_bnar
theorem own_selPriv {Z : State} {a0 : Array Value} {y z : MethodName} {C : String} (hp : (Cond.privateMethod y).before a0 Z = true) (hi : (Cond.instanceMethod y).before a0 Z = true) (hs : (Cond.selects C z z).before a0 Z = true) (hc : z.cls = y.cls)
    (hy : y.cls ≠ "java/lang/invoke/MethodHandle" ∧ y.cls ≠ "java/lang/invoke/VarHandle") : (Cond.selects y.cls y y).before a0 Z = true := by
  obtain ⟨mk, methM, hnamed, hmethM, hstM, habM⟩ := Cond.instanceMethod_spec hi
  obtain ⟨c2, r2, m2, q1, q2, q3, q4, kP, hkP, hkPi⟩ := Cond.selects_spec hs
  have e1 := findClass_of_methodNamed hnamed
  have e2 := findClass_of_methodNamed q3
  rw [hc, e1] at e2
  have e3 : mk.cls = m2.cls := Option.some.inj e2
  have hf := State.methodFound?_of_named hnamed hy
  have hpm := Cond.privateMethod_at hp mk methM hnamed hmethM
  simp [Cond.before, Cond.holds, Cond.value, e1, hf, hnamed, selectMethod_private hmethM hpm, e3, hkP, hkPi]
/-- the array at a has n places, the i-th holds g i -/
def own_RayB (Z : State) (h : Heap) (a : Addr) (n : Nat) (g : Nat → Int32) : Prop := ∃ c : Cell, Arr Z h a c .byte ∧ c.slots.size = n ∧ ∀ i, i < n → c.slots[i]? = some (Value.int (g i)) ∧ fits .byte (.int (g i)) = true
theorem own_RayB.ext {Z : State} {h h' : Heap} {a : Addr} {n : Nat} {g : Nat → Int32} (F : own_RayB Z h a n g) (E : Ext h h') : own_RayB Z h' a n g := by obtain ⟨c, A, r⟩ := F; exact ⟨c, A.ext E, r⟩
theorem own_RayB.other {Z : State} {h h' : Heap} {a b : Addr} {n sl : Nat} {v : Value} {g : Nat → Int32} (F : own_RayB Z h b n g) (W : Wr h h' a sl v) (q : b ≠ a) : own_RayB Z h' b n g := by obtain ⟨c, A, r⟩ := F; exact ⟨c, A.other W q, r⟩
theorem own_RayB.keep {Z : State} {h h' : Heap} {a : Addr} {n : Nat} {ws : List Addr} {g : Nat → Int32} (F : own_RayB Z h a n g) (K : Keep h h' ws) (q : a ∉ ws) : own_RayB Z h' a n g := by obtain ⟨c, A, r⟩ := F; exact ⟨c, ⟨K.2.1 a c A.1 q, A.2⟩, r⟩
theorem own_RayB.lt {Z : State} {h : Heap} {a : Addr} {n : Nat} {g : Nat → Int32} (F : own_RayB Z h a n g) : a < h.size := by obtain ⟨c, A, r⟩ := F; exact A.lt
theorem own_RayB.cast {Z : State} {h : Heap} {a : Addr} {n : Nat} {g g' : Nat → Int32} (e : g = g') (F : own_RayB Z h a n g) : own_RayB Z h a n g' := e ▸ F
theorem own_RayB_new {Z : State} {h : Heap} {a : Addr} {k : ClassId} {z : Int32} {n : Nat} (A : Arr Z h a (newA k .byte z) .byte) (q : ¬ z < 0) (e : z.toNatClampNeg = n) : own_RayB Z h a n (fun _ => (0 : Int32)) := by
  obtain ⟨c, A', -, S, -, H, -⟩ := Arv.new A q
  refine ⟨c, A', S.trans e, fun i hi => ?_⟩
  have := H i (by rw [S, e]; exact hi)
  exact ⟨by first | exact this | simpa [defaultValue] using this, rfl⟩
theorem own_RayB_set {Z : State} {h h' : Heap} {a : Addr} {n k : Nat} {g : Nat → Int32} {j : Int32} {v : Int32} (F : own_RayB Z h a n g) (W : Wr h h' a j.toNatClampNeg (Value.int v)) (e : j.toNatClampNeg = k) (hv : fits .byte (.int v) = true) : own_RayB Z h' a n (fun i => if i = k then v else g i) := by
  obtain ⟨c, A, S, H⟩ := F
  refine ⟨_, A.same W, by first | exact (sz_set _ _ _).trans S | simp [Cell.setSlot, S], fun i hi => ?_⟩
  show (c.slots.setIfInBounds j.toNatClampNeg (Value.int v))[i]? = _ ∧ fits .byte (.int (if i = k then v else g i)) = true
  rw [Array.getElem?_setIfInBounds, e]
  by_cases hk : k = i
  · subst hk
    simp [S, hi, hv]
  · have := H i hi
    simp [hk, Ne.symm hk, this]
theorem own_RayB_nth {c : Cell} {n : Nat} {g : Nat → Int32} {j : Int32} (H : ∀ i, i < n → c.slots[i]? = some (Value.int (g i)) ∧ fits .byte (.int (g i)) = true) (S : c.slots.size = n) (hin : ¬ (j < 0 ∨ c.slots.size ≤ j.toNatClampNeg)) : c.slots[j.toNatClampNeg]? = some (Value.int (g j.toNatClampNeg)) :=
  (H _ (S ▸ Nat.lt_of_not_le fun q => hin (Or.inr q))).1
/-- a byte[] of n places, whatever it holds -/
def own_RayL (Z : State) (h : Heap) (a : Addr) (n : Nat) (_ : Unit) : Prop := ∃ g, own_RayB Z h a n g
theorem own_RayL.of {Z : State} {h : Heap} {a : Addr} {n : Nat} {g : Nat → Int32} (F : own_RayB Z h a n g) : own_RayL Z h a n () := ⟨g, F⟩
theorem own_RayL.ext {Z : State} {h h' : Heap} {a : Addr} {n : Nat} {u : Unit} (F : own_RayL Z h a n u) (E : Ext h h') : own_RayL Z h' a n u := by obtain ⟨g, r⟩ := F; exact ⟨g, r.ext E⟩
theorem own_RayL.other {Z : State} {h h' : Heap} {a b : Addr} {n sl : Nat} {v : Value} {u : Unit} (F : own_RayL Z h b n u) (W : Wr h h' a sl v) (q : b ≠ a) : own_RayL Z h' b n u := by obtain ⟨g, r⟩ := F; exact ⟨g, r.other W q⟩
theorem own_RayL.keep {Z : State} {h h' : Heap} {a : Addr} {n : Nat} {ws : List Addr} {u : Unit} (F : own_RayL Z h a n u) (K : Keep h h' ws) (q : a ∉ ws) : own_RayL Z h' a n u := by obtain ⟨g, r⟩ := F; exact ⟨g, r.keep K q⟩
theorem own_RayL.lt {Z : State} {h : Heap} {a : Addr} {n : Nat} {u : Unit} (F : own_RayL Z h a n u) : a < h.size := by obtain ⟨g, r⟩ := F; exact r.lt
theorem own_RayL.len {Z : State} {h : Heap} {a : Addr} {n : Nat} {u : Unit} (F : own_RayL Z h a n u) : ∃ c : Cell, Arr Z h a c .byte ∧ c.slots.size = n ∧ True := by obtain ⟨g, c, A, S, -⟩ := F; exact ⟨c, A, S, trivial⟩
theorem own_RayL.arv {Z : State} {h : Heap} {a : Addr} {n : Nat} {u : Unit} (F : own_RayL Z h a n u) (hn : n < 2 ^ 31) : ∃ (k : ClassId) (z : Int32) (vs : List Value), z.toNatClampNeg = n ∧ vs.length = n ∧ Arv Z h a k .byte z vs (.int 0) := by
  obtain ⟨g, c, A, S, H⟩ := F
  have hz : (Int32.ofNat n).toInt = n := by
    have := Int32.toInt_ofNat_small hn
    exact this
  have hc : (Int32.ofNat n).toNatClampNeg = n := by
    show (Int32.ofNat n).toInt.toNat = n
    rw [hz]
    omega
  refine ⟨c.cls, Int32.ofNat n, (List.range n).map (fun i => Value.int (g i)), hc, by simp, c, A, rfl, by rw [S, hc], ?_, ?_, ?_⟩
  · rw [Int32.lt_iff_toInt_lt, hz]
    have e0 : (0 : Int32).toInt = 0 := by decide
    omega
  · intro k hk
    rw [S] at hk
    rw [(H k hk).1]
    simp [List.getD_eq_getElem?_getD, hk]
  · intro i hi
    rw [S] at hi
    have := (H i hi).2
    simpa [List.getD_eq_getElem?_getD, hi] using this
def own_iv (v : Value) : Int32 := match v with | .int x => x | _ => 0
theorem own_RayL.back {Z : State} {h : Heap} {a : Addr} {n : Nat} {k : ClassId} {z : Int32} {vs : List Value} {d : Value} (F : Arv Z h a k .byte z vs d) (e : z.toNatClampNeg = n) : own_RayL Z h a n () := by
  obtain ⟨c, A, -, S, -, H, G⟩ := F
  refine ⟨fun i => own_iv (vs.getD i d), c, A, S.trans e, fun i hi => ?_⟩
  have h1 := H i (by rw [S, e]; exact hi)
  have h2 := G i (by rw [S, e]; exact hi)
  show c.slots[i]? = some (Value.int (own_iv (vs.getD i d))) ∧ fits .byte (.int (own_iv (vs.getD i d))) = true
  generalize vs.getD i d = w at h1 h2 ⊢
  cases w with
  | int x => exact ⟨h1, h2⟩
  | _ => exact absurd h2 (by simp [fits])
section Copy
variable {p : Program} {l : Launch} {e : Env} {R : Room} {s : State} {m : MethodId} {args : Array Value} {below : List Frame} {meth : Method} {c : Code} {T : State} {locs : List Loc} {cells slots : Nat} {Z : State} {h : Heap} {a b : Addr}
theorem own_cp (X : Stand p l e R s m args below meth c T locs cells slots) (hx : p.tables.exec = Jvm.exec) (hZ : Z.Warmed39 s.vm) {a0 : Array Value} {own : String} {index : Nat} (hown : s.vm.findClass own = some m.cls)
    (w1 : (Cond.methodLink own index Jvm.Stand.acN).before a0 Z = true) (w2 : (Cond.native Jvm.Stand.acN).before a0 Z = true) (w3 : (Cond.static Jvm.Stand.acN).before a0 Z = true) (w4 : (Cond.initialized "java/lang/System").before a0 Z = true) (eT : T.heap = h)
    {n n' : Nat} {u u' : Unit} {sp dp nn : Int32} (A : own_RayL Z h a n u) (B : own_RayL Z h b n' u') (hn : n < 2 ^ 31) (hn' : n' < 2 ^ 31)
    (h1 : ¬ sp < 0) (h2 : ¬ dp < 0) (h3 : ¬ nn < 0) (h4 : sp.toNatClampNeg + nn.toNatClampNeg ≤ n) (h5 : dp.toNatClampNeg + nn.toNatClampNeg ≤ n') {n0 : Nat} (N : Fr n0 locs) (ge : n0 ≤ b)
    {g : JFrame} (hg : g.method = m) (hsize : g.locals.size = c.maxLocals) {rest : List Value} (hs : g.stack = .int nn :: .int dp :: .ref b :: .int sp :: .ref a :: rest) (hd : decode c.code g.pc = .ok (.invokestatic index, 3))
    (hf : 1 ≤ R.frames) {W : Nat} (hW : 2 * g.monitorRoom + (rest.map fun v => v.category).sum ≤ W) (hlo : W + (nativeFrameWords "java/lang/System" "arraycopy" 5 + 11) ≤ R.locals) :
    ∃ T' h' L, Stand p l e R s m args below meth c T' L cells slots ∧ T'.heap = h' ∧ Fr n0 L ∧ Keep h h' [b] ∧ own_RayL Z h' b n' () ∧
      ∀ target, Steps p.tables e below (T'.setTop { g with pc := g.pc + 3, stack := rest }) target → Steps p.tables e below (T.setTop g) target := by
  obtain ⟨k1, z1, v1, q1, l1, A1⟩ := A.arv hn
  obtain ⟨k2, z2, v2, q2, l2, A2⟩ := B.arv hn'
  obtain ⟨T', h', L, X', e', N', K', A', st⟩ := cpA X hx hZ hown w1 w2 w3 w4 eT A1 A2 (Or.inl ⟨rfl, rfl⟩) h1 h2 h3 (by rw [q1]; exact h4) (by rw [q2]; exact h5) rfl (by rw [l2]; exact h5) N ge hg hsize hs hd hf hW hlo
  exact ⟨T', h', L, X', e', N', K', own_RayL.back A' q2, st⟩
end Copy
theorem own_inb {c : Cell} {n : Nat} {j : Int32} (S : c.slots.size = n) (q : ¬ j < 0 ∧ j.toNatClampNeg < n) : ¬ (j < 0 ∨ c.slots.size ≤ j.toNatClampNeg) := fun w => w.elim q.1 fun z => absurd q.2 (Nat.not_lt.mpr (S ▸ z))
section Cold
variable {p : Program} {l : Launch} {e : Env} {R : Room} {s : State} {vm0 : Vm} {m : MethodId} {args : Array Value} {below : List Frame} {meth : Method} {c : Code} {T : State} {locs : List Loc} {cells slots : Nat} {Z : State} {a0 : Array Value} {h : Heap}
end Cold
end Jvm.RoadKit
namespace Jvm.Pilot.@@N@@
open Jvm Jvm.ClassFile Sem Op Lib Jvm.Free Jvm.Stand Jvm.LawKit Jvm.RoadKit Bundle Jvm.Pilot.@@N@@.Jvm.D
theorem own_pn0 : plainName "com/example/wireform/wireform/wire/Nesting" = true := by first | (simp [plainName, overriddenIn]; done) | decide +kernel
theorem own_d1_0 : decode prog_67_method_1_code 0 = .ok (.aload_n 0, 1) := by decide +kernel
theorem own_d1_1 : decode prog_67_method_1_code 1 = .ok (.invokespecial 1, 3) := by decide +kernel
theorem own_d1_4 : decode prog_67_method_1_code 4 = .ok (.iload_n 1, 1) := by decide +kernel
theorem own_d1_5 : decode prog_67_method_1_code 5 = .ok (.ifCond .lt 10, 3) := by decide +kernel
theorem own_d1_8 : decode prog_67_method_1_code 8 = .ok (.iload_n 1, 1) := by decide +kernel
theorem own_d1_9 : decode prog_67_method_1_code 9 = .ok (.sipush 1000, 3) := by decide +kernel
theorem own_d1_12 : decode prog_67_method_1_code 12 = .ok (.if_icmp .le 17, 3) := by decide +kernel
theorem own_d1_29 : decode prog_67_method_1_code 29 = .ok (.aload_n 0, 1) := by decide +kernel
theorem own_d1_30 : decode prog_67_method_1_code 30 = .ok (.iload_n 1, 1) := by decide +kernel
theorem own_d1_31 : decode prog_67_method_1_code 31 = .ok (.putfield 18, 3) := by decide +kernel
theorem own_d1_34 : decode prog_67_method_1_code 34 = .ok (.return_, 1) := by decide +kernel
theorem own_ef1 (m : MethodId) (r0 : Addr) (p1 : Int32) : entryFrame m #[(.ref r0), (.int p1)] 2 = mkF m 0 #[.val (.ref r0), .val (.int p1)] [] := by first | (simp [entryFrame, mkF, argsToLocals, Value.category]; done) | rfl
def own_Q1 (Z : State) (r0 : Addr) (p1 : Int32) (h0 : Heap) (n0 : Nat) (v : Option Value) (h : Heap) (L : List Loc) : Prop := (v = none) ∧ (Fr n0 L) ∧ (Keep h0 h [r0]) ∧ (Exa Z h r0 "com/example/wireform/wireform/wire/Nesting") ∧ (Fld Z h r0 "com/example/wireform/wireform/wire/Nesting" "limit" "I" (.int p1))
set_option maxRecDepth 65536 in
set_option maxHeartbeats 40000000 in
theorem own_rm1 (l : Launch) (Z : State) (a0 : Array Value) (hw : ∀ d ∈ tables_1, d.before a0 Z = true) (ws : List Jvm.Cond) (r0 : Addr) (p1 : Int32) (h0 : Heap) (n0 : Nat) (Z0 : n0 ≤ h0.size) (E_r0 : Exa Z h0 r0 "com/example/wireform/wireform/wire/Nesting") (F_r0_limit : Fld Z h0 r0 "com/example/wireform/wireform/wire/Nesting" "limit" "I" (.int (0 : Int32))) (g_r0 : n0 ≤ r0) (hlo : ¬ (p1 < (0 : Int32))) (hhi : ¬ ((1000 : Int32) < p1)) :
    MetFree l (⟨"com/example/wireform/wireform/wire/Nesting", "<init>", "(I)V"⟩ : MethodName) (head1 (Jvm.Cond.code (⟨"com/example/wireform/wireform/wire/Nesting", "<init>", "(I)V"⟩ : MethodName) prog_67_method_1_code 2 none :: ws) ({ frames := 1, cells := 0, slots := 0, locals := 12 } : Room)) (fun a U => a = #[(.ref r0), (.int p1)] ∧ Z.Warmed39 U.vm ∧ U.heap = h0) (fun _ _ _ _ _ => True) (fun _ U o U' => ∃ v L, o = .returned v ∧ own_Q1 Z r0 p1 h0 n0 v U'.heap L ∧ FrameEnd U o U' L ({ frames := 1, cells := 0, slots := 0, locals := 12 } : Room).cells ({ frames := 1, cells := 0, slots := 0, locals := 12 } : Room).slots) := by
  refine MetFree.of_bodySF (plainFor_of_name own_pn0) hisR ?_
  intro p e s m args below meth c s₁ Bd hml0 hP hK
  obtain ⟨rfl, hZ, hh⟩ := hP
  have hx := Bd.exec
  have hby := Bd.bytes
  have hml : c.maxLocals = 2 := hml0
  have hown : s.vm.findClass "com/example/wireform/wireform/wire/Nesting" = some m.cls := findClass_of_methodNamed Bd.named
  have hnm := (name_of_methodNamed Bd.named Bd.method).1
  have X0 : Stand p l e ({ frames := 1, cells := 0, slots := 0, locals := 12 } : Room) s m #[(.ref r0), (.int p1)] below meth c s₁ [] 0 0 := Stand.of_body Bd
  have e0 : s₁.heap = h0 := by rw [← hh, Bd.state]; rfl
  have N0 := Fr.nil n0
  have pre0 : ∀ t, Steps p.tables e below (s₁.setTop (mkF m 0 #[.val (.ref r0), .val (.int p1)] [])) t → Steps p.tables e below (s₁.setTop (entryFrame m #[(.ref r0), (.int p1)] 2)) t := fun t k => castTop (own_ef1 m r0 p1) k
  refine own_run (own_st pre0 ?_)
  refine own_st (B := s₁.setTop (mkF m 1 #[.val (.ref r0), .val (.int p1)] [(.ref r0)])) (fun target kt => ?_) ?_
  · show Steps p.tables e below (s₁.setTop (mkF m 0 #[.val (.ref r0), .val (.int p1)] [])) target
    refine XS.aloadN X0.here hx rfl (hb hby own_d1_0) rfl rfl ?_
    exact kt
  obtain ⟨Tg1, Xg1, eg1, stg1⟩ := initO X0 hx hZ hown (hw _ (List.mem_of_getElem? (i := 11) rfl)) (hw _ (List.mem_of_getElem? (i := 12) rfl)) (hw _ (List.mem_of_getElem? (i := 13) rfl)) e0 (g := (mkF m 1 #[.val (.ref r0), .val (.int p1)] [(.ref r0)])) rfl (by rw [hml]; rfl) rfl (hb hby own_d1_1) (by decide) (W := 0) (by show 2 * 0 + _ ≤ _; exact Nat.le_of_eq rfl) (by decide)
  refine own_st stg1 ?_
  refine own_st (B := Tg1.setTop (mkF m 5 #[.val (.ref r0), .val (.int p1)] [(.int p1)])) (fun target kt => ?_) ?_
  · show Steps p.tables e below (Tg1.setTop (mkF m 4 #[.val (.ref r0), .val (.int p1)] [])) target
    refine XS.iloadN Xg1.here hx rfl (hb hby own_d1_4) rfl ?_
    exact kt
  have c5 : ¬ (p1 < (0 : Int32)) := by
    exact hlo
  refine own_st (B := Tg1.setTop (mkF m 12 #[.val (.ref r0), .val (.int p1)] [(.int (1000 : Int32)), (.int p1)])) (fun target kt => ?_) ?_
  · show Steps p.tables e below (Tg1.setTop (mkF m 5 #[.val (.ref r0), .val (.int p1)] [(.int p1)])) target
    refine XS.ifNo Xg1.here hx rfl (hb hby own_d1_5) rfl ((if0 _ _).trans (flt c5).1) ?_
    show Steps p.tables e below (Tg1.setTop (mkF m 8 #[.val (.ref r0), .val (.int p1)] [])) target
    refine XS.iloadN Xg1.here hx rfl (hb hby own_d1_8) rfl ?_
    show Steps p.tables e below (Tg1.setTop (mkF m 9 #[.val (.ref r0), .val (.int p1)] [(.int p1)])) target
    refine XS.sipush Xg1.here hx rfl (hb hby own_d1_9) ?_
    exact kt
  have c12 : ¬ ((1000 : Int32) < p1) := by
    exact hhi
  refine own_st (B := Tg1.setTop (mkF m 31 #[.val (.ref r0), .val (.int p1)] [(.int p1), (.ref r0)])) (fun target kt => ?_) ?_
  · show Steps p.tables e below (Tg1.setTop (mkF m 12 #[.val (.ref r0), .val (.int p1)] [(.int (1000 : Int32)), (.int p1)])) target
    refine XS.icmpYes Xg1.here hx rfl (pc0 := 12) (pc' := 29) rfl (hb hby own_d1_12) rfl (flt c12).2.2.2 (by decide) (by decide) ?_
    show Steps p.tables e below (Tg1.setTop (mkF m 29 #[.val (.ref r0), .val (.int p1)] [])) target
    refine XS.aloadN Xg1.here hx rfl (hb hby own_d1_29) rfl rfl ?_
    show Steps p.tables e below (Tg1.setTop (mkF m 30 #[.val (.ref r0), .val (.int p1)] [(.ref r0)])) target
    refine XS.iloadN Xg1.here hx rfl (hb hby own_d1_30) rfl ?_
    exact kt
  obtain ⟨Tg31, hg31, Xg31, eg31, Wg31, stg31⟩ := putF Xg1 hx hZ hown (host := "") (Or.inl (hw _ (List.mem_of_getElem? (i := 14) rfl))) Via.refl eg1 F_r0_limit E_r0 (Or.inr ⟨(hw _ (List.mem_of_getElem? (i := 15) rfl)), rfl, hnm⟩) (hw _ (List.mem_of_getElem? (i := 6) rfl)) (ty := .int) (by decide) rfl rfl (g := (mkF m 31 #[.val (.ref r0), .val (.int p1)] [(.int p1), (.ref r0)])) rfl rfl (hb hby own_d1_31)
  refine own_st stg31 ?_
  have Ng31 := Fr.snoc Xg31 N0 g_r0
  have F := E_r0.wr Wg31
  have F_1 := F_r0_limit.same Wg31
  have Zz : n0 ≤ hg31.size := Nat.le_trans Z0 (Keep.of_wr Wg31).1
  have Kc := (Keep.refl h0 [r0]).wr Wg31 (Or.inl (List.mem_of_getElem? (i := 0) rfl))
  obtain ⟨fs, hr, hrun, hended, hW, hsame⟩ := Xg31.leave (v := none) (fun _ => rfl)
  have hend : Steps p.tables e below (Tg31.setTop (mkF m 34 #[.val (.ref r0), .val (.int p1)] [])) (Tg31.setFrames fs) := by
    exact Xg31.returnOut hx Bd.returns (hb hby own_d1_34) hr
  refine own_fin hend ⟨_, hrun, hended, _, _, rfl, ?_, ⟨_, rfl⟩, hW, hsame.mono (by decide) (by decide)⟩
  show own_Q1 Z r0 p1 h0 n0 _ Tg31.heap _
  rw [eg31]
  exact ⟨rfl, Ng31, Kc, F, F_1⟩
theorem own_vi (x : Int32) (h0 : ¬ x < (0 : Int32)) (h1 : x.toInt < 128) : ((0 : Int64) ||| ((x &&& (127 : Int32)).toInt64 <<< ((0 : Int32) &&& 0x3f).toInt64)) = x.toInt64 := by
  have e0 : (0 : Int32).toInt = 0 := by decide
  rw [Int32.lt_iff_toInt_lt, e0] at h0
  have h2 := c_mask x 127 7 (by decide) (by decide)
  have hx : x &&& (127 : Int32) = x := by
    apply Int32.toInt_inj.mp
    rw [h2]
    omega
  rw [hx]
  have h3 := c_lshl x.toInt64 0 0 (by decide)
  have h4 : (x.toInt64 <<< ((0 : Int32) &&& 0x3f).toInt64) = x.toInt64 := by
    apply Int64.toInt_inj.mp
    have r1 := rng64 (x.toInt64 <<< ((0 : Int32) &&& 0x3f).toInt64)
    have r2 := rng64 x.toInt64
    omega
  rw [h4, Int64.zero_or]
theorem own_li (x : Int32) : (x.toInt64).toInt32 = x := by
  apply Int32.toInt_inj.mp
  have h1 := c_l2i x.toInt64
  have h2 := c_i2l x
  have r1 := rng32 x
  have r2 := rng32 (x.toInt64).toInt32
  omega
theorem own_cmpU (x y : Int64) (h0 : 0 ≤ x.toInt) (h1 : x.toInt ≤ y.toInt) : ¬ (0 : Int32) < (if (x + (-9223372036854775808 : Int64)) < (y + (-9223372036854775808 : Int64)) then (-1 : Int32) else (if (x + (-9223372036854775808 : Int64)) = (y + (-9223372036854775808 : Int64)) then (0 : Int32) else (1 : Int32))) := by
  have e1 : (-9223372036854775808 : Int64).toInt = -9223372036854775808 := by decide
  have k1 := c_ladd x (-9223372036854775808)
  have k2 := c_ladd y (-9223372036854775808)
  have r1 := rng64 (x + (-9223372036854775808))
  have r2 := rng64 (y + (-9223372036854775808))
  have r3 := rng64 x
  have r4 := rng64 y
  rw [e1] at k1 k2
  by_cases hc : (x + (-9223372036854775808 : Int64)) < (y + (-9223372036854775808 : Int64))
  · rw [if_pos hc]
    decide
  · rw [if_neg hc]
    have he : (x + (-9223372036854775808 : Int64)) = (y + (-9223372036854775808 : Int64)) := by
      apply Int64.toInt_inj.mp
      rw [Int64.lt_iff_toInt_lt] at hc
      omega
    rw [if_pos he]
    decide
theorem own_nc (j : Int32) (h : 0 ≤ j.toInt) : (j.toNatClampNeg : Int) = j.toInt := by
  have : j.toNatClampNeg = j.toInt.toNat := rfl
  rw [this]
  omega
theorem own_nneg (j : Int32) (h : 0 ≤ j.toInt) : ¬ j < (0 : Int32) := by
  have e0 : (0 : Int32).toInt = 0 := by decide
  rw [Int32.lt_iff_toInt_lt, e0]
  omega
/-- a varint of one byte lies at p, and what it says lies below the mark -/
def own_V (p m x : Int32) (n : Nat) : Prop := 0 ≤ p.toInt ∧ p.toInt < m.toInt ∧ m.toInt ≤ n ∧ n ≤ 8 ∧ 0 ≤ x.toInt ∧ x.toInt < 128 ∧ x.toInt ≤ m.toInt - p.toInt - 1
theorem own_Vf (p m x : Int32) (n : Nat) (V : own_V p m x n) : ¬ p = m ∧ (¬ p < (0 : Int32) ∧ p.toNatClampNeg < n) ∧ ¬ x < (0 : Int32) ∧ (p + (1 : Int32)).toInt = p.toInt + 1 ∧ (m - (p + (1 : Int32))).toInt = m.toInt - p.toInt - 1 ∧ ((p + (1 : Int32)) + x).toInt = p.toInt + 1 + x.toInt := by
  obtain ⟨v1, v2, v3, v4, v5, v6, v7⟩ := V
  have k1 := c_iadd p 1
  have k2 := c_isub m (p + 1)
  have k3 := c_iadd (p + 1) x
  have e1 : (1 : Int32).toInt = 1 := by decide
  have r1 := rng32 (p + 1)
  have r2 := rng32 (m - (p + 1))
  have r3 := rng32 ((p + 1) + x)
  have n1 := own_nc p v1
  rw [e1] at k1
  refine ⟨fun q => ?_, ⟨own_nneg p v1, ?_⟩, own_nneg x v5, ?_, ?_, ?_⟩
  · rw [q] at v2; omega
  all_goals omega
theorem own_pn1 : plainName "java/lang/Long" = true := by first | (simp [plainName, overriddenIn]; done) | decide +kernel
theorem own_d9_0 : decode jdk_35_method_42_code 0 = .ok (.lload_n 0, 1) := by decide +kernel
theorem own_d9_1 : decode jdk_35_method_42_code 1 = .ok (.lload_n 2, 1) := by decide +kernel
theorem own_d9_2 : decode jdk_35_method_42_code 2 = .ok (.lcmp, 1) := by decide +kernel
theorem own_d9_3 : decode jdk_35_method_42_code 3 = .ok (.ifCond .ge 7, 3) := by decide +kernel
theorem own_d9_6 : decode jdk_35_method_42_code 6 = .ok (.iconst (-1), 1) := by decide +kernel
theorem own_d9_7 : decode jdk_35_method_42_code 7 = .ok (.goto 14, 3) := by decide +kernel
theorem own_d9_10 : decode jdk_35_method_42_code 10 = .ok (.lload_n 0, 1) := by decide +kernel
theorem own_d9_11 : decode jdk_35_method_42_code 11 = .ok (.lload_n 2, 1) := by decide +kernel
theorem own_d9_12 : decode jdk_35_method_42_code 12 = .ok (.lcmp, 1) := by decide +kernel
theorem own_d9_13 : decode jdk_35_method_42_code 13 = .ok (.ifCond .ne 7, 3) := by decide +kernel
theorem own_d9_16 : decode jdk_35_method_42_code 16 = .ok (.iconst 0, 1) := by decide +kernel
theorem own_d9_17 : decode jdk_35_method_42_code 17 = .ok (.goto 4, 3) := by decide +kernel
theorem own_d9_20 : decode jdk_35_method_42_code 20 = .ok (.iconst 1, 1) := by decide +kernel
theorem own_d9_21 : decode jdk_35_method_42_code 21 = .ok (.ireturn, 1) := by decide +kernel
theorem own_ef9 (m : MethodId) (q0 : Int64) (q1 : Int64) : entryFrame m #[(.long q0), (.long q1)] 4 = mkF m 0 #[.val (.long q0), .second, .val (.long q1), .second] [] := by first | (simp [entryFrame, mkF, argsToLocals, Value.category]; done) | rfl
def own_Q9 (Z : State) (q0 : Int64) (q1 : Int64) (h0 : Heap) (n0 : Nat) (v : Option Value) (h : Heap) (L : List Loc) : Prop := (v = some (.int ((if q0 < q1 then (-1 : Int32) else (if q0 = q1 then (0 : Int32) else (1 : Int32)))))) ∧ (Fr n0 L) ∧ (h = h0)
set_option maxRecDepth 65536 in
set_option maxHeartbeats 40000000 in
theorem own_rm9 (l : Launch) (Z : State) (a0 : Array Value) (hw : ∀ d ∈ tables_1, d.before a0 Z = true) (ws : List Jvm.Cond) (q0 : Int64) (q1 : Int64) (h0 : Heap) (n0 : Nat) (Z0 : n0 ≤ h0.size) :
    MetFree l (⟨"java/lang/Long", "compare", "(JJ)I"⟩ : MethodName) (head1 (Jvm.Cond.code (⟨"java/lang/Long", "compare", "(JJ)I"⟩ : MethodName) jdk_35_method_42_code 4 (some .int) :: ws) ({ frames := 0, cells := 0, slots := 0, locals := 0 } : Room)) (fun a U => a = #[(.long q0), (.long q1)] ∧ Z.Warmed39 U.vm ∧ U.heap = h0) (fun _ _ _ _ _ => True) (fun _ U o U' => ∃ v L, o = .returned v ∧ own_Q9 Z q0 q1 h0 n0 v U'.heap L ∧ FrameEnd U o U' L ({ frames := 0, cells := 0, slots := 0, locals := 0 } : Room).cells ({ frames := 0, cells := 0, slots := 0, locals := 0 } : Room).slots) := by
  refine MetFree.of_bodySF (plainFor_of_name own_pn1) hisR ?_
  intro p e s m args below meth c s₁ Bd hml0 hP hK
  obtain ⟨rfl, hZ, hh⟩ := hP
  have hx := Bd.exec
  have hby := Bd.bytes
  have hml : c.maxLocals = 4 := hml0
  have hown : s.vm.findClass "java/lang/Long" = some m.cls := findClass_of_methodNamed Bd.named
  have hnm := (name_of_methodNamed Bd.named Bd.method).1
  have X0 : Stand p l e ({ frames := 0, cells := 0, slots := 0, locals := 0 } : Room) s m #[(.long q0), (.long q1)] below meth c s₁ [] 0 0 := Stand.of_body Bd
  have e0 : s₁.heap = h0 := by rw [← hh, Bd.state]; rfl
  have N0 := Fr.nil n0
  have pre0 : ∀ t, Steps p.tables e below (s₁.setTop (mkF m 0 #[.val (.long q0), .second, .val (.long q1), .second] [])) t → Steps p.tables e below (s₁.setTop (entryFrame m #[(.long q0), (.long q1)] 4)) t := fun t k => castTop (own_ef9 m q0 q1) k
  refine own_run (own_st pre0 ?_)
  refine own_st (B := s₁.setTop (mkF m 3 #[.val (.long q0), .second, .val (.long q1), .second] [(.int (lcmpW q0 q1))])) (fun target kt => ?_) ?_
  · show Steps p.tables e below (s₁.setTop (mkF m 0 #[.val (.long q0), .second, .val (.long q1), .second] [])) target
    refine XS.lloadN X0.here hx rfl (hb hby own_d9_0) rfl ?_
    show Steps p.tables e below (s₁.setTop (mkF m 1 #[.val (.long q0), .second, .val (.long q1), .second] [(.long q0)])) target
    refine XS.lloadN X0.here hx rfl (hb hby own_d9_1) rfl ?_
    show Steps p.tables e below (s₁.setTop (mkF m 2 #[.val (.long q0), .second, .val (.long q1), .second] [(.long q1), (.long q0)])) target
    refine XS.lcmp X0.here hx rfl (hb hby own_d9_2) rfl ?_
    exact kt
  obtain ⟨_, ⟨j21_s0, rfl, hj21_s0⟩, st_M21⟩ : own_Lead p.tables e below (s₁.setTop (mkF m 3 #[.val (.long q0), .second, .val (.long q1), .second] [(.int (lcmpW q0 q1))])) (fun B => ∃ (j21_s0 : Int32), B = s₁.setTop (mkF m 21 #[.val (.long q0), .second, .val (.long q1), .second] [(.int j21_s0)]) ∧ j21_s0 = (if q0 < q1 then (-1 : Int32) else (if q0 = q1 then (0 : Int32) else (1 : Int32)))) := by
    by_cases c3 : q0 < q1
    · refine own_st (B := s₁.setTop (mkF m 21 #[.val (.long q0), .second, .val (.long q1), .second] [(.int (-1 : Int32))])) (fun target kt => ?_) ?_
      · show Steps p.tables e below (s₁.setTop (mkF m 3 #[.val (.long q0), .second, .val (.long q1), .second] [(.int (lcmpW q0 q1))])) target
        refine XS.ifNo X0.here hx rfl (hb hby own_d9_3) rfl ((if0 _ _).trans (tlt ((lw_lt q0 q1).mpr c3)).2.1) ?_
        show Steps p.tables e below (s₁.setTop (mkF m 6 #[.val (.long q0), .second, .val (.long q1), .second] [])) target
        refine XS.iconst X0.here hx rfl (hb hby own_d9_6) ?_
        show Steps p.tables e below (s₁.setTop (mkF m 7 #[.val (.long q0), .second, .val (.long q1), .second] [(.int (-1 : Int32))])) target
        refine XS.goto X0.here hx rfl (pc0 := 7) (pc' := 21) rfl (hb hby own_d9_7) (by decide) (by decide) ?_
        exact kt
      exact ⟨_, ⟨(-1 : Int32), rfl, (if_pos c3).symm⟩, fun _ k => k⟩
    · refine own_st (B := s₁.setTop (mkF m 13 #[.val (.long q0), .second, .val (.long q1), .second] [(.int (lcmpW q0 q1))])) (fun target kt => ?_) ?_
      · show Steps p.tables e below (s₁.setTop (mkF m 3 #[.val (.long q0), .second, .val (.long q1), .second] [(.int (lcmpW q0 q1))])) target
        refine XS.ifYes X0.here hx rfl (pc0 := 3) (pc' := 10) rfl (hb hby own_d9_3) rfl ((if0 _ _).trans (flt (fun q => c3 ((lw_lt q0 q1).mp q))).2.1) (by decide) (by decide) ?_
        show Steps p.tables e below (s₁.setTop (mkF m 10 #[.val (.long q0), .second, .val (.long q1), .second] [])) target
        refine XS.lloadN X0.here hx rfl (hb hby own_d9_10) rfl ?_
        show Steps p.tables e below (s₁.setTop (mkF m 11 #[.val (.long q0), .second, .val (.long q1), .second] [(.long q0)])) target
        refine XS.lloadN X0.here hx rfl (hb hby own_d9_11) rfl ?_
        show Steps p.tables e below (s₁.setTop (mkF m 12 #[.val (.long q0), .second, .val (.long q1), .second] [(.long q1), (.long q0)])) target
        refine XS.lcmp X0.here hx rfl (hb hby own_d9_12) rfl ?_
        exact kt
      by_cases c13 : q0 = q1
      · refine own_st (B := s₁.setTop (mkF m 21 #[.val (.long q0), .second, .val (.long q1), .second] [(.int (0 : Int32))])) (fun target kt => ?_) ?_
        · show Steps p.tables e below (s₁.setTop (mkF m 13 #[.val (.long q0), .second, .val (.long q1), .second] [(.int (lcmpW q0 q1))])) target
          refine XS.ifNo X0.here hx rfl (hb hby own_d9_13) rfl ((if0 _ _).trans (teq ((lw_eq q0 q1).mpr c13)).2) ?_
          show Steps p.tables e below (s₁.setTop (mkF m 16 #[.val (.long q0), .second, .val (.long q1), .second] [])) target
          refine XS.iconst X0.here hx rfl (hb hby own_d9_16) ?_
          show Steps p.tables e below (s₁.setTop (mkF m 17 #[.val (.long q0), .second, .val (.long q1), .second] [(.int (0 : Int32))])) target
          refine XS.goto X0.here hx rfl (pc0 := 17) (pc' := 21) rfl (hb hby own_d9_17) (by decide) (by decide) ?_
          exact kt
        exact ⟨_, ⟨(0 : Int32), rfl, (Eq.trans (if_pos c13).symm (if_neg c3).symm)⟩, fun _ k => k⟩
      · refine own_st (B := s₁.setTop (mkF m 21 #[.val (.long q0), .second, .val (.long q1), .second] [(.int (1 : Int32))])) (fun target kt => ?_) ?_
        · show Steps p.tables e below (s₁.setTop (mkF m 13 #[.val (.long q0), .second, .val (.long q1), .second] [(.int (lcmpW q0 q1))])) target
          refine XS.ifYes X0.here hx rfl (pc0 := 13) (pc' := 20) rfl (hb hby own_d9_13) rfl ((if0 _ _).trans (feq (fun q => c13 ((lw_eq q0 q1).mp q))).2) (by decide) (by decide) ?_
          show Steps p.tables e below (s₁.setTop (mkF m 20 #[.val (.long q0), .second, .val (.long q1), .second] [])) target
          refine XS.iconst X0.here hx rfl (hb hby own_d9_20) ?_
          exact kt
        exact ⟨_, ⟨(1 : Int32), rfl, (Eq.trans (if_neg c13).symm (if_neg c3).symm)⟩, fun _ k => k⟩
  refine own_st st_M21 ?_
  obtain ⟨fs, hr, hrun, hended, hW, hsame⟩ := X0.leave (v := some (.int j21_s0)) (fun h => by rw [Bd.returns] at h; cases h)
  have hend : Steps p.tables e below (s₁.setTop (mkF m 21 #[.val (.long q0), .second, .val (.long q1), .second] [(.int j21_s0)])) (s₁.setFrames fs) := by
    exact retI X0 hx Bd.returns (hb hby own_d9_21) hr
  refine own_fin hend ⟨_, hrun, hended, _, _, rfl, ?_, ⟨_, rfl⟩, hW, hsame.mono (by decide) (by decide)⟩
  show own_Q9 Z q0 q1 h0 n0 _ s₁.heap _
  rw [e0]
  subst hj21_s0
  exact ⟨(congrArg (fun z => some (Value.int z)) rfl), N0, rfl⟩
theorem own_pd0 : parseMethodDescriptor "(JJ)I" = some ⟨[.long, .long], some .int⟩ := by decide +kernel
theorem own_d8_0 : decode jdk_35_method_43_code 0 = .ok (.lload_n 0, 1) := by decide +kernel
theorem own_d8_1 : decode jdk_35_method_43_code 1 = .ok (.ldc2_w 168, 3) := by decide +kernel
theorem own_d8_4 : decode jdk_35_method_43_code 4 = .ok (.ladd, 1) := by decide +kernel
theorem own_d8_5 : decode jdk_35_method_43_code 5 = .ok (.lload_n 2, 1) := by decide +kernel
theorem own_d8_6 : decode jdk_35_method_43_code 6 = .ok (.ldc2_w 168, 3) := by decide +kernel
theorem own_d8_9 : decode jdk_35_method_43_code 9 = .ok (.ladd, 1) := by decide +kernel
theorem own_d8_10 : decode jdk_35_method_43_code 10 = .ok (.invokestatic 302, 3) := by decide +kernel
theorem own_d8_13 : decode jdk_35_method_43_code 13 = .ok (.ireturn, 1) := by decide +kernel
theorem own_ef8 (m : MethodId) (q0 : Int64) (q1 : Int64) : entryFrame m #[(.long q0), (.long q1)] 4 = mkF m 0 #[.val (.long q0), .second, .val (.long q1), .second] [] := by first | (simp [entryFrame, mkF, argsToLocals, Value.category]; done) | rfl
def own_Q8 (Z : State) (q0 : Int64) (q1 : Int64) (h0 : Heap) (n0 : Nat) (v : Option Value) (h : Heap) (L : List Loc) : Prop := (v = some (.int (if (q0 + (-9223372036854775808 : Int64)) < (q1 + (-9223372036854775808 : Int64)) then (-1 : Int32) else (if (q0 + (-9223372036854775808 : Int64)) = (q1 + (-9223372036854775808 : Int64)) then (0 : Int32) else (1 : Int32))))) ∧ (Fr n0 L) ∧ (h = h0)
set_option maxRecDepth 65536 in
set_option maxHeartbeats 40000000 in
theorem own_rm8 (l : Launch) (Z : State) (a0 : Array Value) (hw : ∀ d ∈ tables_1, d.before a0 Z = true) (ws : List Jvm.Cond) (q0 : Int64) (q1 : Int64) (h0 : Heap) (n0 : Nat) (Z0 : n0 ≤ h0.size) :
    MetFree l (⟨"java/lang/Long", "compareUnsigned", "(JJ)I"⟩ : MethodName) (head1 (Jvm.Cond.code (⟨"java/lang/Long", "compareUnsigned", "(JJ)I"⟩ : MethodName) jdk_35_method_43_code 4 (some .int) :: ws) ({ frames := 1, cells := 0, slots := 0, locals := 15 } : Room)) (fun a U => a = #[(.long q0), (.long q1)] ∧ Z.Warmed39 U.vm ∧ U.heap = h0) (fun _ _ _ _ _ => True) (fun _ U o U' => ∃ v L, o = .returned v ∧ own_Q8 Z q0 q1 h0 n0 v U'.heap L ∧ FrameEnd U o U' L ({ frames := 1, cells := 0, slots := 0, locals := 15 } : Room).cells ({ frames := 1, cells := 0, slots := 0, locals := 15 } : Room).slots) := by
  refine MetFree.of_bodySF (plainFor_of_name own_pn1) hisR ?_
  intro p e s m args below meth c s₁ Bd hml0 hP hK
  obtain ⟨rfl, hZ, hh⟩ := hP
  have hx := Bd.exec
  have hby := Bd.bytes
  have hml : c.maxLocals = 4 := hml0
  have hown : s.vm.findClass "java/lang/Long" = some m.cls := findClass_of_methodNamed Bd.named
  have hnm := (name_of_methodNamed Bd.named Bd.method).1
  have X0 : Stand p l e ({ frames := 1, cells := 0, slots := 0, locals := 15 } : Room) s m #[(.long q0), (.long q1)] below meth c s₁ [] 0 0 := Stand.of_body Bd
  have e0 : s₁.heap = h0 := by rw [← hh, Bd.state]; rfl
  have N0 := Fr.nil n0
  have pre0 : ∀ t, Steps p.tables e below (s₁.setTop (mkF m 0 #[.val (.long q0), .second, .val (.long q1), .second] [])) t → Steps p.tables e below (s₁.setTop (entryFrame m #[(.long q0), (.long q1)] 4)) t := fun t k => castTop (own_ef8 m q0 q1) k
  refine own_run (own_st pre0 ?_)
  refine own_st (B := s₁.setTop (mkF m 10 #[.val (.long q0), .second, .val (.long q1), .second] [(.long (q1 + (-9223372036854775808 : Int64))), (.long (q0 + (-9223372036854775808 : Int64)))])) (fun target kt => ?_) ?_
  · show Steps p.tables e below (s₁.setTop (mkF m 0 #[.val (.long q0), .second, .val (.long q1), .second] [])) target
    refine XS.lloadN X0.here hx rfl (hb hby own_d8_0) rfl ?_
    show Steps p.tables e below (s₁.setTop (mkF m 1 #[.val (.long q0), .second, .val (.long q1), .second] [(.long q0)])) target
    refine X0.ldc2Long hx hown (mvT hZ (hw _ (List.mem_of_getElem? (i := 53) rfl))) (g := (mkF m 1 #[.val (.long q0), .second, .val (.long q1), .second] [(.long q0)])) rfl (hb hby own_d8_1) _ ?_
    show Steps p.tables e below (s₁.setTop (mkF m 4 #[.val (.long q0), .second, .val (.long q1), .second] [(.long (-9223372036854775808 : Int64)), (.long q0)])) target
    refine XS.ladd X0.here hx rfl (hb hby own_d8_4) rfl ?_
    show Steps p.tables e below (s₁.setTop (mkF m 5 #[.val (.long q0), .second, .val (.long q1), .second] [(.long (q0 + (-9223372036854775808 : Int64)))])) target
    refine XS.lloadN X0.here hx rfl (hb hby own_d8_5) rfl ?_
    show Steps p.tables e below (s₁.setTop (mkF m 6 #[.val (.long q0), .second, .val (.long q1), .second] [(.long q1), (.long (q0 + (-9223372036854775808 : Int64)))])) target
    refine X0.ldc2Long hx hown (mvT hZ (hw _ (List.mem_of_getElem? (i := 53) rfl))) (g := (mkF m 6 #[.val (.long q0), .second, .val (.long q1), .second] [(.long q1), (.long (q0 + (-9223372036854775808 : Int64)))])) rfl (hb hby own_d8_6) _ ?_
    show Steps p.tables e below (s₁.setTop (mkF m 9 #[.val (.long q0), .second, .val (.long q1), .second] [(.long (-9223372036854775808 : Int64)), (.long q1), (.long (q0 + (-9223372036854775808 : Int64)))])) target
    refine XS.ladd X0.here hx rfl (hb hby own_d8_9) rfl ?_
    exact kt
  obtain ⟨_, _, ⟨Tg10, Lg10, kg10, ng10⟩, -, Xg10, ⟨Lcg10, hQg10, lg10, yg10, zg10⟩, stg10⟩ := Jvm.LawKit.callS X0 hx (y := (⟨"java/lang/Long", "compare", "(JJ)I"⟩ : MethodName)) hown (mvT hZ (hw _ (List.mem_of_getElem? (i := 54) rfl))) (mvT hZ (hw _ (List.mem_of_getElem? (i := 55) rfl))) (mvT hZ (hw _ (List.mem_of_getElem? (i := 51) rfl))) (mvT hZ (hw _ (List.mem_of_getElem? (i := 56) rfl))) (by decide) (backOf (W := 0) (own_rm9 l Z a0 hw [] (q0 + (-9223372036854775808 : Int64)) (q1 + (-9223372036854775808 : Int64)) h0 n0 Z0) hZ (hw _ (List.mem_of_getElem? (i := 56) rfl)) (hw _ (List.mem_of_getElem? (i := 51) rfl)) (by decide) (by decide)) (g := (mkF m 10 #[.val (.long q0), .second, .val (.long q1), .second] [(.long (q1 + (-9223372036854775808 : Int64))), (.long (q0 + (-9223372036854775808 : Int64)))])) rfl (by rw [hml]; rfl) (argsL := [(.long (q0 + (-9223372036854775808 : Int64))), (.long (q1 + (-9223372036854775808 : Int64)))]) (rest := []) (lenOf own_pd0 rfl) rfl (by show 2 * 0 + _ ≤ _; exact Nat.le_of_eq rfl) (hb hby own_d8_10) (fun _ _ => ⟨rfl, e0, (by decide : 0 + 0 ≤ _), (by decide : 0 + 0 ≤ _)⟩)
  dsimp only [Pt.U, Pt.locs, Pt.cells, Pt.slots] at Xg10 lg10 yg10 zg10 stg10 hQg10
  subst lg10 yg10 zg10
  obtain ⟨rfl, Ng10q, eg10⟩ := hQg10
  have Ng10 := Fr.app N0 Ng10q
  refine own_st (stg10) ?_
  obtain ⟨fs, hr, hrun, hended, hW, hsame⟩ := Xg10.leave (v := some (.int (if (q0 + (-9223372036854775808 : Int64)) < (q1 + (-9223372036854775808 : Int64)) then (-1 : Int32) else (if (q0 + (-9223372036854775808 : Int64)) = (q1 + (-9223372036854775808 : Int64)) then (0 : Int32) else (1 : Int32))))) (fun h => by rw [Bd.returns] at h; cases h)
  have hend : Steps p.tables e below (Tg10.setTop (mkF m 13 #[.val (.long q0), .second, .val (.long q1), .second] [(.int (if (q0 + (-9223372036854775808 : Int64)) < (q1 + (-9223372036854775808 : Int64)) then (-1 : Int32) else (if (q0 + (-9223372036854775808 : Int64)) = (q1 + (-9223372036854775808 : Int64)) then (0 : Int32) else (1 : Int32))))])) (Tg10.setFrames fs) := by
    exact retI Xg10 hx Bd.returns (hb hby own_d8_13) hr
  refine own_fin hend ⟨_, hrun, hended, _, _, rfl, ?_, ⟨_, rfl⟩, hW, hsame.mono (by decide) (by decide)⟩
  show own_Q8 Z q0 q1 h0 n0 _ Tg10.heap _
  rw [eg10]
  exact ⟨(congrArg (fun z => some (Value.int z)) rfl), Ng10, rfl⟩
theorem own_pn2 : plainName "com/example/wireform/wireform/wire/WireReader" = true := by first | (simp [plainName, overriddenIn]; done) | decide +kernel
theorem own_d3_0 : decode prog_71_method_3_code 0 = .ok (.aload_n 0, 1) := by decide +kernel
theorem own_d3_1 : decode prog_71_method_3_code 1 = .ok (.invokespecial 25, 3) := by decide +kernel
theorem own_d3_4 : decode prog_71_method_3_code 4 = .ok (.aload_n 0, 1) := by decide +kernel
theorem own_d3_5 : decode prog_71_method_3_code 5 = .ok (.aload_n 1, 1) := by decide +kernel
theorem own_d3_6 : decode prog_71_method_3_code 6 = .ok (.putfield 30, 3) := by decide +kernel
theorem own_d3_9 : decode prog_71_method_3_code 9 = .ok (.aload_n 0, 1) := by decide +kernel
theorem own_d3_10 : decode prog_71_method_3_code 10 = .ok (.iload_n 2, 1) := by decide +kernel
theorem own_d3_11 : decode prog_71_method_3_code 11 = .ok (.putfield 32, 3) := by decide +kernel
theorem own_d3_14 : decode prog_71_method_3_code 14 = .ok (.aload_n 0, 1) := by decide +kernel
theorem own_d3_15 : decode prog_71_method_3_code 15 = .ok (.aload_n 3, 1) := by decide +kernel
theorem own_d3_16 : decode prog_71_method_3_code 16 = .ok (.putfield 36, 3) := by decide +kernel
theorem own_d3_19 : decode prog_71_method_3_code 19 = .ok (.aload_n 0, 1) := by decide +kernel
theorem own_d3_20 : decode prog_71_method_3_code 20 = .ok (.iload_n 2, 1) := by decide +kernel
theorem own_d3_21 : decode prog_71_method_3_code 21 = .ok (.putfield 40, 3) := by decide +kernel
theorem own_d3_24 : decode prog_71_method_3_code 24 = .ok (.return_, 1) := by decide +kernel
theorem own_ef3 (m : MethodId) (r0 : Addr) (r1 : Addr) (p2 : Int32) (r3 : Addr) : entryFrame m #[(.ref r0), (.ref r1), (.int p2), (.ref r3)] 4 = mkF m 0 #[.val (.ref r0), .val (.ref r1), .val (.int p2), .val (.ref r3)] [] := by first | (simp [entryFrame, mkF, argsToLocals, Value.category]; done) | rfl
def own_Q3 (Z : State) (r0 : Addr) (r1 : Addr) (p2 : Int32) (r3 : Addr) (h0 : Heap) (n0 : Nat) (v : Option Value) (h : Heap) (L : List Loc) : Prop := (v = none) ∧ (Fr n0 L) ∧ (Keep h0 h [r0]) ∧ (Exa Z h r0 "com/example/wireform/wireform/wire/WireReader") ∧ (Fld Z h r0 "com/example/wireform/wireform/wire/WireReader" "bytes" "[B" (.ref r1)) ∧ (Fld Z h r0 "com/example/wireform/wireform/wire/WireReader" "end" "I" (.int p2)) ∧ (Fld Z h r0 "com/example/wireform/wireform/wire/WireReader" "nesting" "Lcom/example/wireform/wireform/wire/Nesting;" (.ref r3)) ∧ (Fld Z h r0 "com/example/wireform/wireform/wire/WireReader" "limit" "I" (.int p2)) ∧ (Fld Z h r0 "com/example/wireform/wireform/wire/WireReader" "position" "I" (.int (0 : Int32)))
set_option maxRecDepth 65536 in
set_option maxHeartbeats 40000000 in
theorem own_rm3 (l : Launch) (Z : State) (a0 : Array Value) (hw : ∀ d ∈ tables_1, d.before a0 Z = true) (ws : List Jvm.Cond) (r0 : Addr) (r1 : Addr) (p2 : Int32) (r3 : Addr) (h0 : Heap) (n0 : Nat) (Z0 : n0 ≤ h0.size) (E_r0 : Exa Z h0 r0 "com/example/wireform/wireform/wire/WireReader") (F_r0_bytes : Fld Z h0 r0 "com/example/wireform/wireform/wire/WireReader" "bytes" "[B" .null) (F_r0_end : Fld Z h0 r0 "com/example/wireform/wireform/wire/WireReader" "end" "I" (.int (0 : Int32))) (F_r0_nesting : Fld Z h0 r0 "com/example/wireform/wireform/wire/WireReader" "nesting" "Lcom/example/wireform/wireform/wire/Nesting;" .null) (F_r0_limit : Fld Z h0 r0 "com/example/wireform/wireform/wire/WireReader" "limit" "I" (.int (0 : Int32))) (F_r0_position : Fld Z h0 r0 "com/example/wireform/wireform/wire/WireReader" "position" "I" (.int (0 : Int32))) (g_r0 : n0 ≤ r0) :
    MetFree l (⟨"com/example/wireform/wireform/wire/WireReader", "<init>", "([BILcom/example/wireform/wireform/wire/Nesting;)V"⟩ : MethodName) (head1 (Jvm.Cond.code (⟨"com/example/wireform/wireform/wire/WireReader", "<init>", "([BILcom/example/wireform/wireform/wire/Nesting;)V"⟩ : MethodName) prog_71_method_3_code 4 none :: ws) ({ frames := 1, cells := 0, slots := 0, locals := 12 } : Room)) (fun a U => a = #[(.ref r0), (.ref r1), (.int p2), (.ref r3)] ∧ Z.Warmed39 U.vm ∧ U.heap = h0) (fun _ _ _ _ _ => True) (fun _ U o U' => ∃ v L, o = .returned v ∧ own_Q3 Z r0 r1 p2 r3 h0 n0 v U'.heap L ∧ FrameEnd U o U' L ({ frames := 1, cells := 0, slots := 0, locals := 12 } : Room).cells ({ frames := 1, cells := 0, slots := 0, locals := 12 } : Room).slots) := by
  refine MetFree.of_bodySF (plainFor_of_name own_pn2) hisR ?_
  intro p e s m args below meth c s₁ Bd hml0 hP hK
  obtain ⟨rfl, hZ, hh⟩ := hP
  have hx := Bd.exec
  have hby := Bd.bytes
  have hml : c.maxLocals = 4 := hml0
  have hown : s.vm.findClass "com/example/wireform/wireform/wire/WireReader" = some m.cls := findClass_of_methodNamed Bd.named
  have hnm := (name_of_methodNamed Bd.named Bd.method).1
  have X0 : Stand p l e ({ frames := 1, cells := 0, slots := 0, locals := 12 } : Room) s m #[(.ref r0), (.ref r1), (.int p2), (.ref r3)] below meth c s₁ [] 0 0 := Stand.of_body Bd
  have e0 : s₁.heap = h0 := by rw [← hh, Bd.state]; rfl
  have N0 := Fr.nil n0
  have pre0 : ∀ t, Steps p.tables e below (s₁.setTop (mkF m 0 #[.val (.ref r0), .val (.ref r1), .val (.int p2), .val (.ref r3)] [])) t → Steps p.tables e below (s₁.setTop (entryFrame m #[(.ref r0), (.ref r1), (.int p2), (.ref r3)] 4)) t := fun t k => castTop (own_ef3 m r0 r1 p2 r3) k
  refine own_run (own_st pre0 ?_)
  refine own_st (B := s₁.setTop (mkF m 1 #[.val (.ref r0), .val (.ref r1), .val (.int p2), .val (.ref r3)] [(.ref r0)])) (fun target kt => ?_) ?_
  · show Steps p.tables e below (s₁.setTop (mkF m 0 #[.val (.ref r0), .val (.ref r1), .val (.int p2), .val (.ref r3)] [])) target
    refine XS.aloadN X0.here hx rfl (hb hby own_d3_0) rfl rfl ?_
    exact kt
  obtain ⟨Tg1, Xg1, eg1, stg1⟩ := initO X0 hx hZ hown (hw _ (List.mem_of_getElem? (i := 19) rfl)) (hw _ (List.mem_of_getElem? (i := 12) rfl)) (hw _ (List.mem_of_getElem? (i := 13) rfl)) e0 (g := (mkF m 1 #[.val (.ref r0), .val (.ref r1), .val (.int p2), .val (.ref r3)] [(.ref r0)])) rfl (by rw [hml]; rfl) rfl (hb hby own_d3_1) (by decide) (W := 0) (by show 2 * 0 + _ ≤ _; exact Nat.le_of_eq rfl) (by decide)
  refine own_st stg1 ?_
  refine own_st (B := Tg1.setTop (mkF m 6 #[.val (.ref r0), .val (.ref r1), .val (.int p2), .val (.ref r3)] [(.ref r1), (.ref r0)])) (fun target kt => ?_) ?_
  · show Steps p.tables e below (Tg1.setTop (mkF m 4 #[.val (.ref r0), .val (.ref r1), .val (.int p2), .val (.ref r3)] [])) target
    refine XS.aloadN Xg1.here hx rfl (hb hby own_d3_4) rfl rfl ?_
    show Steps p.tables e below (Tg1.setTop (mkF m 5 #[.val (.ref r0), .val (.ref r1), .val (.int p2), .val (.ref r3)] [(.ref r0)])) target
    refine XS.aloadN Xg1.here hx rfl (hb hby own_d3_5) rfl rfl ?_
    exact kt
  obtain ⟨Tg6, hg6, Xg6, eg6, Wg6, stg6⟩ := putF Xg1 hx hZ hown (host := "") (Or.inl (hw _ (List.mem_of_getElem? (i := 20) rfl))) Via.refl eg1 F_r0_bytes E_r0 (Or.inr ⟨(hw _ (List.mem_of_getElem? (i := 21) rfl)), rfl, hnm⟩) (hw _ (List.mem_of_getElem? (i := 3) rfl)) (ty := (.array .byte)) (by decide) rfl rfl (g := (mkF m 6 #[.val (.ref r0), .val (.ref r1), .val (.int p2), .val (.ref r3)] [(.ref r1), (.ref r0)])) rfl rfl (hb hby own_d3_6)
  refine own_st stg6 ?_
  have Ng6 := Fr.snoc Xg6 N0 g_r0
  have F := E_r0.wr Wg6
  have F_1 := F_r0_bytes.same Wg6
  have F_2 := F_r0_end.other Wg6 (Or.inr (slot_ne (Or.inr (hw _ (List.mem_of_getElem? (i := 23) rfl))) (Or.inr (hw _ (List.mem_of_getElem? (i := 21) rfl))) (by decide) (t := .int) (t' := (.array .byte)) (by decide) (by decide)))
  have F_3 := F_r0_nesting.other Wg6 (Or.inr (slot_ne (Or.inr (hw _ (List.mem_of_getElem? (i := 25) rfl))) (Or.inr (hw _ (List.mem_of_getElem? (i := 21) rfl))) (by decide) (t := (.object "com/example/wireform/wireform/wire/Nesting")) (t' := (.array .byte)) (by decide) (by decide)))
  have F_4 := F_r0_limit.other Wg6 (Or.inr (slot_ne (Or.inl (hw _ (List.mem_of_getElem? (i := 27) rfl))) (Or.inr (hw _ (List.mem_of_getElem? (i := 21) rfl))) (by decide) (t := .int) (t' := (.array .byte)) (by decide) (by decide)))
  have F_5 := F_r0_position.other Wg6 (Or.inr (slot_ne (Or.inl (hw _ (List.mem_of_getElem? (i := 34) rfl))) (Or.inr (hw _ (List.mem_of_getElem? (i := 21) rfl))) (by decide) (t := .int) (t' := (.array .byte)) (by decide) (by decide)))
  have Zz : n0 ≤ hg6.size := Nat.le_trans Z0 (Keep.of_wr Wg6).1
  have Kc := (Keep.refl h0 [r0]).wr Wg6 (Or.inl (List.mem_of_getElem? (i := 0) rfl))
  refine own_st (B := Tg6.setTop (mkF m 11 #[.val (.ref r0), .val (.ref r1), .val (.int p2), .val (.ref r3)] [(.int p2), (.ref r0)])) (fun target kt => ?_) ?_
  · show Steps p.tables e below (Tg6.setTop (mkF m 9 #[.val (.ref r0), .val (.ref r1), .val (.int p2), .val (.ref r3)] [])) target
    refine XS.aloadN Xg6.here hx rfl (hb hby own_d3_9) rfl rfl ?_
    show Steps p.tables e below (Tg6.setTop (mkF m 10 #[.val (.ref r0), .val (.ref r1), .val (.int p2), .val (.ref r3)] [(.ref r0)])) target
    refine XS.iloadN Xg6.here hx rfl (hb hby own_d3_10) rfl ?_
    exact kt
  obtain ⟨Tg11, hg11, Xg11, eg11, Wg11, stg11⟩ := putF Xg6 hx hZ hown (host := "") (Or.inl (hw _ (List.mem_of_getElem? (i := 22) rfl))) Via.refl eg6 F_2 F (Or.inr ⟨(hw _ (List.mem_of_getElem? (i := 23) rfl)), rfl, hnm⟩) (hw _ (List.mem_of_getElem? (i := 3) rfl)) (ty := .int) (by decide) rfl rfl (g := (mkF m 11 #[.val (.ref r0), .val (.ref r1), .val (.int p2), .val (.ref r3)] [(.int p2), (.ref r0)])) rfl rfl (hb hby own_d3_11)
  refine own_st stg11 ?_
  have Ng11 := Fr.snoc Xg11 Ng6 g_r0
  have F_6 := F.wr Wg11
  have F_7 := F_1.other Wg11 (Or.inr (slot_ne (Or.inr (hw _ (List.mem_of_getElem? (i := 21) rfl))) (Or.inr (hw _ (List.mem_of_getElem? (i := 23) rfl))) (by decide) (t := (.array .byte)) (t' := .int) (by decide) (by decide)))
  have F_8 := F_2.same Wg11
  have F_9 := F_3.other Wg11 (Or.inr (slot_ne (Or.inr (hw _ (List.mem_of_getElem? (i := 25) rfl))) (Or.inr (hw _ (List.mem_of_getElem? (i := 23) rfl))) (by decide) (t := (.object "com/example/wireform/wireform/wire/Nesting")) (t' := .int) (by decide) (by decide)))
  have F_10 := F_4.other Wg11 (Or.inr (slot_ne (Or.inl (hw _ (List.mem_of_getElem? (i := 27) rfl))) (Or.inr (hw _ (List.mem_of_getElem? (i := 23) rfl))) (by decide) (t := .int) (t' := .int) (by decide) (by decide)))
  have F_11 := F_5.other Wg11 (Or.inr (slot_ne (Or.inl (hw _ (List.mem_of_getElem? (i := 34) rfl))) (Or.inr (hw _ (List.mem_of_getElem? (i := 23) rfl))) (by decide) (t := .int) (t' := .int) (by decide) (by decide)))
  have Zz_1 : n0 ≤ hg11.size := Nat.le_trans Zz (Keep.of_wr Wg11).1
  have Kc_1 := Kc.wr Wg11 (Or.inl (List.mem_of_getElem? (i := 0) rfl))
  refine own_st (B := Tg11.setTop (mkF m 16 #[.val (.ref r0), .val (.ref r1), .val (.int p2), .val (.ref r3)] [(.ref r3), (.ref r0)])) (fun target kt => ?_) ?_
  · show Steps p.tables e below (Tg11.setTop (mkF m 14 #[.val (.ref r0), .val (.ref r1), .val (.int p2), .val (.ref r3)] [])) target
    refine XS.aloadN Xg11.here hx rfl (hb hby own_d3_14) rfl rfl ?_
    show Steps p.tables e below (Tg11.setTop (mkF m 15 #[.val (.ref r0), .val (.ref r1), .val (.int p2), .val (.ref r3)] [(.ref r0)])) target
    refine XS.aloadN Xg11.here hx rfl (hb hby own_d3_15) rfl rfl ?_
    exact kt
  obtain ⟨Tg16, hg16, Xg16, eg16, Wg16, stg16⟩ := putF Xg11 hx hZ hown (host := "") (Or.inl (hw _ (List.mem_of_getElem? (i := 24) rfl))) Via.refl eg11 F_9 F_6 (Or.inr ⟨(hw _ (List.mem_of_getElem? (i := 25) rfl)), rfl, hnm⟩) (hw _ (List.mem_of_getElem? (i := 3) rfl)) (ty := (.object "com/example/wireform/wireform/wire/Nesting")) (by decide) rfl rfl (g := (mkF m 16 #[.val (.ref r0), .val (.ref r1), .val (.int p2), .val (.ref r3)] [(.ref r3), (.ref r0)])) rfl rfl (hb hby own_d3_16)
  refine own_st stg16 ?_
  have Ng16 := Fr.snoc Xg16 Ng11 g_r0
  have F_12 := F_6.wr Wg16
  have F_13 := F_7.other Wg16 (Or.inr (slot_ne (Or.inr (hw _ (List.mem_of_getElem? (i := 21) rfl))) (Or.inr (hw _ (List.mem_of_getElem? (i := 25) rfl))) (by decide) (t := (.array .byte)) (t' := (.object "com/example/wireform/wireform/wire/Nesting")) (by decide) (by decide)))
  have F_14 := F_8.other Wg16 (Or.inr (slot_ne (Or.inr (hw _ (List.mem_of_getElem? (i := 23) rfl))) (Or.inr (hw _ (List.mem_of_getElem? (i := 25) rfl))) (by decide) (t := .int) (t' := (.object "com/example/wireform/wireform/wire/Nesting")) (by decide) (by decide)))
  have F_15 := F_9.same Wg16
  have F_16 := F_10.other Wg16 (Or.inr (slot_ne (Or.inl (hw _ (List.mem_of_getElem? (i := 27) rfl))) (Or.inr (hw _ (List.mem_of_getElem? (i := 25) rfl))) (by decide) (t := .int) (t' := (.object "com/example/wireform/wireform/wire/Nesting")) (by decide) (by decide)))
  have F_17 := F_11.other Wg16 (Or.inr (slot_ne (Or.inl (hw _ (List.mem_of_getElem? (i := 34) rfl))) (Or.inr (hw _ (List.mem_of_getElem? (i := 25) rfl))) (by decide) (t := .int) (t' := (.object "com/example/wireform/wireform/wire/Nesting")) (by decide) (by decide)))
  have Zz_2 : n0 ≤ hg16.size := Nat.le_trans Zz_1 (Keep.of_wr Wg16).1
  have Kc_2 := Kc_1.wr Wg16 (Or.inl (List.mem_of_getElem? (i := 0) rfl))
  refine own_st (B := Tg16.setTop (mkF m 21 #[.val (.ref r0), .val (.ref r1), .val (.int p2), .val (.ref r3)] [(.int p2), (.ref r0)])) (fun target kt => ?_) ?_
  · show Steps p.tables e below (Tg16.setTop (mkF m 19 #[.val (.ref r0), .val (.ref r1), .val (.int p2), .val (.ref r3)] [])) target
    refine XS.aloadN Xg16.here hx rfl (hb hby own_d3_19) rfl rfl ?_
    show Steps p.tables e below (Tg16.setTop (mkF m 20 #[.val (.ref r0), .val (.ref r1), .val (.int p2), .val (.ref r3)] [(.ref r0)])) target
    refine XS.iloadN Xg16.here hx rfl (hb hby own_d3_20) rfl ?_
    exact kt
  obtain ⟨Tg21, hg21, Xg21, eg21, Wg21, stg21⟩ := putF Xg16 hx hZ hown (host := "") (Or.inl (hw _ (List.mem_of_getElem? (i := 26) rfl))) Via.refl eg16 F_16 F_12 (Or.inl (hw _ (List.mem_of_getElem? (i := 27) rfl))) (hw _ (List.mem_of_getElem? (i := 3) rfl)) (ty := .int) (by decide) rfl rfl (g := (mkF m 21 #[.val (.ref r0), .val (.ref r1), .val (.int p2), .val (.ref r3)] [(.int p2), (.ref r0)])) rfl rfl (hb hby own_d3_21)
  refine own_st stg21 ?_
  have Ng21 := Fr.snoc Xg21 Ng16 g_r0
  have F_18 := F_12.wr Wg21
  have F_19 := F_13.other Wg21 (Or.inr (slot_ne (Or.inr (hw _ (List.mem_of_getElem? (i := 21) rfl))) (Or.inl (hw _ (List.mem_of_getElem? (i := 27) rfl))) (by decide) (t := (.array .byte)) (t' := .int) (by decide) (by decide)))
  have F_20 := F_14.other Wg21 (Or.inr (slot_ne (Or.inr (hw _ (List.mem_of_getElem? (i := 23) rfl))) (Or.inl (hw _ (List.mem_of_getElem? (i := 27) rfl))) (by decide) (t := .int) (t' := .int) (by decide) (by decide)))
  have F_21 := F_15.other Wg21 (Or.inr (slot_ne (Or.inr (hw _ (List.mem_of_getElem? (i := 25) rfl))) (Or.inl (hw _ (List.mem_of_getElem? (i := 27) rfl))) (by decide) (t := (.object "com/example/wireform/wireform/wire/Nesting")) (t' := .int) (by decide) (by decide)))
  have F_22 := F_16.same Wg21
  have F_23 := F_17.other Wg21 (Or.inr (slot_ne (Or.inl (hw _ (List.mem_of_getElem? (i := 34) rfl))) (Or.inl (hw _ (List.mem_of_getElem? (i := 27) rfl))) (by decide) (t := .int) (t' := .int) (by decide) (by decide)))
  have Zz_3 : n0 ≤ hg21.size := Nat.le_trans Zz_2 (Keep.of_wr Wg21).1
  have Kc_3 := Kc_2.wr Wg21 (Or.inl (List.mem_of_getElem? (i := 0) rfl))
  obtain ⟨fs, hr, hrun, hended, hW, hsame⟩ := Xg21.leave (v := none) (fun _ => rfl)
  have hend : Steps p.tables e below (Tg21.setTop (mkF m 24 #[.val (.ref r0), .val (.ref r1), .val (.int p2), .val (.ref r3)] [])) (Tg21.setFrames fs) := by
    exact Xg21.returnOut hx Bd.returns (hb hby own_d3_24) hr
  refine own_fin hend ⟨_, hrun, hended, _, _, rfl, ?_, ⟨_, rfl⟩, hW, hsame.mono (by decide) (by decide)⟩
  show own_Q3 Z r0 r1 p2 r3 h0 n0 _ Tg21.heap _
  rw [eg21]
  exact ⟨rfl, Ng21, Kc_3, F_18, F_19, F_20, F_21, F_22, F_23⟩
theorem own_d4_0 : decode prog_71_method_4_code 0 = .ok (.aload_n 0, 1) := by decide +kernel
theorem own_d4_1 : decode prog_71_method_4_code 1 = .ok (.getfield 43, 3) := by decide +kernel
theorem own_d4_4 : decode prog_71_method_4_code 4 = .ok (.aload_n 0, 1) := by decide +kernel
theorem own_d4_5 : decode prog_71_method_4_code 5 = .ok (.getfield 40, 3) := by decide +kernel
theorem own_d4_8 : decode prog_71_method_4_code 8 = .ok (.if_icmp .ne 7, 3) := by decide +kernel
theorem own_d4_11 : decode prog_71_method_4_code 11 = .ok (.iconst 1, 1) := by decide +kernel
theorem own_d4_12 : decode prog_71_method_4_code 12 = .ok (.goto 4, 3) := by decide +kernel
theorem own_d4_15 : decode prog_71_method_4_code 15 = .ok (.iconst 0, 1) := by decide +kernel
theorem own_d4_16 : decode prog_71_method_4_code 16 = .ok (.ireturn, 1) := by decide +kernel
theorem own_ef4 (m : MethodId) (r0 : Addr) : entryFrame m #[(.ref r0)] 1 = mkF m 0 #[.val (.ref r0)] [] := by first | (simp [entryFrame, mkF, argsToLocals, Value.category]; done) | rfl
def own_Q4 (Z : State) (r0 : Addr) (w_m : Int32) (w_p : Int32) (h0 : Heap) (n0 : Nat) (v : Option Value) (h : Heap) (L : List Loc) : Prop := (v = some (.int (own_b (w_p = w_m)))) ∧ (Fr n0 L) ∧ (h = h0)
set_option maxRecDepth 65536 in
set_option maxHeartbeats 40000000 in
theorem own_rm4 (l : Launch) (Z : State) (a0 : Array Value) (hw : ∀ d ∈ tables_1, d.before a0 Z = true) (ws : List Jvm.Cond) (r0 : Addr) (w_m : Int32) (w_p : Int32) (h0 : Heap) (n0 : Nat) (Z0 : n0 ≤ h0.size) (F_r0_limit : Fld Z h0 r0 "com/example/wireform/wireform/wire/WireReader" "limit" "I" (.int w_m)) (F_r0_position : Fld Z h0 r0 "com/example/wireform/wireform/wire/WireReader" "position" "I" (.int w_p)) :
    MetFree l (⟨"com/example/wireform/wireform/wire/WireReader", "isAtEnd", "()Z"⟩ : MethodName) (head1 (Jvm.Cond.code (⟨"com/example/wireform/wireform/wire/WireReader", "isAtEnd", "()Z"⟩ : MethodName) prog_71_method_4_code 1 (some .boolean) :: ws) ({ frames := 0, cells := 0, slots := 0, locals := 0 } : Room)) (fun a U => a = #[(.ref r0)] ∧ Z.Warmed39 U.vm ∧ U.heap = h0) (fun _ _ _ _ _ => True) (fun _ U o U' => ∃ v L, o = .returned v ∧ own_Q4 Z r0 w_m w_p h0 n0 v U'.heap L ∧ FrameEnd U o U' L ({ frames := 0, cells := 0, slots := 0, locals := 0 } : Room).cells ({ frames := 0, cells := 0, slots := 0, locals := 0 } : Room).slots) := by
  refine MetFree.of_bodySF (plainFor_of_name own_pn2) hisR ?_
  intro p e s m args below meth c s₁ Bd hml0 hP hK
  obtain ⟨rfl, hZ, hh⟩ := hP
  have hx := Bd.exec
  have hby := Bd.bytes
  have hml : c.maxLocals = 1 := hml0
  have hown : s.vm.findClass "com/example/wireform/wireform/wire/WireReader" = some m.cls := findClass_of_methodNamed Bd.named
  have hnm := (name_of_methodNamed Bd.named Bd.method).1
  have X0 : Stand p l e ({ frames := 0, cells := 0, slots := 0, locals := 0 } : Room) s m #[(.ref r0)] below meth c s₁ [] 0 0 := Stand.of_body Bd
  have e0 : s₁.heap = h0 := by rw [← hh, Bd.state]; rfl
  have N0 := Fr.nil n0
  have pre0 : ∀ t, Steps p.tables e below (s₁.setTop (mkF m 0 #[.val (.ref r0)] [])) t → Steps p.tables e below (s₁.setTop (entryFrame m #[(.ref r0)] 1)) t := fun t k => castTop (own_ef4 m r0) k
  refine own_run (own_st pre0 ?_)
  refine own_st (B := s₁.setTop (mkF m 1 #[.val (.ref r0)] [(.ref r0)])) (fun target kt => ?_) ?_
  · show Steps p.tables e below (s₁.setTop (mkF m 0 #[.val (.ref r0)] [])) target
    refine XS.aloadN X0.here hx rfl (hb hby own_d4_0) rfl rfl ?_
    exact kt
  obtain ⟨Tg1, Xg1, eg1, stg1⟩ := getF X0 hx hZ hown (host := "") (Or.inl (hw _ (List.mem_of_getElem? (i := 33) rfl))) Via.refl e0 F_r0_position (g := (mkF m 1 #[.val (.ref r0)] [(.ref r0)])) rfl rfl (hb hby own_d4_1)
  refine own_st stg1 ?_
  refine own_st (B := Tg1.setTop (mkF m 5 #[.val (.ref r0)] [(.ref r0), (.int w_p)])) (fun target kt => ?_) ?_
  · show Steps p.tables e below (Tg1.setTop (mkF m 4 #[.val (.ref r0)] [(.int w_p)])) target
    refine XS.aloadN Xg1.here hx rfl (hb hby own_d4_4) rfl rfl ?_
    exact kt
  obtain ⟨Tg5, Xg5, eg5, stg5⟩ := getF Xg1 hx hZ hown (host := "") (Or.inl (hw _ (List.mem_of_getElem? (i := 26) rfl))) Via.refl eg1 F_r0_limit (g := (mkF m 5 #[.val (.ref r0)] [(.ref r0), (.int w_p)])) rfl rfl (hb hby own_d4_5)
  refine own_st stg5 ?_
  obtain ⟨_, ⟨j16_s0, rfl, rfl⟩, st_M16⟩ : own_Lead p.tables e below (Tg5.setTop (mkF m 8 #[.val (.ref r0)] [(.int w_m), (.int w_p)])) (fun B => ∃ (j16_s0 : Int32), B = Tg5.setTop (mkF m 16 #[.val (.ref r0)] [(.int j16_s0)]) ∧ j16_s0 = own_b (w_p = w_m)) := by
    by_cases c8 : w_p = w_m
    · refine own_st (B := Tg5.setTop (mkF m 16 #[.val (.ref r0)] [(.int (1 : Int32))])) (fun target kt => ?_) ?_
      · show Steps p.tables e below (Tg5.setTop (mkF m 8 #[.val (.ref r0)] [(.int w_m), (.int w_p)])) target
        refine XS.icmpNo Xg5.here hx rfl (hb hby own_d4_8) rfl (teq c8).2 ?_
        show Steps p.tables e below (Tg5.setTop (mkF m 11 #[.val (.ref r0)] [])) target
        refine XS.iconst Xg5.here hx rfl (hb hby own_d4_11) ?_
        show Steps p.tables e below (Tg5.setTop (mkF m 12 #[.val (.ref r0)] [(.int (1 : Int32))])) target
        refine XS.goto Xg5.here hx rfl (pc0 := 12) (pc' := 16) rfl (hb hby own_d4_12) (by decide) (by decide) ?_
        exact kt
      exact ⟨_, ⟨(1 : Int32), rfl, (own_b1 c8).symm⟩, fun _ k => k⟩
    · refine own_st (B := Tg5.setTop (mkF m 16 #[.val (.ref r0)] [(.int (0 : Int32))])) (fun target kt => ?_) ?_
      · show Steps p.tables e below (Tg5.setTop (mkF m 8 #[.val (.ref r0)] [(.int w_m), (.int w_p)])) target
        refine XS.icmpYes Xg5.here hx rfl (pc0 := 8) (pc' := 15) rfl (hb hby own_d4_8) rfl (feq c8).2 (by decide) (by decide) ?_
        show Steps p.tables e below (Tg5.setTop (mkF m 15 #[.val (.ref r0)] [])) target
        refine XS.iconst Xg5.here hx rfl (hb hby own_d4_15) ?_
        exact kt
      exact ⟨_, ⟨(0 : Int32), rfl, (own_b0 c8).symm⟩, fun _ k => k⟩
  refine own_st st_M16 ?_
  obtain ⟨fs, hr, hrun, hended, hW, hsame⟩ := Xg5.leave (v := some (.int (nar .boolean (own_b (w_p = w_m))))) (fun h => by rw [Bd.returns] at h; cases h)
  have hend : Steps p.tables e below (Tg5.setTop (mkF m 16 #[.val (.ref r0)] [(.int (own_b (w_p = w_m)))])) (Tg5.setFrames fs) := by
    exact retN Xg5 hx (t := .boolean) Bd.returns (by simp) (hb hby own_d4_16) hr
  refine own_fin hend ⟨_, hrun, hended, _, _, rfl, ?_, ⟨_, rfl⟩, hW, hsame.mono (by decide) (by decide)⟩
  show own_Q4 Z r0 w_m w_p h0 n0 _ Tg5.heap _
  rw [eg5]
  exact ⟨(congrArg (fun z => some (Value.int z)) ((own_nar rfl).trans (own_bi ⟨fun w => w, fun w => w⟩))), N0, rfl⟩
theorem own_d7_0 : decode prog_71_method_5_code 0 = .ok (.aload_n 0, 1) := by decide +kernel
theorem own_d7_1 : decode prog_71_method_5_code 1 = .ok (.getfield 43, 3) := by decide +kernel
theorem own_d7_4 : decode prog_71_method_5_code 4 = .ok (.istore_n 1, 1) := by decide +kernel
theorem own_d7_5 : decode prog_71_method_5_code 5 = .ok (.lconst 0, 1) := by decide +kernel
theorem own_d7_6 : decode prog_71_method_5_code 6 = .ok (.lstore_n 2, 1) := by decide +kernel
theorem own_d7_7 : decode prog_71_method_5_code 7 = .ok (.iconst 0, 1) := by decide +kernel
theorem own_d7_8 : decode prog_71_method_5_code 8 = .ok (.istore 4, 2) := by decide +kernel
theorem own_d7_10 : decode prog_71_method_5_code 10 = .ok (.iload 4, 2) := by decide +kernel
theorem own_d7_12 : decode prog_71_method_5_code 12 = .ok (.bipush 10, 2) := by decide +kernel
theorem own_d7_14 : decode prog_71_method_5_code 14 = .ok (.if_icmp .ge 95, 3) := by decide +kernel
theorem own_d7_17 : decode prog_71_method_5_code 17 = .ok (.aload_n 0, 1) := by decide +kernel
theorem own_d7_18 : decode prog_71_method_5_code 18 = .ok (.getfield 43, 3) := by decide +kernel
theorem own_d7_21 : decode prog_71_method_5_code 21 = .ok (.aload_n 0, 1) := by decide +kernel
theorem own_d7_22 : decode prog_71_method_5_code 22 = .ok (.getfield 40, 3) := by decide +kernel
theorem own_d7_25 : decode prog_71_method_5_code 25 = .ok (.if_icmp .ne 11, 3) := by decide +kernel
theorem own_d7_36 : decode prog_71_method_5_code 36 = .ok (.aload_n 0, 1) := by decide +kernel
theorem own_d7_37 : decode prog_71_method_5_code 37 = .ok (.getfield 30, 3) := by decide +kernel
theorem own_d7_40 : decode prog_71_method_5_code 40 = .ok (.aload_n 0, 1) := by decide +kernel
theorem own_d7_41 : decode prog_71_method_5_code 41 = .ok (.dup, 1) := by decide +kernel
theorem own_d7_42 : decode prog_71_method_5_code 42 = .ok (.getfield 43, 3) := by decide +kernel
theorem own_d7_45 : decode prog_71_method_5_code 45 = .ok (.dup_x1, 1) := by decide +kernel
theorem own_d7_46 : decode prog_71_method_5_code 46 = .ok (.iconst 1, 1) := by decide +kernel
theorem own_d7_47 : decode prog_71_method_5_code 47 = .ok (.iadd, 1) := by decide +kernel
theorem own_d7_48 : decode prog_71_method_5_code 48 = .ok (.putfield 43, 3) := by decide +kernel
theorem own_d7_51 : decode prog_71_method_5_code 51 = .ok (.baload, 1) := by decide +kernel
theorem own_d7_52 : decode prog_71_method_5_code 52 = .ok (.istore 5, 2) := by decide +kernel
theorem own_d7_54 : decode prog_71_method_5_code 54 = .ok (.lload_n 2, 1) := by decide +kernel
theorem own_d7_55 : decode prog_71_method_5_code 55 = .ok (.iload 5, 2) := by decide +kernel
theorem own_d7_57 : decode prog_71_method_5_code 57 = .ok (.bipush 127, 2) := by decide +kernel
theorem own_d7_59 : decode prog_71_method_5_code 59 = .ok (.iand, 1) := by decide +kernel
theorem own_d7_60 : decode prog_71_method_5_code 60 = .ok (.i2l, 1) := by decide +kernel
theorem own_d7_61 : decode prog_71_method_5_code 61 = .ok (.bipush 7, 2) := by decide +kernel
theorem own_d7_63 : decode prog_71_method_5_code 63 = .ok (.iload 4, 2) := by decide +kernel
theorem own_d7_65 : decode prog_71_method_5_code 65 = .ok (.imul, 1) := by decide +kernel
theorem own_d7_66 : decode prog_71_method_5_code 66 = .ok (.lshl, 1) := by decide +kernel
theorem own_d7_67 : decode prog_71_method_5_code 67 = .ok (.lor, 1) := by decide +kernel
theorem own_d7_68 : decode prog_71_method_5_code 68 = .ok (.lstore_n 2, 1) := by decide +kernel
theorem own_d7_69 : decode prog_71_method_5_code 69 = .ok (.iload 5, 2) := by decide +kernel
theorem own_d7_71 : decode prog_71_method_5_code 71 = .ok (.ifCond .lt 32, 3) := by decide +kernel
theorem own_d7_74 : decode prog_71_method_5_code 74 = .ok (.iload 4, 2) := by decide +kernel
theorem own_d7_76 : decode prog_71_method_5_code 76 = .ok (.bipush 9, 2) := by decide +kernel
theorem own_d7_78 : decode prog_71_method_5_code 78 = .ok (.if_icmp .ne 23, 3) := by decide +kernel
theorem own_d7_101 : decode prog_71_method_5_code 101 = .ok (.lload_n 2, 1) := by decide +kernel
theorem own_d7_102 : decode prog_71_method_5_code 102 = .ok (.lreturn, 1) := by decide +kernel
theorem own_ef7 (m : MethodId) (r0 : Addr) : entryFrame m #[(.ref r0)] 6 = mkF m 0 #[.val (.ref r0), .unset, .unset, .unset, .unset, .unset] [] := by first | (simp [entryFrame, mkF, argsToLocals, Value.category]; done) | rfl
def own_Q7 (Z : State) (r0 : Addr) (b_b : Addr) (w_e : Int32) (b_n : Addr) (w_m : Int32) (w_p : Int32) (g_b : Nat → Int32) (h0 : Heap) (n0 : Nat) (v : Option Value) (h : Heap) (L : List Loc) : Prop := (v = some (.long ((g_b (w_p).toNatClampNeg).toInt64))) ∧ (Fr n0 L) ∧ (Keep h0 h [r0]) ∧ (Exa Z h r0 "com/example/wireform/wireform/wire/WireReader") ∧ (Fld Z h r0 "com/example/wireform/wireform/wire/WireReader" "bytes" "[B" (.ref b_b)) ∧ (Fld Z h r0 "com/example/wireform/wireform/wire/WireReader" "end" "I" (.int w_e)) ∧ (Fld Z h r0 "com/example/wireform/wireform/wire/WireReader" "nesting" "Lcom/example/wireform/wireform/wire/Nesting;" (.ref b_n)) ∧ (Fld Z h r0 "com/example/wireform/wireform/wire/WireReader" "limit" "I" (.int w_m)) ∧ (Fld Z h r0 "com/example/wireform/wireform/wire/WireReader" "position" "I" (.int ((w_p + (1 : Int32)))))
set_option maxRecDepth 65536 in
set_option maxHeartbeats 40000000 in
theorem own_rm7 (l : Launch) (Z : State) (a0 : Array Value) (hw : ∀ d ∈ tables_1, d.before a0 Z = true) (ws : List Jvm.Cond) (r0 : Addr) (b_b : Addr) (w_e : Int32) (b_n : Addr) (w_m : Int32) (w_p : Int32) (g_b : Nat → Int32) (h0 : Heap) (n0 : Nat) (Z0 : n0 ≤ h0.size) (E_r0 : Exa Z h0 r0 "com/example/wireform/wireform/wire/WireReader") (F_r0_bytes : Fld Z h0 r0 "com/example/wireform/wireform/wire/WireReader" "bytes" "[B" (.ref b_b)) (F_r0_end : Fld Z h0 r0 "com/example/wireform/wireform/wire/WireReader" "end" "I" (.int w_e)) (F_r0_nesting : Fld Z h0 r0 "com/example/wireform/wireform/wire/WireReader" "nesting" "Lcom/example/wireform/wireform/wire/Nesting;" (.ref b_n)) (F_r0_limit : Fld Z h0 r0 "com/example/wireform/wireform/wire/WireReader" "limit" "I" (.int w_m)) (F_r0_position : Fld Z h0 r0 "com/example/wireform/wireform/wire/WireReader" "position" "I" (.int w_p)) (R_b_b : own_RayB Z h0 b_b 8 g_b) (g_r0 : n0 ≤ r0) (ne_r0_b_b : r0 ≠ b_b) (hV : own_V w_p w_m (g_b (w_p).toNatClampNeg) 8) :
    MetFree l (⟨"com/example/wireform/wireform/wire/WireReader", "readVarint", "()J"⟩ : MethodName) (head1 (Jvm.Cond.code (⟨"com/example/wireform/wireform/wire/WireReader", "readVarint", "()J"⟩ : MethodName) prog_71_method_5_code 6 (some .long) :: ws) ({ frames := 0, cells := 0, slots := 0, locals := 0 } : Room)) (fun a U => a = #[(.ref r0)] ∧ Z.Warmed39 U.vm ∧ U.heap = h0) (fun _ _ _ _ _ => True) (fun _ U o U' => ∃ v L, o = .returned v ∧ own_Q7 Z r0 b_b w_e b_n w_m w_p g_b h0 n0 v U'.heap L ∧ FrameEnd U o U' L ({ frames := 0, cells := 0, slots := 0, locals := 0 } : Room).cells ({ frames := 0, cells := 0, slots := 0, locals := 0 } : Room).slots) := by
  refine MetFree.of_bodySF (plainFor_of_name own_pn2) hisR ?_
  intro p e s m args below meth c s₁ Bd hml0 hP hK
  obtain ⟨rfl, hZ, hh⟩ := hP
  have hx := Bd.exec
  have hby := Bd.bytes
  have hml : c.maxLocals = 6 := hml0
  have hown : s.vm.findClass "com/example/wireform/wireform/wire/WireReader" = some m.cls := findClass_of_methodNamed Bd.named
  have hnm := (name_of_methodNamed Bd.named Bd.method).1
  have X0 : Stand p l e ({ frames := 0, cells := 0, slots := 0, locals := 0 } : Room) s m #[(.ref r0)] below meth c s₁ [] 0 0 := Stand.of_body Bd
  have e0 : s₁.heap = h0 := by rw [← hh, Bd.state]; rfl
  have N0 := Fr.nil n0
  have pre0 : ∀ t, Steps p.tables e below (s₁.setTop (mkF m 0 #[.val (.ref r0), .unset, .unset, .unset, .unset, .unset] [])) t → Steps p.tables e below (s₁.setTop (entryFrame m #[(.ref r0)] 6)) t := fun t k => castTop (own_ef7 m r0) k
  refine own_run (own_st pre0 ?_)
  have hF := own_Vf _ _ _ _ hV
  refine own_st (B := s₁.setTop (mkF m 1 #[.val (.ref r0), .unset, .unset, .unset, .unset, .unset] [(.ref r0)])) (fun target kt => ?_) ?_
  · show Steps p.tables e below (s₁.setTop (mkF m 0 #[.val (.ref r0), .unset, .unset, .unset, .unset, .unset] [])) target
    refine XS.aloadN X0.here hx rfl (hb hby own_d7_0) rfl rfl ?_
    exact kt
  obtain ⟨Tg1, Xg1, eg1, stg1⟩ := getF X0 hx hZ hown (host := "") (Or.inl (hw _ (List.mem_of_getElem? (i := 33) rfl))) Via.refl e0 F_r0_position (g := (mkF m 1 #[.val (.ref r0), .unset, .unset, .unset, .unset, .unset] [(.ref r0)])) rfl rfl (hb hby own_d7_1)
  refine own_st stg1 ?_
  refine own_st (B := Tg1.setTop (mkF m 18 #[.val (.ref r0), .val (.int w_p), .val (.long (0 : Int64)), .second, .val (.int (0 : Int32)), .unset] [(.ref r0)])) (fun target kt => ?_) ?_
  · show Steps p.tables e below (Tg1.setTop (mkF m 4 #[.val (.ref r0), .unset, .unset, .unset, .unset, .unset] [(.int w_p)])) target
    refine XS.istoreN Xg1.here hx rfl (hb hby own_d7_4) rfl (l' := #[.val (.ref r0), .val (.int w_p), .unset, .unset, .unset, .unset]) rfl ?_
    show Steps p.tables e below (Tg1.setTop (mkF m 5 #[.val (.ref r0), .val (.int w_p), .unset, .unset, .unset, .unset] [])) target
    refine XS.lconst Xg1.here hx rfl (hb hby own_d7_5) ?_
    show Steps p.tables e below (Tg1.setTop (mkF m 6 #[.val (.ref r0), .val (.int w_p), .unset, .unset, .unset, .unset] [(.long (0 : Int64))])) target
    refine XS.lstoreN Xg1.here hx rfl (hb hby own_d7_6) rfl (l' := #[.val (.ref r0), .val (.int w_p), .val (.long (0 : Int64)), .second, .unset, .unset]) rfl ?_
    show Steps p.tables e below (Tg1.setTop (mkF m 7 #[.val (.ref r0), .val (.int w_p), .val (.long (0 : Int64)), .second, .unset, .unset] [])) target
    refine XS.iconst Xg1.here hx rfl (hb hby own_d7_7) ?_
    show Steps p.tables e below (Tg1.setTop (mkF m 8 #[.val (.ref r0), .val (.int w_p), .val (.long (0 : Int64)), .second, .unset, .unset] [(.int (0 : Int32))])) target
    refine XS.istore Xg1.here hx rfl (hb hby own_d7_8) rfl (l' := #[.val (.ref r0), .val (.int w_p), .val (.long (0 : Int64)), .second, .val (.int (0 : Int32)), .unset]) rfl ?_
    show Steps p.tables e below (Tg1.setTop (mkF m 10 #[.val (.ref r0), .val (.int w_p), .val (.long (0 : Int64)), .second, .val (.int (0 : Int32)), .unset] [])) target
    refine XS.iload Xg1.here hx rfl (hb hby own_d7_10) rfl ?_
    show Steps p.tables e below (Tg1.setTop (mkF m 12 #[.val (.ref r0), .val (.int w_p), .val (.long (0 : Int64)), .second, .val (.int (0 : Int32)), .unset] [(.int (0 : Int32))])) target
    refine XS.bipush Xg1.here hx rfl (hb hby own_d7_12) ?_
    show Steps p.tables e below (Tg1.setTop (mkF m 14 #[.val (.ref r0), .val (.int w_p), .val (.long (0 : Int64)), .second, .val (.int (0 : Int32)), .unset] [(.int (10 : Int32)), (.int (0 : Int32))])) target
    refine XS.icmpNo Xg1.here hx rfl (hb hby own_d7_14) rfl (tlt (by decide : (0 : Int32) < (10 : Int32))).2.1 ?_
    show Steps p.tables e below (Tg1.setTop (mkF m 17 #[.val (.ref r0), .val (.int w_p), .val (.long (0 : Int64)), .second, .val (.int (0 : Int32)), .unset] [])) target
    refine XS.aloadN Xg1.here hx rfl (hb hby own_d7_17) rfl rfl ?_
    exact kt
  obtain ⟨Tg18, Xg18, eg18, stg18⟩ := getF Xg1 hx hZ hown (host := "") (Or.inl (hw _ (List.mem_of_getElem? (i := 33) rfl))) Via.refl eg1 F_r0_position (g := (mkF m 18 #[.val (.ref r0), .val (.int w_p), .val (.long (0 : Int64)), .second, .val (.int (0 : Int32)), .unset] [(.ref r0)])) rfl rfl (hb hby own_d7_18)
  refine own_st stg18 ?_
  refine own_st (B := Tg18.setTop (mkF m 22 #[.val (.ref r0), .val (.int w_p), .val (.long (0 : Int64)), .second, .val (.int (0 : Int32)), .unset] [(.ref r0), (.int w_p)])) (fun target kt => ?_) ?_
  · show Steps p.tables e below (Tg18.setTop (mkF m 21 #[.val (.ref r0), .val (.int w_p), .val (.long (0 : Int64)), .second, .val (.int (0 : Int32)), .unset] [(.int w_p)])) target
    refine XS.aloadN Xg18.here hx rfl (hb hby own_d7_21) rfl rfl ?_
    exact kt
  obtain ⟨Tg22, Xg22, eg22, stg22⟩ := getF Xg18 hx hZ hown (host := "") (Or.inl (hw _ (List.mem_of_getElem? (i := 26) rfl))) Via.refl eg18 F_r0_limit (g := (mkF m 22 #[.val (.ref r0), .val (.int w_p), .val (.long (0 : Int64)), .second, .val (.int (0 : Int32)), .unset] [(.ref r0), (.int w_p)])) rfl rfl (hb hby own_d7_22)
  refine own_st stg22 ?_
  have c25 : ¬ (w_p = w_m) := by
    exact hF.1
  refine own_st (B := Tg22.setTop (mkF m 37 #[.val (.ref r0), .val (.int w_p), .val (.long (0 : Int64)), .second, .val (.int (0 : Int32)), .unset] [(.ref r0)])) (fun target kt => ?_) ?_
  · show Steps p.tables e below (Tg22.setTop (mkF m 25 #[.val (.ref r0), .val (.int w_p), .val (.long (0 : Int64)), .second, .val (.int (0 : Int32)), .unset] [(.int w_m), (.int w_p)])) target
    refine XS.icmpYes Xg22.here hx rfl (pc0 := 25) (pc' := 36) rfl (hb hby own_d7_25) rfl (feq c25).2 (by decide) (by decide) ?_
    show Steps p.tables e below (Tg22.setTop (mkF m 36 #[.val (.ref r0), .val (.int w_p), .val (.long (0 : Int64)), .second, .val (.int (0 : Int32)), .unset] [])) target
    refine XS.aloadN Xg22.here hx rfl (hb hby own_d7_36) rfl rfl ?_
    exact kt
  obtain ⟨Tg37, Xg37, eg37, stg37⟩ := getF Xg22 hx hZ hown (host := "") (Or.inl (hw _ (List.mem_of_getElem? (i := 20) rfl))) Via.refl eg22 F_r0_bytes (g := (mkF m 37 #[.val (.ref r0), .val (.int w_p), .val (.long (0 : Int64)), .second, .val (.int (0 : Int32)), .unset] [(.ref r0)])) rfl rfl (hb hby own_d7_37)
  refine own_st stg37 ?_
  refine own_st (B := Tg37.setTop (mkF m 42 #[.val (.ref r0), .val (.int w_p), .val (.long (0 : Int64)), .second, .val (.int (0 : Int32)), .unset] [(.ref r0), (.ref r0), (.ref b_b)])) (fun target kt => ?_) ?_
  · show Steps p.tables e below (Tg37.setTop (mkF m 40 #[.val (.ref r0), .val (.int w_p), .val (.long (0 : Int64)), .second, .val (.int (0 : Int32)), .unset] [(.ref b_b)])) target
    refine XS.aloadN Xg37.here hx rfl (hb hby own_d7_40) rfl rfl ?_
    show Steps p.tables e below (Tg37.setTop (mkF m 41 #[.val (.ref r0), .val (.int w_p), .val (.long (0 : Int64)), .second, .val (.int (0 : Int32)), .unset] [(.ref r0), (.ref b_b)])) target
    refine XS.dup Xg37.here hx rfl (hb hby own_d7_41) rfl rfl ?_
    exact kt
  obtain ⟨Tg42, Xg42, eg42, stg42⟩ := getF Xg37 hx hZ hown (host := "") (Or.inl (hw _ (List.mem_of_getElem? (i := 33) rfl))) Via.refl eg37 F_r0_position (g := (mkF m 42 #[.val (.ref r0), .val (.int w_p), .val (.long (0 : Int64)), .second, .val (.int (0 : Int32)), .unset] [(.ref r0), (.ref r0), (.ref b_b)])) rfl rfl (hb hby own_d7_42)
  refine own_st stg42 ?_
  refine own_st (B := Tg42.setTop (mkF m 48 #[.val (.ref r0), .val (.int w_p), .val (.long (0 : Int64)), .second, .val (.int (0 : Int32)), .unset] [(.int (w_p + (1 : Int32))), (.ref r0), (.int w_p), (.ref b_b)])) (fun target kt => ?_) ?_
  · show Steps p.tables e below (Tg42.setTop (mkF m 45 #[.val (.ref r0), .val (.int w_p), .val (.long (0 : Int64)), .second, .val (.int (0 : Int32)), .unset] [(.int w_p), (.ref r0), (.ref b_b)])) target
    refine XS.dupX1 Xg42.here hx rfl (hb hby own_d7_45) rfl rfl rfl ?_
    show Steps p.tables e below (Tg42.setTop (mkF m 46 #[.val (.ref r0), .val (.int w_p), .val (.long (0 : Int64)), .second, .val (.int (0 : Int32)), .unset] [(.int w_p), (.ref r0), (.int w_p), (.ref b_b)])) target
    refine XS.iconst Xg42.here hx rfl (hb hby own_d7_46) ?_
    show Steps p.tables e below (Tg42.setTop (mkF m 47 #[.val (.ref r0), .val (.int w_p), .val (.long (0 : Int64)), .second, .val (.int (0 : Int32)), .unset] [(.int (1 : Int32)), (.int w_p), (.ref r0), (.int w_p), (.ref b_b)])) target
    refine XS.iadd Xg42.here hx rfl (hb hby own_d7_47) rfl ?_
    exact kt
  obtain ⟨Tg48, hg48, Xg48, eg48, Wg48, stg48⟩ := putF Xg42 hx hZ hown (host := "") (Or.inl (hw _ (List.mem_of_getElem? (i := 33) rfl))) Via.refl eg42 F_r0_position E_r0 (Or.inl (hw _ (List.mem_of_getElem? (i := 34) rfl))) (hw _ (List.mem_of_getElem? (i := 3) rfl)) (ty := .int) (by decide) rfl rfl (g := (mkF m 48 #[.val (.ref r0), .val (.int w_p), .val (.long (0 : Int64)), .second, .val (.int (0 : Int32)), .unset] [(.int (w_p + (1 : Int32))), (.ref r0), (.int w_p), (.ref b_b)])) rfl rfl (hb hby own_d7_48)
  refine own_st stg48 ?_
  have Ng48 := Fr.snoc Xg48 N0 g_r0
  have F := E_r0.wr Wg48
  have F_1 := F_r0_bytes.other Wg48 (Or.inr (slot_ne (Or.inr (hw _ (List.mem_of_getElem? (i := 21) rfl))) (Or.inl (hw _ (List.mem_of_getElem? (i := 34) rfl))) (by decide) (t := (.array .byte)) (t' := .int) (by decide) (by decide)))
  have F_2 := F_r0_end.other Wg48 (Or.inr (slot_ne (Or.inr (hw _ (List.mem_of_getElem? (i := 23) rfl))) (Or.inl (hw _ (List.mem_of_getElem? (i := 34) rfl))) (by decide) (t := .int) (t' := .int) (by decide) (by decide)))
  have F_3 := F_r0_nesting.other Wg48 (Or.inr (slot_ne (Or.inr (hw _ (List.mem_of_getElem? (i := 25) rfl))) (Or.inl (hw _ (List.mem_of_getElem? (i := 34) rfl))) (by decide) (t := (.object "com/example/wireform/wireform/wire/Nesting")) (t' := .int) (by decide) (by decide)))
  have F_4 := F_r0_limit.other Wg48 (Or.inr (slot_ne (Or.inl (hw _ (List.mem_of_getElem? (i := 27) rfl))) (Or.inl (hw _ (List.mem_of_getElem? (i := 34) rfl))) (by decide) (t := .int) (t' := .int) (by decide) (by decide)))
  have F_5 := F_r0_position.same Wg48
  have F_6 := R_b_b.other Wg48 (Ne.symm ne_r0_b_b)
  have Zz : n0 ≤ hg48.size := Nat.le_trans Z0 (Keep.of_wr Wg48).1
  have Kc := (Keep.refl h0 [r0]).wr Wg48 (Or.inl (List.mem_of_getElem? (i := 0) rfl))
  obtain ⟨v48, hv48⟩ : ∃ z : Int32, z = (w_p + (1 : Int32)) := ⟨_, rfl⟩
  have F_7 : Fld Z hg48 r0 "com/example/wireform/wireform/wire/WireReader" "position" "I" (.int v48) := by subst hv48; exact F_5
  obtain ⟨clg51, Arg51, Szg51, Atg51⟩ := id F_6
  have hing51 : ¬ (w_p < 0 ∨ clg51.slots.size ≤ (w_p).toNatClampNeg) := own_inb Szg51 hF.2.1
  have hatg51 : clg51.slots[(w_p).toNatClampNeg]? = some (.int (g_b (w_p).toNatClampNeg)) := own_RayB_nth Atg51 Szg51 hing51
  refine own_st (B := Tg48.setTop (mkF m 52 #[.val (.ref r0), .val (.int w_p), .val (.long (0 : Int64)), .second, .val (.int (0 : Int32)), .unset] [(.int (g_b (w_p).toNatClampNeg))])) (fun target kt => ?_) ?_
  · refine Xg48.baloadBytes hx (j := w_p) (v := (.int (g_b (w_p).toNatClampNeg))) (by first | exact Arg51.1 | (rw [eg48]; exact Arg51.1)) (State.isArrayOf_alike hZ.alike Arg51.2.1) Arg51.2.2 hing51 hatg51 (g := (mkF m 51 #[.val (.ref r0), .val (.int w_p), .val (.long (0 : Int64)), .second, .val (.int (0 : Int32)), .unset] [(.int w_p), (.ref b_b)])) rfl rfl (hb hby own_d7_51) _ ?_
    exact kt
  obtain ⟨v52, hv52⟩ : ∃ z : Int32, z = (g_b (w_p).toNatClampNeg) := ⟨_, rfl⟩
  obtain ⟨v68, hv68⟩ : ∃ z : Int64, z = ((0 : Int64) ||| (((v52 &&& (127 : Int32)).toInt64) <<< ((0 : Int32) &&& 0x3f).toInt64)) := ⟨_, rfl⟩
  refine own_st (B := Tg48.setTop (mkF m 71 #[.val (.ref r0), .val (.int w_p), .val (.long v68), .second, .val (.int (0 : Int32)), .val (.int v52)] [(.int v52)])) (fun target kt => ?_) ?_
  · show Steps p.tables e below (Tg48.setTop (mkF m 52 #[.val (.ref r0), .val (.int w_p), .val (.long (0 : Int64)), .second, .val (.int (0 : Int32)), .unset] [(.int (g_b (w_p).toNatClampNeg))])) target
    refine XS.istore Xg48.here hx rfl (hb hby own_d7_52) rfl (l' := #[.val (.ref r0), .val (.int w_p), .val (.long (0 : Int64)), .second, .val (.int (0 : Int32)), .val (.int v52)]) (by subst hv52; rfl) ?_
    show Steps p.tables e below (Tg48.setTop (mkF m 54 #[.val (.ref r0), .val (.int w_p), .val (.long (0 : Int64)), .second, .val (.int (0 : Int32)), .val (.int v52)] [])) target
    refine XS.lloadN Xg48.here hx rfl (hb hby own_d7_54) rfl ?_
    show Steps p.tables e below (Tg48.setTop (mkF m 55 #[.val (.ref r0), .val (.int w_p), .val (.long (0 : Int64)), .second, .val (.int (0 : Int32)), .val (.int v52)] [(.long (0 : Int64))])) target
    refine XS.iload Xg48.here hx rfl (hb hby own_d7_55) rfl ?_
    show Steps p.tables e below (Tg48.setTop (mkF m 57 #[.val (.ref r0), .val (.int w_p), .val (.long (0 : Int64)), .second, .val (.int (0 : Int32)), .val (.int v52)] [(.int v52), (.long (0 : Int64))])) target
    refine XS.bipush Xg48.here hx rfl (hb hby own_d7_57) ?_
    show Steps p.tables e below (Tg48.setTop (mkF m 59 #[.val (.ref r0), .val (.int w_p), .val (.long (0 : Int64)), .second, .val (.int (0 : Int32)), .val (.int v52)] [(.int (127 : Int32)), (.int v52), (.long (0 : Int64))])) target
    refine XS.iand Xg48.here hx rfl (hb hby own_d7_59) rfl ?_
    show Steps p.tables e below (Tg48.setTop (mkF m 60 #[.val (.ref r0), .val (.int w_p), .val (.long (0 : Int64)), .second, .val (.int (0 : Int32)), .val (.int v52)] [(.int (v52 &&& (127 : Int32))), (.long (0 : Int64))])) target
    refine XS.i2l Xg48.here hx rfl (hb hby own_d7_60) rfl ?_
    show Steps p.tables e below (Tg48.setTop (mkF m 61 #[.val (.ref r0), .val (.int w_p), .val (.long (0 : Int64)), .second, .val (.int (0 : Int32)), .val (.int v52)] [(.long ((v52 &&& (127 : Int32)).toInt64)), (.long (0 : Int64))])) target
    refine XS.bipush Xg48.here hx rfl (hb hby own_d7_61) ?_
    show Steps p.tables e below (Tg48.setTop (mkF m 63 #[.val (.ref r0), .val (.int w_p), .val (.long (0 : Int64)), .second, .val (.int (0 : Int32)), .val (.int v52)] [(.int (7 : Int32)), (.long ((v52 &&& (127 : Int32)).toInt64)), (.long (0 : Int64))])) target
    refine XS.iload Xg48.here hx rfl (hb hby own_d7_63) rfl ?_
    show Steps p.tables e below (Tg48.setTop (mkF m 65 #[.val (.ref r0), .val (.int w_p), .val (.long (0 : Int64)), .second, .val (.int (0 : Int32)), .val (.int v52)] [(.int (0 : Int32)), (.int (7 : Int32)), (.long ((v52 &&& (127 : Int32)).toInt64)), (.long (0 : Int64))])) target
    refine XS.imul Xg48.here hx rfl (hb hby own_d7_65) rfl ?_
    show Steps p.tables e below (Tg48.setTop (mkF m 66 #[.val (.ref r0), .val (.int w_p), .val (.long (0 : Int64)), .second, .val (.int (0 : Int32)), .val (.int v52)] [(.int (0 : Int32)), (.long ((v52 &&& (127 : Int32)).toInt64)), (.long (0 : Int64))])) target
    refine XS.lshl Xg48.here hx rfl (hb hby own_d7_66) rfl ?_
    show Steps p.tables e below (Tg48.setTop (mkF m 67 #[.val (.ref r0), .val (.int w_p), .val (.long (0 : Int64)), .second, .val (.int (0 : Int32)), .val (.int v52)] [(.long (((v52 &&& (127 : Int32)).toInt64) <<< ((0 : Int32) &&& 0x3f).toInt64)), (.long (0 : Int64))])) target
    refine XS.lor Xg48.here hx rfl (hb hby own_d7_67) rfl ?_
    show Steps p.tables e below (Tg48.setTop (mkF m 68 #[.val (.ref r0), .val (.int w_p), .val (.long (0 : Int64)), .second, .val (.int (0 : Int32)), .val (.int v52)] [(.long ((0 : Int64) ||| (((v52 &&& (127 : Int32)).toInt64) <<< ((0 : Int32) &&& 0x3f).toInt64)))])) target
    refine XS.lstoreN Xg48.here hx rfl (hb hby own_d7_68) rfl (l' := #[.val (.ref r0), .val (.int w_p), .val (.long v68), .second, .val (.int (0 : Int32)), .val (.int v52)]) (by subst hv68; rfl) ?_
    show Steps p.tables e below (Tg48.setTop (mkF m 69 #[.val (.ref r0), .val (.int w_p), .val (.long v68), .second, .val (.int (0 : Int32)), .val (.int v52)] [])) target
    refine XS.iload Xg48.here hx rfl (hb hby own_d7_69) rfl ?_
    exact kt
  have c71 : ¬ (v52 < (0 : Int32)) := by
    rw [hv52]
    exact hF.2.2.1
  refine own_st (B := Tg48.setTop (mkF m 102 #[.val (.ref r0), .val (.int w_p), .val (.long v68), .second, .val (.int (0 : Int32)), .val (.int v52)] [(.long v68)])) (fun target kt => ?_) ?_
  · show Steps p.tables e below (Tg48.setTop (mkF m 71 #[.val (.ref r0), .val (.int w_p), .val (.long v68), .second, .val (.int (0 : Int32)), .val (.int v52)] [(.int v52)])) target
    refine XS.ifNo Xg48.here hx rfl (hb hby own_d7_71) rfl ((if0 _ _).trans (flt c71).1) ?_
    show Steps p.tables e below (Tg48.setTop (mkF m 74 #[.val (.ref r0), .val (.int w_p), .val (.long v68), .second, .val (.int (0 : Int32)), .val (.int v52)] [])) target
    refine XS.iload Xg48.here hx rfl (hb hby own_d7_74) rfl ?_
    show Steps p.tables e below (Tg48.setTop (mkF m 76 #[.val (.ref r0), .val (.int w_p), .val (.long v68), .second, .val (.int (0 : Int32)), .val (.int v52)] [(.int (0 : Int32))])) target
    refine XS.bipush Xg48.here hx rfl (hb hby own_d7_76) ?_
    show Steps p.tables e below (Tg48.setTop (mkF m 78 #[.val (.ref r0), .val (.int w_p), .val (.long v68), .second, .val (.int (0 : Int32)), .val (.int v52)] [(.int (9 : Int32)), (.int (0 : Int32))])) target
    refine XS.icmpYes Xg48.here hx rfl (pc0 := 78) (pc' := 101) rfl (hb hby own_d7_78) rfl (feq (by decide : ¬ ((0 : Int32) = (9 : Int32)))).2 (by decide) (by decide) ?_
    show Steps p.tables e below (Tg48.setTop (mkF m 101 #[.val (.ref r0), .val (.int w_p), .val (.long v68), .second, .val (.int (0 : Int32)), .val (.int v52)] [])) target
    refine XS.lloadN Xg48.here hx rfl (hb hby own_d7_101) rfl ?_
    exact kt
  obtain ⟨fs, hr, hrun, hended, hW, hsame⟩ := Xg48.leave (v := some (.long v68)) (fun h => by rw [Bd.returns] at h; cases h)
  have hend : Steps p.tables e below (Tg48.setTop (mkF m 102 #[.val (.ref r0), .val (.int w_p), .val (.long v68), .second, .val (.int (0 : Int32)), .val (.int v52)] [(.long v68)])) (Tg48.setFrames fs) := by
    exact own_retJ Xg48 hx Bd.returns (hb hby own_d7_102) hr
  refine own_fin hend ⟨_, hrun, hended, _, _, rfl, ?_, ⟨_, rfl⟩, hW, hsame.mono (by decide) (by decide)⟩
  show own_Q7 Z r0 b_b w_e b_n w_m w_p g_b h0 n0 _ Tg48.heap _
  rw [eg48]
  subst hv48 hv52 hv68
  exact ⟨(congrArg (fun z => some (Value.long z)) (by exact own_vi _ hF.2.2.1 hV.2.2.2.2.2.1)), Ng48, Kc, F, F_1, F_2, F_3, F_4, F_7⟩
theorem own_pd1 : parseMethodDescriptor "()J" = some ⟨[], some .long⟩ := by decide +kernel
theorem own_d6_0 : decode prog_71_method_18_code 0 = .ok (.aload_n 0, 1) := by decide +kernel
theorem own_d6_1 : decode prog_71_method_18_code 1 = .ok (.getfield 43, 3) := by decide +kernel
theorem own_d6_4 : decode prog_71_method_18_code 4 = .ok (.istore_n 1, 1) := by decide +kernel
theorem own_d6_5 : decode prog_71_method_18_code 5 = .ok (.aload_n 0, 1) := by decide +kernel
theorem own_d6_6 : decode prog_71_method_18_code 6 = .ok (.invokevirtual 62, 3) := by decide +kernel
theorem own_d6_9 : decode prog_71_method_18_code 9 = .ok (.lstore_n 2, 1) := by decide +kernel
theorem own_d6_10 : decode prog_71_method_18_code 10 = .ok (.lload_n 2, 1) := by decide +kernel
theorem own_d6_11 : decode prog_71_method_18_code 11 = .ok (.aload_n 0, 1) := by decide +kernel
theorem own_d6_12 : decode prog_71_method_18_code 12 = .ok (.getfield 40, 3) := by decide +kernel
theorem own_d6_15 : decode prog_71_method_18_code 15 = .ok (.aload_n 0, 1) := by decide +kernel
theorem own_d6_16 : decode prog_71_method_18_code 16 = .ok (.getfield 43, 3) := by decide +kernel
theorem own_d6_19 : decode prog_71_method_18_code 19 = .ok (.isub, 1) := by decide +kernel
theorem own_d6_20 : decode prog_71_method_18_code 20 = .ok (.i2l, 1) := by decide +kernel
theorem own_d6_21 : decode prog_71_method_18_code 21 = .ok (.invokestatic 218, 3) := by decide +kernel
theorem own_d6_24 : decode prog_71_method_18_code 24 = .ok (.ifCond .le 18, 3) := by decide +kernel
theorem own_d6_42 : decode prog_71_method_18_code 42 = .ok (.lload_n 2, 1) := by decide +kernel
theorem own_d6_43 : decode prog_71_method_18_code 43 = .ok (.l2i, 1) := by decide +kernel
theorem own_d6_44 : decode prog_71_method_18_code 44 = .ok (.ireturn, 1) := by decide +kernel
theorem own_ef6 (m : MethodId) (r0 : Addr) : entryFrame m #[(.ref r0)] 4 = mkF m 0 #[.val (.ref r0), .unset, .unset, .unset] [] := by first | (simp [entryFrame, mkF, argsToLocals, Value.category]; done) | rfl
def own_Q6 (Z : State) (r0 : Addr) (b_b : Addr) (w_e : Int32) (b_n : Addr) (w_m : Int32) (w_p : Int32) (g_b : Nat → Int32) (h0 : Heap) (n0 : Nat) (v : Option Value) (h : Heap) (L : List Loc) : Prop := (v = some (.int (g_b (w_p).toNatClampNeg))) ∧ (Fr n0 L) ∧ (Keep h0 h [r0]) ∧ (Exa Z h r0 "com/example/wireform/wireform/wire/WireReader") ∧ (Fld Z h r0 "com/example/wireform/wireform/wire/WireReader" "bytes" "[B" (.ref b_b)) ∧ (Fld Z h r0 "com/example/wireform/wireform/wire/WireReader" "end" "I" (.int w_e)) ∧ (Fld Z h r0 "com/example/wireform/wireform/wire/WireReader" "nesting" "Lcom/example/wireform/wireform/wire/Nesting;" (.ref b_n)) ∧ (Fld Z h r0 "com/example/wireform/wireform/wire/WireReader" "limit" "I" (.int w_m)) ∧ (Fld Z h r0 "com/example/wireform/wireform/wire/WireReader" "position" "I" (.int ((w_p + (1 : Int32)))))
set_option maxRecDepth 65536 in
set_option maxHeartbeats 40000000 in
theorem own_rm6 (l : Launch) (Z : State) (a0 : Array Value) (hw : ∀ d ∈ tables_1, d.before a0 Z = true) (ws : List Jvm.Cond) (r0 : Addr) (b_b : Addr) (w_e : Int32) (b_n : Addr) (w_m : Int32) (w_p : Int32) (g_b : Nat → Int32) (h0 : Heap) (n0 : Nat) (Z0 : n0 ≤ h0.size) (E_r0 : Exa Z h0 r0 "com/example/wireform/wireform/wire/WireReader") (F_r0_bytes : Fld Z h0 r0 "com/example/wireform/wireform/wire/WireReader" "bytes" "[B" (.ref b_b)) (F_r0_end : Fld Z h0 r0 "com/example/wireform/wireform/wire/WireReader" "end" "I" (.int w_e)) (F_r0_nesting : Fld Z h0 r0 "com/example/wireform/wireform/wire/WireReader" "nesting" "Lcom/example/wireform/wireform/wire/Nesting;" (.ref b_n)) (F_r0_limit : Fld Z h0 r0 "com/example/wireform/wireform/wire/WireReader" "limit" "I" (.int w_m)) (F_r0_position : Fld Z h0 r0 "com/example/wireform/wireform/wire/WireReader" "position" "I" (.int w_p)) (R_b_b : own_RayB Z h0 b_b 8 g_b) (g_r0 : n0 ≤ r0) (ne_r0_b_b : r0 ≠ b_b) (hV : own_V w_p w_m (g_b (w_p).toNatClampNeg) 8) :
    MetFree l (⟨"com/example/wireform/wireform/wire/WireReader", "readLength", "()I"⟩ : MethodName) (head1 (Jvm.Cond.code (⟨"com/example/wireform/wireform/wire/WireReader", "readLength", "()I"⟩ : MethodName) prog_71_method_18_code 4 (some .int) :: ws) ({ frames := 2, cells := 0, slots := 0, locals := 30 } : Room)) (fun a U => a = #[(.ref r0)] ∧ Z.Warmed39 U.vm ∧ U.heap = h0) (fun _ _ _ _ _ => True) (fun _ U o U' => ∃ v L, o = .returned v ∧ own_Q6 Z r0 b_b w_e b_n w_m w_p g_b h0 n0 v U'.heap L ∧ FrameEnd U o U' L ({ frames := 2, cells := 0, slots := 0, locals := 30 } : Room).cells ({ frames := 2, cells := 0, slots := 0, locals := 30 } : Room).slots) := by
  refine MetFree.of_bodySF (plainFor_of_name own_pn2) hisR ?_
  intro p e s m args below meth c s₁ Bd hml0 hP hK
  obtain ⟨rfl, hZ, hh⟩ := hP
  have hx := Bd.exec
  have hby := Bd.bytes
  have hml : c.maxLocals = 4 := hml0
  have hown : s.vm.findClass "com/example/wireform/wireform/wire/WireReader" = some m.cls := findClass_of_methodNamed Bd.named
  have hnm := (name_of_methodNamed Bd.named Bd.method).1
  have X0 : Stand p l e ({ frames := 2, cells := 0, slots := 0, locals := 30 } : Room) s m #[(.ref r0)] below meth c s₁ [] 0 0 := Stand.of_body Bd
  have e0 : s₁.heap = h0 := by rw [← hh, Bd.state]; rfl
  have N0 := Fr.nil n0
  have pre0 : ∀ t, Steps p.tables e below (s₁.setTop (mkF m 0 #[.val (.ref r0), .unset, .unset, .unset] [])) t → Steps p.tables e below (s₁.setTop (entryFrame m #[(.ref r0)] 4)) t := fun t k => castTop (own_ef6 m r0) k
  refine own_run (own_st pre0 ?_)
  have hF := own_Vf _ _ _ _ hV
  refine own_st (B := s₁.setTop (mkF m 1 #[.val (.ref r0), .unset, .unset, .unset] [(.ref r0)])) (fun target kt => ?_) ?_
  · show Steps p.tables e below (s₁.setTop (mkF m 0 #[.val (.ref r0), .unset, .unset, .unset] [])) target
    refine XS.aloadN X0.here hx rfl (hb hby own_d6_0) rfl rfl ?_
    exact kt
  obtain ⟨Tg1, Xg1, eg1, stg1⟩ := getF X0 hx hZ hown (host := "") (Or.inl (hw _ (List.mem_of_getElem? (i := 33) rfl))) Via.refl e0 F_r0_position (g := (mkF m 1 #[.val (.ref r0), .unset, .unset, .unset] [(.ref r0)])) rfl rfl (hb hby own_d6_1)
  refine own_st stg1 ?_
  refine own_st (B := Tg1.setTop (mkF m 6 #[.val (.ref r0), .val (.int w_p), .unset, .unset] [(.ref r0)])) (fun target kt => ?_) ?_
  · show Steps p.tables e below (Tg1.setTop (mkF m 4 #[.val (.ref r0), .unset, .unset, .unset] [(.int w_p)])) target
    refine XS.istoreN Xg1.here hx rfl (hb hby own_d6_4) rfl (l' := #[.val (.ref r0), .val (.int w_p), .unset, .unset]) rfl ?_
    show Steps p.tables e below (Tg1.setTop (mkF m 5 #[.val (.ref r0), .val (.int w_p), .unset, .unset] [])) target
    refine XS.aloadN Xg1.here hx rfl (hb hby own_d6_5) rfl rfl ?_
    exact kt
  obtain ⟨cqg6, kqg6, qg6a, qg6b, qg6c⟩ := isOf hZ eg1 E_r0
  obtain ⟨_, _, ⟨Tg6, Lg6, kg6, ng6⟩, -, Xg6, ⟨Lcg6, hQg6, lg6, yg6, zg6⟩, stg6⟩ := Xg1.virtualBack hx (y := (⟨"com/example/wireform/wireform/wire/WireReader", "readVarint", "()J"⟩ : MethodName)) (z := (⟨"com/example/wireform/wireform/wire/WireReader", "readVarint", "()J"⟩ : MethodName)) hown (mvT hZ (hw _ (List.mem_of_getElem? (i := 44) rfl))) (mvT hZ (hw _ (List.mem_of_getElem? (i := 45) rfl))) (notFace_of_selects (args := #[]) (mvT hZ (hw _ (List.mem_of_getElem? (i := 47) rfl)))) (mvT hZ (hw _ (List.mem_of_getElem? (i := 47) rfl))) (mvT hZ (hw _ (List.mem_of_getElem? (i := 46) rfl))) (by decide) (backOf (W := 0) (own_rm7 l Z a0 hw [] r0 b_b w_e b_n w_m w_p g_b h0 n0 Z0 E_r0 F_r0_bytes F_r0_end F_r0_nesting F_r0_limit F_r0_position R_b_b g_r0 ne_r0_b_b (show own_V w_p w_m (g_b (w_p).toNatClampNeg) 8 from hV)) hZ (hw _ (List.mem_of_getElem? (i := 48) rfl)) (hw _ (List.mem_of_getElem? (i := 4) rfl)) (by decide) (by decide)) qg6a qg6c (g := (mkF m 6 #[.val (.ref r0), .val (.int w_p), .unset, .unset] [(.ref r0)])) rfl (by rw [hml]; rfl) (Steps.refl _) (argsL := []) (rest := []) (lenOf own_pd1 rfl) rfl (by show 2 * 0 + _ ≤ _; exact Nat.le_of_eq rfl) (hb hby own_d6_6) (fun _ _ => ⟨rfl, eg1, (by decide : 0 + 0 ≤ _), (by decide : 0 + 0 ≤ _)⟩)
  dsimp only [Pt.U, Pt.locs, Pt.cells, Pt.slots] at Xg6 lg6 yg6 zg6 stg6 hQg6
  subst lg6 yg6 zg6
  obtain ⟨rfl, Ng6q, Kg6, F, F_1, F_2, F_3, F_4, F_5⟩ := hQg6
  have F_6 := R_b_b.keep Kg6 (ninS (Ne.symm ne_r0_b_b) nin0)
  have Zz : n0 ≤ Tg6.heap.size := Nat.le_trans Z0 Kg6.1
  have Kc := (Keep.refl h0 [r0]).trans Kg6 (allS (Or.inl (List.mem_of_getElem? (i := 0) rfl)) all0)
  obtain ⟨w6_position, hw6_position⟩ : ∃ z : Int32, z = (w_p + (1 : Int32)) := ⟨_, rfl⟩
  have F_7 : Fld Z Tg6.heap r0 "com/example/wireform/wireform/wire/WireReader" "position" "I" (.int w6_position) := by subst hw6_position; exact F_5
  have Ng6 := Fr.app N0 Ng6q
  refine own_st (fun _ k => stg6.trans k) ?_
  obtain ⟨v9, hv9⟩ : ∃ z : Int64, z = ((g_b (w_p).toNatClampNeg).toInt64) := ⟨_, rfl⟩
  refine own_st (B := Tg6.setTop (mkF m 12 #[.val (.ref r0), .val (.int w_p), .val (.long v9), .second] [(.ref r0), (.long v9)])) (fun target kt => ?_) ?_
  · show Steps p.tables e below (Tg6.setTop (mkF m 9 #[.val (.ref r0), .val (.int w_p), .unset, .unset] [(.long ((g_b (w_p).toNatClampNeg).toInt64))])) target
    refine XS.lstoreN Xg6.here hx rfl (hb hby own_d6_9) rfl (l' := #[.val (.ref r0), .val (.int w_p), .val (.long v9), .second]) (by subst hv9; rfl) ?_
    show Steps p.tables e below (Tg6.setTop (mkF m 10 #[.val (.ref r0), .val (.int w_p), .val (.long v9), .second] [])) target
    refine XS.lloadN Xg6.here hx rfl (hb hby own_d6_10) rfl ?_
    show Steps p.tables e below (Tg6.setTop (mkF m 11 #[.val (.ref r0), .val (.int w_p), .val (.long v9), .second] [(.long v9)])) target
    refine XS.aloadN Xg6.here hx rfl (hb hby own_d6_11) rfl rfl ?_
    exact kt
  obtain ⟨Tg12, Xg12, eg12, stg12⟩ := getF Xg6 hx hZ hown (host := "") (Or.inl (hw _ (List.mem_of_getElem? (i := 26) rfl))) Via.refl rfl F_4 (g := (mkF m 12 #[.val (.ref r0), .val (.int w_p), .val (.long v9), .second] [(.ref r0), (.long v9)])) rfl rfl (hb hby own_d6_12)
  refine own_st stg12 ?_
  refine own_st (B := Tg12.setTop (mkF m 16 #[.val (.ref r0), .val (.int w_p), .val (.long v9), .second] [(.ref r0), (.int w_m), (.long v9)])) (fun target kt => ?_) ?_
  · show Steps p.tables e below (Tg12.setTop (mkF m 15 #[.val (.ref r0), .val (.int w_p), .val (.long v9), .second] [(.int w_m), (.long v9)])) target
    refine XS.aloadN Xg12.here hx rfl (hb hby own_d6_15) rfl rfl ?_
    exact kt
  obtain ⟨Tg16, Xg16, eg16, stg16⟩ := getF Xg12 hx hZ hown (host := "") (Or.inl (hw _ (List.mem_of_getElem? (i := 33) rfl))) Via.refl eg12 F_7 (g := (mkF m 16 #[.val (.ref r0), .val (.int w_p), .val (.long v9), .second] [(.ref r0), (.int w_m), (.long v9)])) rfl rfl (hb hby own_d6_16)
  refine own_st stg16 ?_
  refine own_st (B := Tg16.setTop (mkF m 21 #[.val (.ref r0), .val (.int w_p), .val (.long v9), .second] [(.long ((w_m - w6_position).toInt64)), (.long v9)])) (fun target kt => ?_) ?_
  · show Steps p.tables e below (Tg16.setTop (mkF m 19 #[.val (.ref r0), .val (.int w_p), .val (.long v9), .second] [(.int w6_position), (.int w_m), (.long v9)])) target
    refine XS.isub Xg16.here hx rfl (hb hby own_d6_19) rfl ?_
    show Steps p.tables e below (Tg16.setTop (mkF m 20 #[.val (.ref r0), .val (.int w_p), .val (.long v9), .second] [(.int (w_m - w6_position)), (.long v9)])) target
    refine XS.i2l Xg16.here hx rfl (hb hby own_d6_20) rfl ?_
    exact kt
  obtain ⟨_, _, ⟨Tg21, Lg21, kg21, ng21⟩, -, Xg21, ⟨Lcg21, hQg21, lg21, yg21, zg21⟩, stg21⟩ := Jvm.LawKit.callS Xg16 hx (y := (⟨"java/lang/Long", "compareUnsigned", "(JJ)I"⟩ : MethodName)) hown (mvT hZ (hw _ (List.mem_of_getElem? (i := 49) rfl))) (mvT hZ (hw _ (List.mem_of_getElem? (i := 50) rfl))) (mvT hZ (hw _ (List.mem_of_getElem? (i := 51) rfl))) (mvT hZ (hw _ (List.mem_of_getElem? (i := 52) rfl))) (by decide) (backOf (W := 0) (own_rm8 l Z a0 hw [] v9 ((w_m - w6_position).toInt64) Tg6.heap n0 Zz) hZ (hw _ (List.mem_of_getElem? (i := 52) rfl)) (hw _ (List.mem_of_getElem? (i := 51) rfl)) (by decide) (by decide)) (g := (mkF m 21 #[.val (.ref r0), .val (.int w_p), .val (.long v9), .second] [(.long ((w_m - w6_position).toInt64)), (.long v9)])) rfl (by rw [hml]; rfl) (argsL := [(.long v9), (.long ((w_m - w6_position).toInt64))]) (rest := []) (lenOf own_pd0 rfl) rfl (by show 2 * 0 + _ ≤ _; exact Nat.le_of_eq rfl) (hb hby own_d6_21) (fun _ _ => ⟨rfl, eg16, (by decide : 0 + 0 ≤ _), (by decide : 0 + 0 ≤ _)⟩)
  dsimp only [Pt.U, Pt.locs, Pt.cells, Pt.slots] at Xg21 lg21 yg21 zg21 stg21 hQg21
  subst lg21 yg21 zg21
  obtain ⟨rfl, Ng21q, eg21⟩ := hQg21
  have Ng21 := Fr.app Ng6 Ng21q
  refine own_st (stg21) ?_
  have c24 : ¬ ((0 : Int32) < (if (v9 + (-9223372036854775808 : Int64)) < (((w_m - w6_position).toInt64) + (-9223372036854775808 : Int64)) then (-1 : Int32) else (if (v9 + (-9223372036854775808 : Int64)) = (((w_m - w6_position).toInt64) + (-9223372036854775808 : Int64)) then (0 : Int32) else (1 : Int32)))) := by
    rw [hv9]
    exact own_cmpU _ _ (by rw [c_i2l]; exact hV.2.2.2.2.1) (by rw [c_i2l, c_i2l, hw6_position, hF.2.2.2.2.1]; exact hV.2.2.2.2.2.2)
  refine own_st (B := Tg21.setTop (mkF m 44 #[.val (.ref r0), .val (.int w_p), .val (.long v9), .second] [(.int (v9.toInt32))])) (fun target kt => ?_) ?_
  · show Steps p.tables e below (Tg21.setTop (mkF m 24 #[.val (.ref r0), .val (.int w_p), .val (.long v9), .second] [(.int (if (v9 + (-9223372036854775808 : Int64)) < (((w_m - w6_position).toInt64) + (-9223372036854775808 : Int64)) then (-1 : Int32) else (if (v9 + (-9223372036854775808 : Int64)) = (((w_m - w6_position).toInt64) + (-9223372036854775808 : Int64)) then (0 : Int32) else (1 : Int32))))])) target
    refine XS.ifYes Xg21.here hx rfl (pc0 := 24) (pc' := 42) rfl (hb hby own_d6_24) rfl ((if0 _ _).trans (flt c24).2.2.2) (by decide) (by decide) ?_
    show Steps p.tables e below (Tg21.setTop (mkF m 42 #[.val (.ref r0), .val (.int w_p), .val (.long v9), .second] [])) target
    refine XS.lloadN Xg21.here hx rfl (hb hby own_d6_42) rfl ?_
    show Steps p.tables e below (Tg21.setTop (mkF m 43 #[.val (.ref r0), .val (.int w_p), .val (.long v9), .second] [(.long v9)])) target
    refine XS.l2i Xg21.here hx rfl (hb hby own_d6_43) rfl ?_
    exact kt
  obtain ⟨fs, hr, hrun, hended, hW, hsame⟩ := Xg21.leave (v := some (.int (v9.toInt32))) (fun h => by rw [Bd.returns] at h; cases h)
  have hend : Steps p.tables e below (Tg21.setTop (mkF m 44 #[.val (.ref r0), .val (.int w_p), .val (.long v9), .second] [(.int (v9.toInt32))])) (Tg21.setFrames fs) := by
    exact retI Xg21 hx Bd.returns (hb hby own_d6_44) hr
  refine own_fin hend ⟨_, hrun, hended, _, _, rfl, ?_, ⟨_, rfl⟩, hW, hsame.mono (by decide) (by decide)⟩
  show own_Q6 Z r0 b_b w_e b_n w_m w_p g_b h0 n0 _ Tg21.heap _
  rw [eg21]
  subst hw6_position hv9
  exact ⟨(congrArg (fun z => some (Value.int z)) (by exact own_li _)), Ng21, Kc, F, F_1, F_2, F_3, F_4, F_7⟩
theorem own_pd2 : parseMethodDescriptor "()I" = some ⟨[], some .int⟩ := by decide +kernel
theorem own_d14_0 : decode prog_71_method_12_code 0 = .ok (.aload_n 0, 1) := by decide +kernel
theorem own_d14_1 : decode prog_71_method_12_code 1 = .ok (.invokevirtual 108, 3) := by decide +kernel
theorem own_d14_4 : decode prog_71_method_12_code 4 = .ok (.istore_n 1, 1) := by decide +kernel
theorem own_d14_5 : decode prog_71_method_12_code 5 = .ok (.aload_n 0, 1) := by decide +kernel
theorem own_d14_6 : decode prog_71_method_12_code 6 = .ok (.getfield 40, 3) := by decide +kernel
theorem own_d14_9 : decode prog_71_method_12_code 9 = .ok (.istore_n 2, 1) := by decide +kernel
theorem own_d14_10 : decode prog_71_method_12_code 10 = .ok (.aload_n 0, 1) := by decide +kernel
theorem own_d14_11 : decode prog_71_method_12_code 11 = .ok (.aload_n 0, 1) := by decide +kernel
theorem own_d14_12 : decode prog_71_method_12_code 12 = .ok (.getfield 43, 3) := by decide +kernel
theorem own_d14_15 : decode prog_71_method_12_code 15 = .ok (.iload_n 1, 1) := by decide +kernel
theorem own_d14_16 : decode prog_71_method_12_code 16 = .ok (.iadd, 1) := by decide +kernel
theorem own_d14_17 : decode prog_71_method_12_code 17 = .ok (.putfield 40, 3) := by decide +kernel
theorem own_d14_20 : decode prog_71_method_12_code 20 = .ok (.iload_n 2, 1) := by decide +kernel
theorem own_d14_21 : decode prog_71_method_12_code 21 = .ok (.ireturn, 1) := by decide +kernel
theorem own_ef14 (m : MethodId) (r0 : Addr) : entryFrame m #[(.ref r0)] 3 = mkF m 0 #[.val (.ref r0), .unset, .unset] [] := by first | (simp [entryFrame, mkF, argsToLocals, Value.category]; done) | rfl
def own_Q14 (Z : State) (r0 : Addr) (b_b : Addr) (w_e : Int32) (b_n : Addr) (w_m : Int32) (w_p : Int32) (g_b : Nat → Int32) (h0 : Heap) (n0 : Nat) (v : Option Value) (h : Heap) (L : List Loc) : Prop := (v = some (.int w_m)) ∧ (Fr n0 L) ∧ (Keep h0 h [r0]) ∧ (Exa Z h r0 "com/example/wireform/wireform/wire/WireReader") ∧ (Fld Z h r0 "com/example/wireform/wireform/wire/WireReader" "bytes" "[B" (.ref b_b)) ∧ (Fld Z h r0 "com/example/wireform/wireform/wire/WireReader" "end" "I" (.int w_e)) ∧ (Fld Z h r0 "com/example/wireform/wireform/wire/WireReader" "nesting" "Lcom/example/wireform/wireform/wire/Nesting;" (.ref b_n)) ∧ (Fld Z h r0 "com/example/wireform/wireform/wire/WireReader" "limit" "I" (.int ((((w_p + (1 : Int32))) + ((g_b (w_p).toNatClampNeg)))))) ∧ (Fld Z h r0 "com/example/wireform/wireform/wire/WireReader" "position" "I" (.int ((w_p + (1 : Int32)))))
set_option maxRecDepth 65536 in
set_option maxHeartbeats 40000000 in
theorem own_rm14 (l : Launch) (Z : State) (a0 : Array Value) (hw : ∀ d ∈ tables_1, d.before a0 Z = true) (ws : List Jvm.Cond) (r0 : Addr) (b_b : Addr) (w_e : Int32) (b_n : Addr) (w_m : Int32) (w_p : Int32) (g_b : Nat → Int32) (h0 : Heap) (n0 : Nat) (Z0 : n0 ≤ h0.size) (E_r0 : Exa Z h0 r0 "com/example/wireform/wireform/wire/WireReader") (F_r0_bytes : Fld Z h0 r0 "com/example/wireform/wireform/wire/WireReader" "bytes" "[B" (.ref b_b)) (F_r0_end : Fld Z h0 r0 "com/example/wireform/wireform/wire/WireReader" "end" "I" (.int w_e)) (F_r0_nesting : Fld Z h0 r0 "com/example/wireform/wireform/wire/WireReader" "nesting" "Lcom/example/wireform/wireform/wire/Nesting;" (.ref b_n)) (F_r0_limit : Fld Z h0 r0 "com/example/wireform/wireform/wire/WireReader" "limit" "I" (.int w_m)) (F_r0_position : Fld Z h0 r0 "com/example/wireform/wireform/wire/WireReader" "position" "I" (.int w_p)) (R_b_b : own_RayB Z h0 b_b 8 g_b) (g_r0 : n0 ≤ r0) (ne_r0_b_b : r0 ≠ b_b) (hV : own_V w_p w_m (g_b (w_p).toNatClampNeg) 8) :
    MetFree l (⟨"com/example/wireform/wireform/wire/WireReader", "beginLengthDelimited", "()I"⟩ : MethodName) (head1 (Jvm.Cond.code (⟨"com/example/wireform/wireform/wire/WireReader", "beginLengthDelimited", "()I"⟩ : MethodName) prog_71_method_12_code 3 (some .int) :: ws) ({ frames := 3, cells := 0, slots := 0, locals := 45 } : Room)) (fun a U => a = #[(.ref r0)] ∧ Z.Warmed39 U.vm ∧ U.heap = h0) (fun _ _ _ _ _ => True) (fun _ U o U' => ∃ v L, o = .returned v ∧ own_Q14 Z r0 b_b w_e b_n w_m w_p g_b h0 n0 v U'.heap L ∧ FrameEnd U o U' L ({ frames := 3, cells := 0, slots := 0, locals := 45 } : Room).cells ({ frames := 3, cells := 0, slots := 0, locals := 45 } : Room).slots) := by
  refine MetFree.of_bodySF (plainFor_of_name own_pn2) hisR ?_
  intro p e s m args below meth c s₁ Bd hml0 hP hK
  obtain ⟨rfl, hZ, hh⟩ := hP
  have hx := Bd.exec
  have hby := Bd.bytes
  have hml : c.maxLocals = 3 := hml0
  have hown : s.vm.findClass "com/example/wireform/wireform/wire/WireReader" = some m.cls := findClass_of_methodNamed Bd.named
  have hnm := (name_of_methodNamed Bd.named Bd.method).1
  have X0 : Stand p l e ({ frames := 3, cells := 0, slots := 0, locals := 45 } : Room) s m #[(.ref r0)] below meth c s₁ [] 0 0 := Stand.of_body Bd
  have e0 : s₁.heap = h0 := by rw [← hh, Bd.state]; rfl
  have N0 := Fr.nil n0
  have pre0 : ∀ t, Steps p.tables e below (s₁.setTop (mkF m 0 #[.val (.ref r0), .unset, .unset] [])) t → Steps p.tables e below (s₁.setTop (entryFrame m #[(.ref r0)] 3)) t := fun t k => castTop (own_ef14 m r0) k
  refine own_run (own_st pre0 ?_)
  refine own_st (B := s₁.setTop (mkF m 1 #[.val (.ref r0), .unset, .unset] [(.ref r0)])) (fun target kt => ?_) ?_
  · show Steps p.tables e below (s₁.setTop (mkF m 0 #[.val (.ref r0), .unset, .unset] [])) target
    refine XS.aloadN X0.here hx rfl (hb hby own_d14_0) rfl rfl ?_
    exact kt
  obtain ⟨cqg1, qg1, qg1'⟩ := E_r0.cell
  obtain ⟨_, _, ⟨Tg1, Lg1, kg1, ng1⟩, -, Xg1, ⟨Lcg1, hQg1, lg1, yg1, zg1⟩, stg1⟩ := X0.privateBack hx (y := (⟨"com/example/wireform/wireform/wire/WireReader", "readLength", "()I"⟩ : MethodName)) hown (mvT hZ (hw _ (List.mem_of_getElem? (i := 40) rfl))) (mvT hZ (hw _ (List.mem_of_getElem? (i := 41) rfl))) (mvT hZ (own_selPriv (hw _ (List.mem_of_getElem? (i := 42) rfl)) (hw _ (List.mem_of_getElem? (i := 41) rfl)) (hw _ (List.mem_of_getElem? (i := 31) rfl)) rfl (by decide))) (Cond.privateMethod_at (mvP hZ (hw _ (List.mem_of_getElem? (i := 42) rfl)) (args := #[]))) (mvT hZ (hw _ (List.mem_of_getElem? (i := 43) rfl))) (by decide) (backOf (W := 0) (own_rm6 l Z a0 hw [] r0 b_b w_e b_n w_m w_p g_b h0 n0 Z0 E_r0 F_r0_bytes F_r0_end F_r0_nesting F_r0_limit F_r0_position R_b_b g_r0 ne_r0_b_b (show own_V w_p w_m (g_b (w_p).toNatClampNeg) 8 from hV)) hZ (hw _ (List.mem_of_getElem? (i := 43) rfl)) (hw _ (List.mem_of_getElem? (i := 4) rfl)) (by decide) (by decide)) (g := (mkF m 1 #[.val (.ref r0), .unset, .unset] [(.ref r0)])) rfl (by rw [hml]; rfl) (Steps.refl _) (a := r0) (by rw [e0]; exact qg1) qg1' (argsL := []) (rest := []) (lenOf own_pd2 rfl) rfl (by show 2 * 0 + _ ≤ _; exact Nat.le_of_eq rfl) (hb hby own_d14_1) (fun _ _ => ⟨rfl, e0, (by decide : 0 + 0 ≤ _), (by decide : 0 + 0 ≤ _)⟩)
  dsimp only [Pt.U, Pt.locs, Pt.cells, Pt.slots] at Xg1 lg1 yg1 zg1 stg1 hQg1
  subst lg1 yg1 zg1
  obtain ⟨rfl, Ng1q, Kg1, F, F_1, F_2, F_3, F_4, F_5⟩ := hQg1
  have F_6 := R_b_b.keep Kg1 (ninS (Ne.symm ne_r0_b_b) nin0)
  have Zz : n0 ≤ Tg1.heap.size := Nat.le_trans Z0 Kg1.1
  have Kc := (Keep.refl h0 [r0]).trans Kg1 (allS (Or.inl (List.mem_of_getElem? (i := 0) rfl)) all0)
  obtain ⟨w1_position, hw1_position⟩ : ∃ z : Int32, z = (w_p + (1 : Int32)) := ⟨_, rfl⟩
  have F_7 : Fld Z Tg1.heap r0 "com/example/wireform/wireform/wire/WireReader" "position" "I" (.int w1_position) := by subst hw1_position; exact F_5
  have Ng1 := Fr.app N0 Ng1q
  refine own_st (fun _ k => stg1.trans k) ?_
  obtain ⟨v4, hv4⟩ : ∃ z : Int32, z = (g_b (w_p).toNatClampNeg) := ⟨_, rfl⟩
  refine own_st (B := Tg1.setTop (mkF m 6 #[.val (.ref r0), .val (.int v4), .unset] [(.ref r0)])) (fun target kt => ?_) ?_
  · show Steps p.tables e below (Tg1.setTop (mkF m 4 #[.val (.ref r0), .unset, .unset] [(.int (g_b (w_p).toNatClampNeg))])) target
    refine XS.istoreN Xg1.here hx rfl (hb hby own_d14_4) rfl (l' := #[.val (.ref r0), .val (.int v4), .unset]) (by subst hv4; rfl) ?_
    show Steps p.tables e below (Tg1.setTop (mkF m 5 #[.val (.ref r0), .val (.int v4), .unset] [])) target
    refine XS.aloadN Xg1.here hx rfl (hb hby own_d14_5) rfl rfl ?_
    exact kt
  obtain ⟨Tg6, Xg6, eg6, stg6⟩ := getF Xg1 hx hZ hown (host := "") (Or.inl (hw _ (List.mem_of_getElem? (i := 26) rfl))) Via.refl rfl F_4 (g := (mkF m 6 #[.val (.ref r0), .val (.int v4), .unset] [(.ref r0)])) rfl rfl (hb hby own_d14_6)
  refine own_st stg6 ?_
  refine own_st (B := Tg6.setTop (mkF m 12 #[.val (.ref r0), .val (.int v4), .val (.int w_m)] [(.ref r0), (.ref r0)])) (fun target kt => ?_) ?_
  · show Steps p.tables e below (Tg6.setTop (mkF m 9 #[.val (.ref r0), .val (.int v4), .unset] [(.int w_m)])) target
    refine XS.istoreN Xg6.here hx rfl (hb hby own_d14_9) rfl (l' := #[.val (.ref r0), .val (.int v4), .val (.int w_m)]) rfl ?_
    show Steps p.tables e below (Tg6.setTop (mkF m 10 #[.val (.ref r0), .val (.int v4), .val (.int w_m)] [])) target
    refine XS.aloadN Xg6.here hx rfl (hb hby own_d14_10) rfl rfl ?_
    show Steps p.tables e below (Tg6.setTop (mkF m 11 #[.val (.ref r0), .val (.int v4), .val (.int w_m)] [(.ref r0)])) target
    refine XS.aloadN Xg6.here hx rfl (hb hby own_d14_11) rfl rfl ?_
    exact kt
  obtain ⟨Tg12, Xg12, eg12, stg12⟩ := getF Xg6 hx hZ hown (host := "") (Or.inl (hw _ (List.mem_of_getElem? (i := 33) rfl))) Via.refl eg6 F_7 (g := (mkF m 12 #[.val (.ref r0), .val (.int v4), .val (.int w_m)] [(.ref r0), (.ref r0)])) rfl rfl (hb hby own_d14_12)
  refine own_st stg12 ?_
  refine own_st (B := Tg12.setTop (mkF m 17 #[.val (.ref r0), .val (.int v4), .val (.int w_m)] [(.int (w1_position + v4)), (.ref r0)])) (fun target kt => ?_) ?_
  · show Steps p.tables e below (Tg12.setTop (mkF m 15 #[.val (.ref r0), .val (.int v4), .val (.int w_m)] [(.int w1_position), (.ref r0)])) target
    refine XS.iloadN Xg12.here hx rfl (hb hby own_d14_15) rfl ?_
    show Steps p.tables e below (Tg12.setTop (mkF m 16 #[.val (.ref r0), .val (.int v4), .val (.int w_m)] [(.int v4), (.int w1_position), (.ref r0)])) target
    refine XS.iadd Xg12.here hx rfl (hb hby own_d14_16) rfl ?_
    exact kt
  obtain ⟨Tg17, hg17, Xg17, eg17, Wg17, stg17⟩ := putF Xg12 hx hZ hown (host := "") (Or.inl (hw _ (List.mem_of_getElem? (i := 26) rfl))) Via.refl eg12 F_4 F (Or.inl (hw _ (List.mem_of_getElem? (i := 27) rfl))) (hw _ (List.mem_of_getElem? (i := 3) rfl)) (ty := .int) (by decide) rfl rfl (g := (mkF m 17 #[.val (.ref r0), .val (.int v4), .val (.int w_m)] [(.int (w1_position + v4)), (.ref r0)])) rfl rfl (hb hby own_d14_17)
  refine own_st stg17 ?_
  have Ng17 := Fr.snoc Xg17 Ng1 g_r0
  have F_8 := F.wr Wg17
  have F_9 := F_1.other Wg17 (Or.inr (slot_ne (Or.inr (hw _ (List.mem_of_getElem? (i := 21) rfl))) (Or.inl (hw _ (List.mem_of_getElem? (i := 27) rfl))) (by decide) (t := (.array .byte)) (t' := .int) (by decide) (by decide)))
  have F_10 := F_2.other Wg17 (Or.inr (slot_ne (Or.inr (hw _ (List.mem_of_getElem? (i := 23) rfl))) (Or.inl (hw _ (List.mem_of_getElem? (i := 27) rfl))) (by decide) (t := .int) (t' := .int) (by decide) (by decide)))
  have F_11 := F_3.other Wg17 (Or.inr (slot_ne (Or.inr (hw _ (List.mem_of_getElem? (i := 25) rfl))) (Or.inl (hw _ (List.mem_of_getElem? (i := 27) rfl))) (by decide) (t := (.object "com/example/wireform/wireform/wire/Nesting")) (t' := .int) (by decide) (by decide)))
  have F_12 := F_4.same Wg17
  have F_13 := F_7.other Wg17 (Or.inr (slot_ne (Or.inl (hw _ (List.mem_of_getElem? (i := 34) rfl))) (Or.inl (hw _ (List.mem_of_getElem? (i := 27) rfl))) (by decide) (t := .int) (t' := .int) (by decide) (by decide)))
  have F_14 := F_6.other Wg17 (Ne.symm ne_r0_b_b)
  have Zz_1 : n0 ≤ hg17.size := Nat.le_trans Zz (Keep.of_wr Wg17).1
  have Kc_1 := Kc.wr Wg17 (Or.inl (List.mem_of_getElem? (i := 0) rfl))
  obtain ⟨v17, hv17⟩ : ∃ z : Int32, z = (w1_position + v4) := ⟨_, rfl⟩
  have F_15 : Fld Z hg17 r0 "com/example/wireform/wireform/wire/WireReader" "limit" "I" (.int v17) := by subst hv17; exact F_12
  refine own_st (B := Tg17.setTop (mkF m 21 #[.val (.ref r0), .val (.int v4), .val (.int w_m)] [(.int w_m)])) (fun target kt => ?_) ?_
  · show Steps p.tables e below (Tg17.setTop (mkF m 20 #[.val (.ref r0), .val (.int v4), .val (.int w_m)] [])) target
    refine XS.iloadN Xg17.here hx rfl (hb hby own_d14_20) rfl ?_
    exact kt
  obtain ⟨fs, hr, hrun, hended, hW, hsame⟩ := Xg17.leave (v := some (.int w_m)) (fun h => by rw [Bd.returns] at h; cases h)
  have hend : Steps p.tables e below (Tg17.setTop (mkF m 21 #[.val (.ref r0), .val (.int v4), .val (.int w_m)] [(.int w_m)])) (Tg17.setFrames fs) := by
    exact retI Xg17 hx Bd.returns (hb hby own_d14_21) hr
  refine own_fin hend ⟨_, hrun, hended, _, _, rfl, ?_, ⟨_, rfl⟩, hW, hsame.mono (by decide) (by decide)⟩
  show own_Q14 Z r0 b_b w_e b_n w_m w_p g_b h0 n0 _ Tg17.heap _
  rw [eg17]
  subst hw1_position hv4 hv17
  exact ⟨(congrArg (fun z => some (Value.int z)) rfl), Ng17, Kc_1, F_8, F_9, F_10, F_11, F_15, F_13⟩
theorem own_d15_0 : decode prog_71_method_13_code 0 = .ok (.aload_n 0, 1) := by decide +kernel
theorem own_d15_1 : decode prog_71_method_13_code 1 = .ok (.iload_n 1, 1) := by decide +kernel
theorem own_d15_2 : decode prog_71_method_13_code 2 = .ok (.putfield 40, 3) := by decide +kernel
theorem own_d15_5 : decode prog_71_method_13_code 5 = .ok (.return_, 1) := by decide +kernel
theorem own_ef15 (m : MethodId) (r0 : Addr) (p1 : Int32) : entryFrame m #[(.ref r0), (.int p1)] 2 = mkF m 0 #[.val (.ref r0), .val (.int p1)] [] := by first | (simp [entryFrame, mkF, argsToLocals, Value.category]; done) | rfl
def own_Q15 (Z : State) (r0 : Addr) (p1 : Int32) (b_b : Addr) (w_e : Int32) (b_n : Addr) (w_m : Int32) (w_p : Int32) (h0 : Heap) (n0 : Nat) (v : Option Value) (h : Heap) (L : List Loc) : Prop := (v = none) ∧ (Fr n0 L) ∧ (Keep h0 h [r0]) ∧ (Exa Z h r0 "com/example/wireform/wireform/wire/WireReader") ∧ (Fld Z h r0 "com/example/wireform/wireform/wire/WireReader" "bytes" "[B" (.ref b_b)) ∧ (Fld Z h r0 "com/example/wireform/wireform/wire/WireReader" "end" "I" (.int w_e)) ∧ (Fld Z h r0 "com/example/wireform/wireform/wire/WireReader" "nesting" "Lcom/example/wireform/wireform/wire/Nesting;" (.ref b_n)) ∧ (Fld Z h r0 "com/example/wireform/wireform/wire/WireReader" "limit" "I" (.int p1)) ∧ (Fld Z h r0 "com/example/wireform/wireform/wire/WireReader" "position" "I" (.int w_p))
set_option maxRecDepth 65536 in
set_option maxHeartbeats 40000000 in
theorem own_rm15 (l : Launch) (Z : State) (a0 : Array Value) (hw : ∀ d ∈ tables_1, d.before a0 Z = true) (ws : List Jvm.Cond) (r0 : Addr) (p1 : Int32) (b_b : Addr) (w_e : Int32) (b_n : Addr) (w_m : Int32) (w_p : Int32) (h0 : Heap) (n0 : Nat) (Z0 : n0 ≤ h0.size) (E_r0 : Exa Z h0 r0 "com/example/wireform/wireform/wire/WireReader") (F_r0_bytes : Fld Z h0 r0 "com/example/wireform/wireform/wire/WireReader" "bytes" "[B" (.ref b_b)) (F_r0_end : Fld Z h0 r0 "com/example/wireform/wireform/wire/WireReader" "end" "I" (.int w_e)) (F_r0_nesting : Fld Z h0 r0 "com/example/wireform/wireform/wire/WireReader" "nesting" "Lcom/example/wireform/wireform/wire/Nesting;" (.ref b_n)) (F_r0_limit : Fld Z h0 r0 "com/example/wireform/wireform/wire/WireReader" "limit" "I" (.int w_m)) (F_r0_position : Fld Z h0 r0 "com/example/wireform/wireform/wire/WireReader" "position" "I" (.int w_p)) (g_r0 : n0 ≤ r0) :
    MetFree l (⟨"com/example/wireform/wireform/wire/WireReader", "endLengthDelimited", "(I)V"⟩ : MethodName) (head1 (Jvm.Cond.code (⟨"com/example/wireform/wireform/wire/WireReader", "endLengthDelimited", "(I)V"⟩ : MethodName) prog_71_method_13_code 2 none :: ws) ({ frames := 0, cells := 0, slots := 0, locals := 0 } : Room)) (fun a U => a = #[(.ref r0), (.int p1)] ∧ Z.Warmed39 U.vm ∧ U.heap = h0) (fun _ _ _ _ _ => True) (fun _ U o U' => ∃ v L, o = .returned v ∧ own_Q15 Z r0 p1 b_b w_e b_n w_m w_p h0 n0 v U'.heap L ∧ FrameEnd U o U' L ({ frames := 0, cells := 0, slots := 0, locals := 0 } : Room).cells ({ frames := 0, cells := 0, slots := 0, locals := 0 } : Room).slots) := by
  refine MetFree.of_bodySF (plainFor_of_name own_pn2) hisR ?_
  intro p e s m args below meth c s₁ Bd hml0 hP hK
  obtain ⟨rfl, hZ, hh⟩ := hP
  have hx := Bd.exec
  have hby := Bd.bytes
  have hml : c.maxLocals = 2 := hml0
  have hown : s.vm.findClass "com/example/wireform/wireform/wire/WireReader" = some m.cls := findClass_of_methodNamed Bd.named
  have hnm := (name_of_methodNamed Bd.named Bd.method).1
  have X0 : Stand p l e ({ frames := 0, cells := 0, slots := 0, locals := 0 } : Room) s m #[(.ref r0), (.int p1)] below meth c s₁ [] 0 0 := Stand.of_body Bd
  have e0 : s₁.heap = h0 := by rw [← hh, Bd.state]; rfl
  have N0 := Fr.nil n0
  have pre0 : ∀ t, Steps p.tables e below (s₁.setTop (mkF m 0 #[.val (.ref r0), .val (.int p1)] [])) t → Steps p.tables e below (s₁.setTop (entryFrame m #[(.ref r0), (.int p1)] 2)) t := fun t k => castTop (own_ef15 m r0 p1) k
  refine own_run (own_st pre0 ?_)
  refine own_st (B := s₁.setTop (mkF m 2 #[.val (.ref r0), .val (.int p1)] [(.int p1), (.ref r0)])) (fun target kt => ?_) ?_
  · show Steps p.tables e below (s₁.setTop (mkF m 0 #[.val (.ref r0), .val (.int p1)] [])) target
    refine XS.aloadN X0.here hx rfl (hb hby own_d15_0) rfl rfl ?_
    show Steps p.tables e below (s₁.setTop (mkF m 1 #[.val (.ref r0), .val (.int p1)] [(.ref r0)])) target
    refine XS.iloadN X0.here hx rfl (hb hby own_d15_1) rfl ?_
    exact kt
  obtain ⟨Tg2, hg2, Xg2, eg2, Wg2, stg2⟩ := putF X0 hx hZ hown (host := "") (Or.inl (hw _ (List.mem_of_getElem? (i := 26) rfl))) Via.refl e0 F_r0_limit E_r0 (Or.inl (hw _ (List.mem_of_getElem? (i := 27) rfl))) (hw _ (List.mem_of_getElem? (i := 3) rfl)) (ty := .int) (by decide) rfl rfl (g := (mkF m 2 #[.val (.ref r0), .val (.int p1)] [(.int p1), (.ref r0)])) rfl rfl (hb hby own_d15_2)
  refine own_st stg2 ?_
  have Ng2 := Fr.snoc Xg2 N0 g_r0
  have F := E_r0.wr Wg2
  have F_1 := F_r0_bytes.other Wg2 (Or.inr (slot_ne (Or.inr (hw _ (List.mem_of_getElem? (i := 21) rfl))) (Or.inl (hw _ (List.mem_of_getElem? (i := 27) rfl))) (by decide) (t := (.array .byte)) (t' := .int) (by decide) (by decide)))
  have F_2 := F_r0_end.other Wg2 (Or.inr (slot_ne (Or.inr (hw _ (List.mem_of_getElem? (i := 23) rfl))) (Or.inl (hw _ (List.mem_of_getElem? (i := 27) rfl))) (by decide) (t := .int) (t' := .int) (by decide) (by decide)))
  have F_3 := F_r0_nesting.other Wg2 (Or.inr (slot_ne (Or.inr (hw _ (List.mem_of_getElem? (i := 25) rfl))) (Or.inl (hw _ (List.mem_of_getElem? (i := 27) rfl))) (by decide) (t := (.object "com/example/wireform/wireform/wire/Nesting")) (t' := .int) (by decide) (by decide)))
  have F_4 := F_r0_limit.same Wg2
  have F_5 := F_r0_position.other Wg2 (Or.inr (slot_ne (Or.inl (hw _ (List.mem_of_getElem? (i := 34) rfl))) (Or.inl (hw _ (List.mem_of_getElem? (i := 27) rfl))) (by decide) (t := .int) (t' := .int) (by decide) (by decide)))
  have Zz : n0 ≤ hg2.size := Nat.le_trans Z0 (Keep.of_wr Wg2).1
  have Kc := (Keep.refl h0 [r0]).wr Wg2 (Or.inl (List.mem_of_getElem? (i := 0) rfl))
  obtain ⟨fs, hr, hrun, hended, hW, hsame⟩ := Xg2.leave (v := none) (fun _ => rfl)
  have hend : Steps p.tables e below (Tg2.setTop (mkF m 5 #[.val (.ref r0), .val (.int p1)] [])) (Tg2.setFrames fs) := by
    exact Xg2.returnOut hx Bd.returns (hb hby own_d15_5) hr
  refine own_fin hend ⟨_, hrun, hended, _, _, rfl, ?_, ⟨_, rfl⟩, hW, hsame.mono (by decide) (by decide)⟩
  show own_Q15 Z r0 p1 b_b w_e b_n w_m w_p h0 n0 _ Tg2.heap _
  rw [eg2]
  exact ⟨rfl, Ng2, Kc, F, F_1, F_2, F_3, F_4, F_5⟩
theorem own_cr (p q v : Int32) (hv : v = q - p) (h1 : 1 ≤ p.toInt) (h2 : p.toInt ≤ q.toInt) (h3 : q.toInt ≤ 8) :
    ¬ v < (0 : Int32) ∧ v.toNatClampNeg ≤ 8 ∧ (if v < ((8 : Int32) - p) then v else ((8 : Int32) - p)) = v ∧ v.toNatClampNeg < 2 ^ 31 ∧ ¬ p < (0 : Int32) ∧ p.toNatClampNeg + v.toNatClampNeg ≤ 8 ∧ (0 : Int32).toNatClampNeg + v.toNatClampNeg ≤ v.toNatClampNeg := by
  have k1 := c_isub q p
  have k2 := c_isub 8 p
  have e8 : (8 : Int32).toInt = 8 := by decide
  have r1 := rng32 (q - p)
  have r2 := rng32 (8 - p)
  rw [← hv] at k1 r1
  rw [e8] at k2
  have n1 := own_nc v (by omega)
  have n2 := own_nc p (by omega)
  have n0 : (0 : Int32).toNatClampNeg = 0 := by decide
  refine ⟨own_nneg v (by omega), by omega, ?_, by omega, own_nneg p (by omega), by omega, by omega⟩
  by_cases hc : v < ((8 : Int32) - p)
  · rw [if_pos hc]
  · rw [if_neg hc]
    apply Int32.toInt_inj.mp
    rw [Int32.lt_iff_toInt_lt] at hc
    omega
theorem own_d13_0 : decode jdk_29_method_69_code 0 = .ok (.iload_n 0, 1) := by decide +kernel
theorem own_d13_1 : decode jdk_29_method_69_code 1 = .ok (.iload_n 1, 1) := by decide +kernel
theorem own_d13_2 : decode jdk_29_method_69_code 2 = .ok (.if_icmp .gt 7, 3) := by decide +kernel
theorem own_d13_5 : decode jdk_29_method_69_code 5 = .ok (.iload_n 0, 1) := by decide +kernel
theorem own_d13_6 : decode jdk_29_method_69_code 6 = .ok (.goto 4, 3) := by decide +kernel
theorem own_d13_9 : decode jdk_29_method_69_code 9 = .ok (.iload_n 1, 1) := by decide +kernel
theorem own_d13_10 : decode jdk_29_method_69_code 10 = .ok (.ireturn, 1) := by decide +kernel
theorem own_ef13 (m : MethodId) (p0 : Int32) (p1 : Int32) : entryFrame m #[(.int p0), (.int p1)] 2 = mkF m 0 #[.val (.int p0), .val (.int p1)] [] := by first | (simp [entryFrame, mkF, argsToLocals, Value.category]; done) | rfl
def own_Q13 (Z : State) (p0 : Int32) (p1 : Int32) (h0 : Heap) (n0 : Nat) (v : Option Value) (h : Heap) (L : List Loc) : Prop := (v = some (.int ((if p1 < p0 then p1 else p0)))) ∧ (Fr n0 L) ∧ (h = h0)
set_option maxRecDepth 65536 in
set_option maxHeartbeats 40000000 in
theorem own_rm13 (l : Launch) (Z : State) (a0 : Array Value) (hw : ∀ d ∈ tables_1, d.before a0 Z = true) (ws : List Jvm.Cond) (p0 : Int32) (p1 : Int32) (h0 : Heap) (n0 : Nat) (Z0 : n0 ≤ h0.size) :
    MetFree l (⟨"java/lang/Math", "min", "(II)I"⟩ : MethodName) (head1 (Jvm.Cond.code (⟨"java/lang/Math", "min", "(II)I"⟩ : MethodName) jdk_29_method_69_code 2 (some .int) :: ws) ({ frames := 0, cells := 0, slots := 0, locals := 0 } : Room)) (fun a U => a = #[(.int p0), (.int p1)] ∧ Z.Warmed39 U.vm ∧ U.heap = h0) (fun _ _ _ _ _ => True) (fun _ U o U' => ∃ v L, o = .returned v ∧ own_Q13 Z p0 p1 h0 n0 v U'.heap L ∧ FrameEnd U o U' L ({ frames := 0, cells := 0, slots := 0, locals := 0 } : Room).cells ({ frames := 0, cells := 0, slots := 0, locals := 0 } : Room).slots) := by
  refine MetFree.of_bodySF (Jvm.Free.JP.mathPlain rfl (by decide +kernel)) hisR ?_
  intro p e s m args below meth c s₁ Bd hml0 hP hK
  obtain ⟨rfl, hZ, hh⟩ := hP
  have hx := Bd.exec
  have hby := Bd.bytes
  have hml : c.maxLocals = 2 := hml0
  have hown : s.vm.findClass "java/lang/Math" = some m.cls := findClass_of_methodNamed Bd.named
  have hnm := (name_of_methodNamed Bd.named Bd.method).1
  have X0 : Stand p l e ({ frames := 0, cells := 0, slots := 0, locals := 0 } : Room) s m #[(.int p0), (.int p1)] below meth c s₁ [] 0 0 := Stand.of_body Bd
  have e0 : s₁.heap = h0 := by rw [← hh, Bd.state]; rfl
  have N0 := Fr.nil n0
  have pre0 : ∀ t, Steps p.tables e below (s₁.setTop (mkF m 0 #[.val (.int p0), .val (.int p1)] [])) t → Steps p.tables e below (s₁.setTop (entryFrame m #[(.int p0), (.int p1)] 2)) t := fun t k => castTop (own_ef13 m p0 p1) k
  refine own_run (own_st pre0 ?_)
  refine own_st (B := s₁.setTop (mkF m 2 #[.val (.int p0), .val (.int p1)] [(.int p1), (.int p0)])) (fun target kt => ?_) ?_
  · show Steps p.tables e below (s₁.setTop (mkF m 0 #[.val (.int p0), .val (.int p1)] [])) target
    refine XS.iloadN X0.here hx rfl (hb hby own_d13_0) rfl ?_
    show Steps p.tables e below (s₁.setTop (mkF m 1 #[.val (.int p0), .val (.int p1)] [(.int p0)])) target
    refine XS.iloadN X0.here hx rfl (hb hby own_d13_1) rfl ?_
    exact kt
  obtain ⟨_, ⟨j10_s0, rfl, hj10_s0⟩, st_M10⟩ : own_Lead p.tables e below (s₁.setTop (mkF m 2 #[.val (.int p0), .val (.int p1)] [(.int p1), (.int p0)])) (fun B => ∃ (j10_s0 : Int32), B = s₁.setTop (mkF m 10 #[.val (.int p0), .val (.int p1)] [(.int j10_s0)]) ∧ j10_s0 = (if p1 < p0 then p1 else p0)) := by
    by_cases c2 : p1 < p0
    · refine own_st (B := s₁.setTop (mkF m 10 #[.val (.int p0), .val (.int p1)] [(.int p1)])) (fun target kt => ?_) ?_
      · show Steps p.tables e below (s₁.setTop (mkF m 2 #[.val (.int p0), .val (.int p1)] [(.int p1), (.int p0)])) target
        refine XS.icmpYes X0.here hx rfl (pc0 := 2) (pc' := 9) rfl (hb hby own_d13_2) rfl (tlt c2).2.2.1 (by decide) (by decide) ?_
        show Steps p.tables e below (s₁.setTop (mkF m 9 #[.val (.int p0), .val (.int p1)] [])) target
        refine XS.iloadN X0.here hx rfl (hb hby own_d13_9) rfl ?_
        exact kt
      exact ⟨_, ⟨p1, rfl, (if_pos c2).symm⟩, fun _ k => k⟩
    · refine own_st (B := s₁.setTop (mkF m 10 #[.val (.int p0), .val (.int p1)] [(.int p0)])) (fun target kt => ?_) ?_
      · show Steps p.tables e below (s₁.setTop (mkF m 2 #[.val (.int p0), .val (.int p1)] [(.int p1), (.int p0)])) target
        refine XS.icmpNo X0.here hx rfl (hb hby own_d13_2) rfl (flt c2).2.2.1 ?_
        show Steps p.tables e below (s₁.setTop (mkF m 5 #[.val (.int p0), .val (.int p1)] [])) target
        refine XS.iloadN X0.here hx rfl (hb hby own_d13_5) rfl ?_
        show Steps p.tables e below (s₁.setTop (mkF m 6 #[.val (.int p0), .val (.int p1)] [(.int p0)])) target
        refine XS.goto X0.here hx rfl (pc0 := 6) (pc' := 10) rfl (hb hby own_d13_6) (by decide) (by decide) ?_
        exact kt
      exact ⟨_, ⟨p0, rfl, (if_neg c2).symm⟩, fun _ k => k⟩
  refine own_st st_M10 ?_
  obtain ⟨fs, hr, hrun, hended, hW, hsame⟩ := X0.leave (v := some (.int j10_s0)) (fun h => by rw [Bd.returns] at h; cases h)
  have hend : Steps p.tables e below (s₁.setTop (mkF m 10 #[.val (.int p0), .val (.int p1)] [(.int j10_s0)])) (s₁.setFrames fs) := by
    exact retI X0 hx Bd.returns (hb hby own_d13_10) hr
  refine own_fin hend ⟨_, hrun, hended, _, _, rfl, ?_, ⟨_, rfl⟩, hW, hsame.mono (by decide) (by decide)⟩
  show own_Q13 Z p0 p1 h0 n0 _ s₁.heap _
  rw [e0]
  subst hj10_s0
  exact ⟨(congrArg (fun z => some (Value.int z)) rfl), N0, rfl⟩
theorem own_pn3 : plainName "java/util/Arrays" = true := by first | (simp [plainName, overriddenIn]; done) | decide +kernel
theorem own_d12_0 : decode jdk_65_method_131_code 0 = .ok (.iload_n 1, 1) := by decide +kernel
theorem own_d12_1 : decode jdk_65_method_131_code 1 = .ok (.iload_n 0, 1) := by decide +kernel
theorem own_d12_2 : decode jdk_65_method_131_code 2 = .ok (.if_icmp .ge 35, 3) := by decide +kernel
theorem own_d12_37 : decode jdk_65_method_131_code 37 = .ok (.return_, 1) := by decide +kernel
theorem own_ef12 (m : MethodId) (p0 : Int32) (p1 : Int32) : entryFrame m #[(.int p0), (.int p1)] 2 = mkF m 0 #[.val (.int p0), .val (.int p1)] [] := by first | (simp [entryFrame, mkF, argsToLocals, Value.category]; done) | rfl
def own_Q12 (Z : State) (p0 : Int32) (p1 : Int32) (h0 : Heap) (n0 : Nat) (v : Option Value) (h : Heap) (L : List Loc) : Prop := (v = none) ∧ (Fr n0 L) ∧ (h = h0)
set_option maxRecDepth 65536 in
set_option maxHeartbeats 40000000 in
theorem own_rm12 (l : Launch) (Z : State) (a0 : Array Value) (hw : ∀ d ∈ tables_1, d.before a0 Z = true) (ws : List Jvm.Cond) (p0 : Int32) (p1 : Int32) (h0 : Heap) (n0 : Nat) (Z0 : n0 ≤ h0.size) (hle : ¬ (p1 < p0)) :
    MetFree l (⟨"java/util/Arrays", "checkLength", "(II)V"⟩ : MethodName) (head1 (Jvm.Cond.code (⟨"java/util/Arrays", "checkLength", "(II)V"⟩ : MethodName) jdk_65_method_131_code 2 none :: ws) ({ frames := 0, cells := 0, slots := 0, locals := 0 } : Room)) (fun a U => a = #[(.int p0), (.int p1)] ∧ Z.Warmed39 U.vm ∧ U.heap = h0) (fun _ _ _ _ _ => True) (fun _ U o U' => ∃ v L, o = .returned v ∧ own_Q12 Z p0 p1 h0 n0 v U'.heap L ∧ FrameEnd U o U' L ({ frames := 0, cells := 0, slots := 0, locals := 0 } : Room).cells ({ frames := 0, cells := 0, slots := 0, locals := 0 } : Room).slots) := by
  refine MetFree.of_bodySF (plainFor_of_name own_pn3) hisR ?_
  intro p e s m args below meth c s₁ Bd hml0 hP hK
  obtain ⟨rfl, hZ, hh⟩ := hP
  have hx := Bd.exec
  have hby := Bd.bytes
  have hml : c.maxLocals = 2 := hml0
  have hown : s.vm.findClass "java/util/Arrays" = some m.cls := findClass_of_methodNamed Bd.named
  have hnm := (name_of_methodNamed Bd.named Bd.method).1
  have X0 : Stand p l e ({ frames := 0, cells := 0, slots := 0, locals := 0 } : Room) s m #[(.int p0), (.int p1)] below meth c s₁ [] 0 0 := Stand.of_body Bd
  have e0 : s₁.heap = h0 := by rw [← hh, Bd.state]; rfl
  have N0 := Fr.nil n0
  have pre0 : ∀ t, Steps p.tables e below (s₁.setTop (mkF m 0 #[.val (.int p0), .val (.int p1)] [])) t → Steps p.tables e below (s₁.setTop (entryFrame m #[(.int p0), (.int p1)] 2)) t := fun t k => castTop (own_ef12 m p0 p1) k
  refine own_run (own_st pre0 ?_)
  refine own_st (B := s₁.setTop (mkF m 2 #[.val (.int p0), .val (.int p1)] [(.int p0), (.int p1)])) (fun target kt => ?_) ?_
  · show Steps p.tables e below (s₁.setTop (mkF m 0 #[.val (.int p0), .val (.int p1)] [])) target
    refine XS.iloadN X0.here hx rfl (hb hby own_d12_0) rfl ?_
    show Steps p.tables e below (s₁.setTop (mkF m 1 #[.val (.int p0), .val (.int p1)] [(.int p1)])) target
    refine XS.iloadN X0.here hx rfl (hb hby own_d12_1) rfl ?_
    exact kt
  have c2 : ¬ (p1 < p0) := by
    exact hle
  refine own_st (B := s₁.setTop (mkF m 37 #[.val (.int p0), .val (.int p1)] [])) (fun target kt => ?_) ?_
  · show Steps p.tables e below (s₁.setTop (mkF m 2 #[.val (.int p0), .val (.int p1)] [(.int p0), (.int p1)])) target
    refine XS.icmpYes X0.here hx rfl (pc0 := 2) (pc' := 37) rfl (hb hby own_d12_2) rfl (flt c2).2.1 (by decide) (by decide) ?_
    exact kt
  obtain ⟨fs, hr, hrun, hended, hW, hsame⟩ := X0.leave (v := none) (fun _ => rfl)
  have hend : Steps p.tables e below (s₁.setTop (mkF m 37 #[.val (.int p0), .val (.int p1)] [])) (s₁.setFrames fs) := by
    exact X0.returnOut hx Bd.returns (hb hby own_d12_37) hr
  refine own_fin hend ⟨_, hrun, hended, _, _, rfl, ?_, ⟨_, rfl⟩, hW, hsame.mono (by decide) (by decide)⟩
  show own_Q12 Z p0 p1 h0 n0 _ s₁.heap _
  rw [e0]
  exact ⟨rfl, N0, rfl⟩
theorem own_pd3 : parseMethodDescriptor "(II)V" = some ⟨[.int, .int], none⟩ := by decide +kernel
theorem own_pd4 : parseMethodDescriptor "(II)I" = some ⟨[.int, .int], some .int⟩ := by decide +kernel
theorem own_d11_0 : decode jdk_65_method_133_code 0 = .ok (.iload_n 1, 1) := by decide +kernel
theorem own_d11_1 : decode jdk_65_method_133_code 1 = .ok (.iload_n 2, 1) := by decide +kernel
theorem own_d11_2 : decode jdk_65_method_133_code 2 = .ok (.invokestatic 343, 3) := by decide +kernel
theorem own_d11_5 : decode jdk_65_method_133_code 5 = .ok (.iload_n 2, 1) := by decide +kernel
theorem own_d11_6 : decode jdk_65_method_133_code 6 = .ok (.iload_n 1, 1) := by decide +kernel
theorem own_d11_7 : decode jdk_65_method_133_code 7 = .ok (.isub, 1) := by decide +kernel
theorem own_d11_8 : decode jdk_65_method_133_code 8 = .ok (.istore_n 3, 1) := by decide +kernel
theorem own_d11_9 : decode jdk_65_method_133_code 9 = .ok (.iload_n 3, 1) := by decide +kernel
theorem own_d11_10 : decode jdk_65_method_133_code 10 = .ok (.newarray .byte, 2) := by decide +kernel
theorem own_d11_12 : decode jdk_65_method_133_code 12 = .ok (.astore 4, 2) := by decide +kernel
theorem own_d11_14 : decode jdk_65_method_133_code 14 = .ok (.aload_n 0, 1) := by decide +kernel
theorem own_d11_15 : decode jdk_65_method_133_code 15 = .ok (.iload_n 1, 1) := by decide +kernel
theorem own_d11_16 : decode jdk_65_method_133_code 16 = .ok (.aload 4, 2) := by decide +kernel
theorem own_d11_18 : decode jdk_65_method_133_code 18 = .ok (.iconst 0, 1) := by decide +kernel
theorem own_d11_19 : decode jdk_65_method_133_code 19 = .ok (.aload_n 0, 1) := by decide +kernel
theorem own_d11_20 : decode jdk_65_method_133_code 20 = .ok (.arraylength, 1) := by decide +kernel
theorem own_d11_21 : decode jdk_65_method_133_code 21 = .ok (.iload_n 1, 1) := by decide +kernel
theorem own_d11_22 : decode jdk_65_method_133_code 22 = .ok (.isub, 1) := by decide +kernel
theorem own_d11_23 : decode jdk_65_method_133_code 23 = .ok (.iload_n 3, 1) := by decide +kernel
theorem own_d11_24 : decode jdk_65_method_133_code 24 = .ok (.invokestatic 304, 3) := by decide +kernel
theorem own_d11_27 : decode jdk_65_method_133_code 27 = .ok (.invokestatic 150, 3) := by decide +kernel
theorem own_d11_30 : decode jdk_65_method_133_code 30 = .ok (.aload 4, 2) := by decide +kernel
theorem own_d11_32 : decode jdk_65_method_133_code 32 = .ok (.areturn, 1) := by decide +kernel
theorem own_ef11 (m : MethodId) (r0 : Addr) (p1 : Int32) (p2 : Int32) : entryFrame m #[(.ref r0), (.int p1), (.int p2)] 5 = mkF m 0 #[.val (.ref r0), .val (.int p1), .val (.int p2), .unset, .unset] [] := by first | (simp [entryFrame, mkF, argsToLocals, Value.category]; done) | rfl
def own_Q11 (Z : State) (r0 : Addr) (p1 : Int32) (p2 : Int32) (g_s : Nat → Int32) (h0 : Heap) (n0 : Nat) (v : Option Value) (h : Heap) (L : List Loc) : Prop := ∃ (b10 : Addr), (v = some (.ref b10)) ∧ (Fr n0 L) ∧ (Keep h0 h []) ∧ (own_RayL Z h b10 (((p2 - p1))).toNatClampNeg ()) ∧ (h0.size ≤ b10)
set_option maxRecDepth 65536 in
set_option maxHeartbeats 40000000 in
theorem own_rm11 (l : Launch) (Z : State) (a0 : Array Value) (hw : ∀ d ∈ tables_1, d.before a0 Z = true) (ws : List Jvm.Cond) (r0 : Addr) (p1 : Int32) (p2 : Int32) (g_s : Nat → Int32) (h0 : Heap) (n0 : Nat) (Z0 : n0 ≤ h0.size) (R_r0 : own_RayB Z h0 r0 8 g_s) (hC : 1 ≤ p1.toInt ∧ p1.toInt ≤ p2.toInt ∧ p2.toInt ≤ 8) :
    MetFree l (⟨"java/util/Arrays", "copyOfRangeByte", "([BII)[B"⟩ : MethodName) (head1 (Jvm.Cond.code (⟨"java/util/Arrays", "copyOfRangeByte", "([BII)[B"⟩ : MethodName) jdk_65_method_133_code 5 (some (.array .byte)) :: ws) ({ frames := 1, cells := 1, slots := 8, locals := 18 } : Room)) (fun a U => a = #[(.ref r0), (.int p1), (.int p2)] ∧ Z.Warmed39 U.vm ∧ U.heap = h0) (fun _ _ _ _ _ => True) (fun _ U o U' => ∃ v L, o = .returned v ∧ own_Q11 Z r0 p1 p2 g_s h0 n0 v U'.heap L ∧ FrameEnd U o U' L ({ frames := 1, cells := 1, slots := 8, locals := 18 } : Room).cells ({ frames := 1, cells := 1, slots := 8, locals := 18 } : Room).slots) := by
  refine MetFree.of_bodySF (plainFor_of_name own_pn3) hisR ?_
  intro p e s m args below meth c s₁ Bd hml0 hP hK
  obtain ⟨rfl, hZ, hh⟩ := hP
  have hx := Bd.exec
  have hby := Bd.bytes
  have hml : c.maxLocals = 5 := hml0
  have hown : s.vm.findClass "java/util/Arrays" = some m.cls := findClass_of_methodNamed Bd.named
  have hnm := (name_of_methodNamed Bd.named Bd.method).1
  have X0 : Stand p l e ({ frames := 1, cells := 1, slots := 8, locals := 18 } : Room) s m #[(.ref r0), (.int p1), (.int p2)] below meth c s₁ [] 0 0 := Stand.of_body Bd
  have e0 : s₁.heap = h0 := by rw [← hh, Bd.state]; rfl
  have N0 := Fr.nil n0
  have pre0 : ∀ t, Steps p.tables e below (s₁.setTop (mkF m 0 #[.val (.ref r0), .val (.int p1), .val (.int p2), .unset, .unset] [])) t → Steps p.tables e below (s₁.setTop (entryFrame m #[(.ref r0), (.int p1), (.int p2)] 5)) t := fun t k => castTop (own_ef11 m r0 p1 p2) k
  refine own_run (own_st pre0 ?_)
  refine own_st (B := s₁.setTop (mkF m 2 #[.val (.ref r0), .val (.int p1), .val (.int p2), .unset, .unset] [(.int p2), (.int p1)])) (fun target kt => ?_) ?_
  · show Steps p.tables e below (s₁.setTop (mkF m 0 #[.val (.ref r0), .val (.int p1), .val (.int p2), .unset, .unset] [])) target
    refine XS.iloadN X0.here hx rfl (hb hby own_d11_0) rfl ?_
    show Steps p.tables e below (s₁.setTop (mkF m 1 #[.val (.ref r0), .val (.int p1), .val (.int p2), .unset, .unset] [(.int p1)])) target
    refine XS.iloadN X0.here hx rfl (hb hby own_d11_1) rfl ?_
    exact kt
  obtain ⟨_, _, ⟨Tg2, Lg2, kg2, ng2⟩, -, Xg2, ⟨Lcg2, hQg2, lg2, yg2, zg2⟩, stg2⟩ := Jvm.LawKit.callS X0 hx (y := (⟨"java/util/Arrays", "checkLength", "(II)V"⟩ : MethodName)) hown (mvT hZ (hw _ (List.mem_of_getElem? (i := 64) rfl))) (mvT hZ (hw _ (List.mem_of_getElem? (i := 65) rfl))) (mvT hZ (hw _ (List.mem_of_getElem? (i := 59) rfl))) (mvT hZ (hw _ (List.mem_of_getElem? (i := 66) rfl))) (by decide) (backOf (W := 0) (own_rm12 l Z a0 hw [] p1 p2 h0 n0 Z0 (show ¬ (p2 < p1) from (by rw [Int32.lt_iff_toInt_lt]; omega))) hZ (hw _ (List.mem_of_getElem? (i := 66) rfl)) (hw _ (List.mem_of_getElem? (i := 59) rfl)) (by decide) (by decide)) (g := (mkF m 2 #[.val (.ref r0), .val (.int p1), .val (.int p2), .unset, .unset] [(.int p2), (.int p1)])) rfl (by rw [hml]; rfl) (argsL := [(.int p1), (.int p2)]) (rest := []) (lenOf own_pd3 rfl) rfl (by show 2 * 0 + _ ≤ _; exact Nat.le_of_eq rfl) (hb hby own_d11_2) (fun _ _ => ⟨rfl, e0, (by decide : 0 + 0 ≤ _), (by decide : 0 + 0 ≤ _)⟩)
  dsimp only [Pt.U, Pt.locs, Pt.cells, Pt.slots] at Xg2 lg2 yg2 zg2 stg2 hQg2
  subst lg2 yg2 zg2
  obtain ⟨rfl, Ng2q, eg2⟩ := hQg2
  have Ng2 := Fr.app N0 Ng2q
  refine own_st (stg2) ?_
  obtain ⟨v8, hv8⟩ : ∃ z : Int32, z = (p2 - p1) := ⟨_, rfl⟩
  refine own_st (B := Tg2.setTop (mkF m 9 #[.val (.ref r0), .val (.int p1), .val (.int p2), .val (.int v8), .unset] [])) (fun target kt => ?_) ?_
  · show Steps p.tables e below (Tg2.setTop (mkF m 5 #[.val (.ref r0), .val (.int p1), .val (.int p2), .unset, .unset] [])) target
    refine XS.iloadN Xg2.here hx rfl (hb hby own_d11_5) rfl ?_
    show Steps p.tables e below (Tg2.setTop (mkF m 6 #[.val (.ref r0), .val (.int p1), .val (.int p2), .unset, .unset] [(.int p2)])) target
    refine XS.iloadN Xg2.here hx rfl (hb hby own_d11_6) rfl ?_
    show Steps p.tables e below (Tg2.setTop (mkF m 7 #[.val (.ref r0), .val (.int p1), .val (.int p2), .unset, .unset] [(.int p1), (.int p2)])) target
    refine XS.isub Xg2.here hx rfl (hb hby own_d11_7) rfl ?_
    show Steps p.tables e below (Tg2.setTop (mkF m 8 #[.val (.ref r0), .val (.int p1), .val (.int p2), .unset, .unset] [(.int (p2 - p1))])) target
    refine XS.istoreN Xg2.here hx rfl (hb hby own_d11_8) rfl (l' := #[.val (.ref r0), .val (.int p1), .val (.int p2), .val (.int v8), .unset]) (by subst hv8; rfl) ?_
    exact kt
  have hCC := own_cr p1 p2 v8 hv8 hC.1 hC.2.1 hC.2.2
  refine own_st (B := Tg2.setTop (mkF m 10 #[.val (.ref r0), .val (.int p1), .val (.int p2), .val (.int v8), .unset] [(.int v8)])) (fun target kt => ?_) ?_
  · show Steps p.tables e below (Tg2.setTop (mkF m 9 #[.val (.ref r0), .val (.int p1), .val (.int p2), .val (.int v8), .unset] [])) target
    refine XS.iloadN Xg2.here hx rfl (hb hby own_d11_9) rfl ?_
    exact kt
  obtain ⟨Tg10, hg10, kg10, Xg10, eg10, Eg10, Ag10, stg10⟩ := newP Xg2 hx hZ (hw _ (List.mem_of_getElem? (i := 1) rfl)) eg2 (g := (mkF m 10 #[.val (.ref r0), .val (.int p1), .val (.int p2), .val (.int v8), .unset] [(.int v8)])) rfl (hb hby own_d11_10) rfl hCC.1 (cap := 8) hCC.2.1 (by decide) (by decide) (by decide)
  obtain ⟨b10, gg10⟩ : ∃ z, z = h0.size := ⟨_, rfl⟩
  rw [← gg10] at Ag10 stg10
  refine own_st stg10 ?_
  have ne_r0_b10 : r0 ≠ b10 := Nat.ne_of_lt (Nat.lt_of_lt_of_le R_r0.lt (Nat.le_of_eq gg10.symm))
  have g_b10 : n0 ≤ b10 := Nat.le_trans Z0 (Nat.le_of_eq gg10.symm)
  have sz_b10 : h0.size ≤ b10 := Nat.le_trans (Keep.refl h0 []).1 (Nat.le_of_eq gg10.symm)
  have F := R_r0.ext Eg10
  have Zz : n0 ≤ hg10.size := Nat.le_trans Z0 Eg10.1
  have Kc := (Keep.refl h0 []).ext Eg10
  have F_1 : own_RayB Z hg10 b10 (v8).toNatClampNeg (fun _ => (0 : Int32)) := own_RayB_new Ag10 hCC.1 rfl
  refine own_st (B := Tg10.setTop (mkF m 20 #[.val (.ref r0), .val (.int p1), .val (.int p2), .val (.int v8), .val (.ref b10)] [(.ref r0), (.int (0 : Int32)), (.ref b10), (.int p1), (.ref r0)])) (fun target kt => ?_) ?_
  · show Steps p.tables e below (Tg10.setTop (mkF m 12 #[.val (.ref r0), .val (.int p1), .val (.int p2), .val (.int v8), .unset] [(.ref b10)])) target
    refine XS.astore Xg10.here hx rfl (hb hby own_d11_12) rfl rfl (l' := #[.val (.ref r0), .val (.int p1), .val (.int p2), .val (.int v8), .val (.ref b10)]) rfl ?_
    show Steps p.tables e below (Tg10.setTop (mkF m 14 #[.val (.ref r0), .val (.int p1), .val (.int p2), .val (.int v8), .val (.ref b10)] [])) target
    refine XS.aloadN Xg10.here hx rfl (hb hby own_d11_14) rfl rfl ?_
    show Steps p.tables e below (Tg10.setTop (mkF m 15 #[.val (.ref r0), .val (.int p1), .val (.int p2), .val (.int v8), .val (.ref b10)] [(.ref r0)])) target
    refine XS.iloadN Xg10.here hx rfl (hb hby own_d11_15) rfl ?_
    show Steps p.tables e below (Tg10.setTop (mkF m 16 #[.val (.ref r0), .val (.int p1), .val (.int p2), .val (.int v8), .val (.ref b10)] [(.int p1), (.ref r0)])) target
    refine XS.aload Xg10.here hx rfl (hb hby own_d11_16) rfl rfl ?_
    show Steps p.tables e below (Tg10.setTop (mkF m 18 #[.val (.ref r0), .val (.int p1), .val (.int p2), .val (.int v8), .val (.ref b10)] [(.ref b10), (.int p1), (.ref r0)])) target
    refine XS.iconst Xg10.here hx rfl (hb hby own_d11_18) ?_
    show Steps p.tables e below (Tg10.setTop (mkF m 19 #[.val (.ref r0), .val (.int p1), .val (.int p2), .val (.int v8), .val (.ref b10)] [(.int (0 : Int32)), (.ref b10), (.int p1), (.ref r0)])) target
    refine XS.aloadN Xg10.here hx rfl (hb hby own_d11_19) rfl rfl ?_
    exact kt
  obtain ⟨clg20, Arg20, Szg20, -⟩ := id F
  refine own_st (B := Tg10.setTop (mkF m 21 #[.val (.ref r0), .val (.int p1), .val (.int p2), .val (.int v8), .val (.ref b10)] [(.int (8 : Int32)), (.int (0 : Int32)), (.ref b10), (.int p1), (.ref r0)])) (fun target kt => ?_) ?_
  · refine Xg10.arraylength hx (by first | exact Arg20.1 | (rw [eg10]; exact Arg20.1)) (State.isArrayOf_alike hZ.alike Arg20.2.1) (g := (mkF m 20 #[.val (.ref r0), .val (.int p1), .val (.int p2), .val (.int v8), .val (.ref b10)] [(.ref r0), (.int (0 : Int32)), (.ref b10), (.int p1), (.ref r0)])) rfl rfl (hb hby own_d11_20) _ ?_
    rw [Szg20]
    exact kt
  refine own_st (B := Tg10.setTop (mkF m 24 #[.val (.ref r0), .val (.int p1), .val (.int p2), .val (.int v8), .val (.ref b10)] [(.int v8), (.int ((8 : Int32) - p1)), (.int (0 : Int32)), (.ref b10), (.int p1), (.ref r0)])) (fun target kt => ?_) ?_
  · show Steps p.tables e below (Tg10.setTop (mkF m 21 #[.val (.ref r0), .val (.int p1), .val (.int p2), .val (.int v8), .val (.ref b10)] [(.int (8 : Int32)), (.int (0 : Int32)), (.ref b10), (.int p1), (.ref r0)])) target
    refine XS.iloadN Xg10.here hx rfl (hb hby own_d11_21) rfl ?_
    show Steps p.tables e below (Tg10.setTop (mkF m 22 #[.val (.ref r0), .val (.int p1), .val (.int p2), .val (.int v8), .val (.ref b10)] [(.int p1), (.int (8 : Int32)), (.int (0 : Int32)), (.ref b10), (.int p1), (.ref r0)])) target
    refine XS.isub Xg10.here hx rfl (hb hby own_d11_22) rfl ?_
    show Steps p.tables e below (Tg10.setTop (mkF m 23 #[.val (.ref r0), .val (.int p1), .val (.int p2), .val (.int v8), .val (.ref b10)] [(.int ((8 : Int32) - p1)), (.int (0 : Int32)), (.ref b10), (.int p1), (.ref r0)])) target
    refine XS.iloadN Xg10.here hx rfl (hb hby own_d11_23) rfl ?_
    exact kt
  obtain ⟨_, _, ⟨Tg24, Lg24, kg24, ng24⟩, -, Xg24, ⟨Lcg24, hQg24, lg24, yg24, zg24⟩, stg24⟩ := Jvm.LawKit.callS Xg10 hx (y := (⟨"java/lang/Math", "min", "(II)I"⟩ : MethodName)) hown (mvT hZ (hw _ (List.mem_of_getElem? (i := 67) rfl))) (mvT hZ (hw _ (List.mem_of_getElem? (i := 68) rfl))) (mvT hZ (hw _ (List.mem_of_getElem? (i := 69) rfl))) (mvT hZ (hw _ (List.mem_of_getElem? (i := 70) rfl))) (by decide) (backOf (W := 4) (own_rm13 l Z a0 hw [] ((8 : Int32) - p1) v8 hg10 n0 Zz) hZ (hw _ (List.mem_of_getElem? (i := 70) rfl)) (hw _ (List.mem_of_getElem? (i := 69) rfl)) (by decide) (by decide)) (g := (mkF m 24 #[.val (.ref r0), .val (.int p1), .val (.int p2), .val (.int v8), .val (.ref b10)] [(.int v8), (.int ((8 : Int32) - p1)), (.int (0 : Int32)), (.ref b10), (.int p1), (.ref r0)])) rfl (by rw [hml]; rfl) (argsL := [(.int ((8 : Int32) - p1)), (.int v8)]) (rest := [(.int (0 : Int32)), (.ref b10), (.int p1), (.ref r0)]) (lenOf own_pd4 rfl) rfl (by show 2 * 0 + _ ≤ _; exact Nat.le_of_eq rfl) (hb hby own_d11_24) (fun _ _ => ⟨rfl, eg10, (by decide : 1 + 0 ≤ _), (by decide : 8 + 0 ≤ _)⟩)
  dsimp only [Pt.U, Pt.locs, Pt.cells, Pt.slots] at Xg24 lg24 yg24 zg24 stg24 hQg24
  subst lg24 yg24 zg24
  obtain ⟨rfl, Ng24q, eg24⟩ := hQg24
  have Ng24 := Fr.app Ng2 Ng24q
  refine own_st (stg24) ?_
  rw [hCC.2.2.1]
  obtain ⟨Tg27, hg27, Lg27, Xg27, eg27, Ng27, Kg27, Ag27, stg27⟩ := own_cp Xg24 hx hZ hown (hw _ (List.mem_of_getElem? (i := 71) rfl)) (hw _ (List.mem_of_getElem? (i := 74) rfl)) (hw _ (List.mem_of_getElem? (i := 72) rfl)) (hw _ (List.mem_of_getElem? (i := 73) rfl)) eg24 (own_RayL.of F) (own_RayL.of F_1) (by decide) hCC.2.2.2.1 hCC.2.2.2.2.1 (by decide) hCC.1 hCC.2.2.2.2.2.1 hCC.2.2.2.2.2.2 Ng24 g_b10 (g := (mkF m 27 #[.val (.ref r0), .val (.int p1), .val (.int p2), .val (.int v8), .val (.ref b10)] [(.int v8), (.int (0 : Int32)), (.ref b10), (.int p1), (.ref r0)])) rfl (by rw [hml]; rfl) rfl (hb hby own_d11_27) (by decide) (W := 0) (by show 2 * 0 + _ ≤ _; exact Nat.le_of_eq rfl) (by decide)
  refine own_st stg27 ?_
  have F_2 := F.keep Kg27 (ninS ne_r0_b10 nin0)
  have Zz_1 : n0 ≤ hg27.size := Nat.le_trans Zz Kg27.1
  have Kc_1 := Kc.trans Kg27 (allS (Or.inr sz_b10) all0)
  refine own_st (B := Tg27.setTop (mkF m 32 #[.val (.ref r0), .val (.int p1), .val (.int p2), .val (.int v8), .val (.ref b10)] [(.ref b10)])) (fun target kt => ?_) ?_
  · show Steps p.tables e below (Tg27.setTop (mkF m 30 #[.val (.ref r0), .val (.int p1), .val (.int p2), .val (.int v8), .val (.ref b10)] [])) target
    refine XS.aload Xg27.here hx rfl (hb hby own_d11_30) rfl rfl ?_
    exact kt
  obtain ⟨fs, hr, hrun, hended, hW, hsame⟩ := Xg27.leave (v := some (.ref b10)) (fun h => by rw [Bd.returns] at h; cases h)
  have hend : Steps p.tables e below (Tg27.setTop (mkF m 32 #[.val (.ref r0), .val (.int p1), .val (.int p2), .val (.int v8), .val (.ref b10)] [(.ref b10)])) (Tg27.setFrames fs) := by
    jvm_step Xg27.here [Xg27.here.top, hx, (hb hby own_d11_32), Xg27.method', Bd.returns, Value.isRef, FieldType.isReference]
    first | (intro acts; rw [hr _ acts rfl rfl rfl]) | rw [hr _ _ rfl rfl rfl]
    exact Steps.refl _
  refine own_fin hend ⟨_, hrun, hended, _, _, rfl, ?_, ⟨_, rfl⟩, hW, hsame.mono (by decide) (by decide)⟩
  show own_Q11 Z r0 p1 p2 g_s h0 n0 _ Tg27.heap _
  rw [eg27]
  subst hv8
  exact ⟨b10, rfl, Ng27, Kc_1, Ag27, sz_b10⟩
theorem own_pd5 : parseMethodDescriptor "([BII)[B" = some ⟨[(.array .byte), .int, .int], some (.array .byte)⟩ := by decide +kernel
theorem own_d10_0 : decode jdk_65_method_132_code 0 = .ok (.iload_n 1, 1) := by decide +kernel
theorem own_d10_1 : decode jdk_65_method_132_code 1 = .ok (.ifCond .ne 9, 3) := by decide +kernel
theorem own_d10_10 : decode jdk_65_method_132_code 10 = .ok (.aload_n 0, 1) := by decide +kernel
theorem own_d10_11 : decode jdk_65_method_132_code 11 = .ok (.iload_n 1, 1) := by decide +kernel
theorem own_d10_12 : decode jdk_65_method_132_code 12 = .ok (.iload_n 2, 1) := by decide +kernel
theorem own_d10_13 : decode jdk_65_method_132_code 13 = .ok (.invokestatic 339, 3) := by decide +kernel
theorem own_d10_16 : decode jdk_65_method_132_code 16 = .ok (.areturn, 1) := by decide +kernel
theorem own_ef10 (m : MethodId) (r0 : Addr) (p1 : Int32) (p2 : Int32) : entryFrame m #[(.ref r0), (.int p1), (.int p2)] 3 = mkF m 0 #[.val (.ref r0), .val (.int p1), .val (.int p2)] [] := by first | (simp [entryFrame, mkF, argsToLocals, Value.category]; done) | rfl
def own_Q10 (Z : State) (r0 : Addr) (p1 : Int32) (p2 : Int32) (g_s : Nat → Int32) (h0 : Heap) (n0 : Nat) (v : Option Value) (h : Heap) (L : List Loc) : Prop := ∃ (b13_0 : Addr), (v = some (.ref b13_0)) ∧ (Fr n0 L) ∧ (Keep h0 h []) ∧ (own_RayL Z h b13_0 (p2 - p1).toNatClampNeg ()) ∧ (h0.size ≤ b13_0)
set_option maxRecDepth 65536 in
set_option maxHeartbeats 40000000 in
theorem own_rm10 (l : Launch) (Z : State) (a0 : Array Value) (hw : ∀ d ∈ tables_1, d.before a0 Z = true) (ws : List Jvm.Cond) (r0 : Addr) (p1 : Int32) (p2 : Int32) (g_s : Nat → Int32) (h0 : Heap) (n0 : Nat) (Z0 : n0 ≤ h0.size) (R_r0 : own_RayB Z h0 r0 8 g_s) (hC : 1 ≤ p1.toInt ∧ p1.toInt ≤ p2.toInt ∧ p2.toInt ≤ 8) :
    MetFree l (⟨"java/util/Arrays", "copyOfRange", "([BII)[B"⟩ : MethodName) (head1 (Jvm.Cond.code (⟨"java/util/Arrays", "copyOfRange", "([BII)[B"⟩ : MethodName) jdk_65_method_132_code 3 (some (.array .byte)) :: ws) ({ frames := 2, cells := 1, slots := 8, locals := 34 } : Room)) (fun a U => a = #[(.ref r0), (.int p1), (.int p2)] ∧ Z.Warmed39 U.vm ∧ U.heap = h0) (fun _ _ _ _ _ => True) (fun _ U o U' => ∃ v L, o = .returned v ∧ own_Q10 Z r0 p1 p2 g_s h0 n0 v U'.heap L ∧ FrameEnd U o U' L ({ frames := 2, cells := 1, slots := 8, locals := 34 } : Room).cells ({ frames := 2, cells := 1, slots := 8, locals := 34 } : Room).slots) := by
  refine MetFree.of_bodySF (plainFor_of_name own_pn3) hisR ?_
  intro p e s m args below meth c s₁ Bd hml0 hP hK
  obtain ⟨rfl, hZ, hh⟩ := hP
  have hx := Bd.exec
  have hby := Bd.bytes
  have hml : c.maxLocals = 3 := hml0
  have hown : s.vm.findClass "java/util/Arrays" = some m.cls := findClass_of_methodNamed Bd.named
  have hnm := (name_of_methodNamed Bd.named Bd.method).1
  have X0 : Stand p l e ({ frames := 2, cells := 1, slots := 8, locals := 34 } : Room) s m #[(.ref r0), (.int p1), (.int p2)] below meth c s₁ [] 0 0 := Stand.of_body Bd
  have e0 : s₁.heap = h0 := by rw [← hh, Bd.state]; rfl
  have N0 := Fr.nil n0
  have pre0 : ∀ t, Steps p.tables e below (s₁.setTop (mkF m 0 #[.val (.ref r0), .val (.int p1), .val (.int p2)] [])) t → Steps p.tables e below (s₁.setTop (entryFrame m #[(.ref r0), (.int p1), (.int p2)] 3)) t := fun t k => castTop (own_ef10 m r0 p1 p2) k
  refine own_run (own_st pre0 ?_)
  refine own_st (B := s₁.setTop (mkF m 1 #[.val (.ref r0), .val (.int p1), .val (.int p2)] [(.int p1)])) (fun target kt => ?_) ?_
  · show Steps p.tables e below (s₁.setTop (mkF m 0 #[.val (.ref r0), .val (.int p1), .val (.int p2)] [])) target
    refine XS.iloadN X0.here hx rfl (hb hby own_d10_0) rfl ?_
    exact kt
  have c1 : ¬ (p1 = (0 : Int32)) := by
    exact fun q => by have h := congrArg Int32.toInt q; rw [show (0 : Int32).toInt = 0 by decide] at h; omega
  refine own_st (B := s₁.setTop (mkF m 13 #[.val (.ref r0), .val (.int p1), .val (.int p2)] [(.int p2), (.int p1), (.ref r0)])) (fun target kt => ?_) ?_
  · show Steps p.tables e below (s₁.setTop (mkF m 1 #[.val (.ref r0), .val (.int p1), .val (.int p2)] [(.int p1)])) target
    refine XS.ifYes X0.here hx rfl (pc0 := 1) (pc' := 10) rfl (hb hby own_d10_1) rfl ((if0 _ _).trans (feq c1).2) (by decide) (by decide) ?_
    show Steps p.tables e below (s₁.setTop (mkF m 10 #[.val (.ref r0), .val (.int p1), .val (.int p2)] [])) target
    refine XS.aloadN X0.here hx rfl (hb hby own_d10_10) rfl rfl ?_
    show Steps p.tables e below (s₁.setTop (mkF m 11 #[.val (.ref r0), .val (.int p1), .val (.int p2)] [(.ref r0)])) target
    refine XS.iloadN X0.here hx rfl (hb hby own_d10_11) rfl ?_
    show Steps p.tables e below (s₁.setTop (mkF m 12 #[.val (.ref r0), .val (.int p1), .val (.int p2)] [(.int p1), (.ref r0)])) target
    refine XS.iloadN X0.here hx rfl (hb hby own_d10_12) rfl ?_
    exact kt
  obtain ⟨_, _, ⟨Tg13, Lg13, kg13, ng13⟩, -, Xg13, ⟨Lcg13, hQg13, lg13, yg13, zg13⟩, stg13⟩ := Jvm.LawKit.callS X0 hx (y := (⟨"java/util/Arrays", "copyOfRangeByte", "([BII)[B"⟩ : MethodName)) hown (mvT hZ (hw _ (List.mem_of_getElem? (i := 61) rfl))) (mvT hZ (hw _ (List.mem_of_getElem? (i := 62) rfl))) (mvT hZ (hw _ (List.mem_of_getElem? (i := 59) rfl))) (mvT hZ (hw _ (List.mem_of_getElem? (i := 63) rfl))) (by decide) (backOf (W := 0) (own_rm11 l Z a0 hw [] r0 p1 p2 g_s h0 n0 Z0 R_r0 (show 1 ≤ p1.toInt ∧ p1.toInt ≤ p2.toInt ∧ p2.toInt ≤ 8 from hC)) hZ (hw _ (List.mem_of_getElem? (i := 63) rfl)) (hw _ (List.mem_of_getElem? (i := 59) rfl)) (by decide) (by decide)) (g := (mkF m 13 #[.val (.ref r0), .val (.int p1), .val (.int p2)] [(.int p2), (.int p1), (.ref r0)])) rfl (by rw [hml]; rfl) (argsL := [(.ref r0), (.int p1), (.int p2)]) (rest := []) (lenOf own_pd5 rfl) rfl (by show 2 * 0 + _ ≤ _; exact Nat.le_of_eq rfl) (hb hby own_d10_13) (fun _ _ => ⟨rfl, e0, (by decide : 0 + 1 ≤ _), (by decide : 0 + 8 ≤ _)⟩)
  dsimp only [Pt.U, Pt.locs, Pt.cells, Pt.slots] at Xg13 lg13 yg13 zg13 stg13 hQg13
  subst lg13 yg13 zg13
  obtain ⟨b13_0, rfl, Ng13q, Kg13, F, szq_b13_0⟩ := hQg13
  have ne_r0_b13_0 : r0 ≠ b13_0 := Nat.ne_of_lt (Nat.lt_of_lt_of_le R_r0.lt szq_b13_0)
  have g_b13_0 : n0 ≤ b13_0 := Nat.le_trans Z0 szq_b13_0
  have sz_b13_0 : h0.size ≤ b13_0 := Nat.le_trans (Keep.refl h0 []).1 szq_b13_0
  have F_1 := R_r0.keep Kg13 nin0
  have Zz : n0 ≤ Tg13.heap.size := Nat.le_trans Z0 Kg13.1
  have Kc := (Keep.refl h0 []).trans Kg13 all0
  have Ng13 := Fr.app N0 Ng13q
  refine own_st (stg13) ?_
  obtain ⟨fs, hr, hrun, hended, hW, hsame⟩ := Xg13.leave (v := some (.ref b13_0)) (fun h => by rw [Bd.returns] at h; cases h)
  have hend : Steps p.tables e below (Tg13.setTop (mkF m 16 #[.val (.ref r0), .val (.int p1), .val (.int p2)] [(.ref b13_0)])) (Tg13.setFrames fs) := by
    jvm_step Xg13.here [Xg13.here.top, hx, (hb hby own_d10_16), Xg13.method', Bd.returns, Value.isRef, FieldType.isReference]
    first | (intro acts; rw [hr _ acts rfl rfl rfl]) | rw [hr _ _ rfl rfl rfl]
    exact Steps.refl _
  refine own_fin hend ⟨_, hrun, hended, _, _, rfl, ?_, ⟨_, rfl⟩, hW, hsame.mono (by decide) (by decide)⟩
  show own_Q10 Z r0 p1 p2 g_s h0 n0 _ Tg13.heap _
  exact ⟨b13_0, rfl, Ng13, Kc, F, sz_b13_0⟩
theorem own_d5_0 : decode prog_71_method_11_code 0 = .ok (.aload_n 0, 1) := by decide +kernel
theorem own_d5_1 : decode prog_71_method_11_code 1 = .ok (.invokevirtual 108, 3) := by decide +kernel
theorem own_d5_4 : decode prog_71_method_11_code 4 = .ok (.istore_n 1, 1) := by decide +kernel
theorem own_d5_5 : decode prog_71_method_11_code 5 = .ok (.aload_n 0, 1) := by decide +kernel
theorem own_d5_6 : decode prog_71_method_11_code 6 = .ok (.getfield 30, 3) := by decide +kernel
theorem own_d5_9 : decode prog_71_method_11_code 9 = .ok (.aload_n 0, 1) := by decide +kernel
theorem own_d5_10 : decode prog_71_method_11_code 10 = .ok (.getfield 43, 3) := by decide +kernel
theorem own_d5_13 : decode prog_71_method_11_code 13 = .ok (.aload_n 0, 1) := by decide +kernel
theorem own_d5_14 : decode prog_71_method_11_code 14 = .ok (.getfield 43, 3) := by decide +kernel
theorem own_d5_17 : decode prog_71_method_11_code 17 = .ok (.iload_n 1, 1) := by decide +kernel
theorem own_d5_18 : decode prog_71_method_11_code 18 = .ok (.iadd, 1) := by decide +kernel
theorem own_d5_19 : decode prog_71_method_11_code 19 = .ok (.invokestatic 156, 3) := by decide +kernel
theorem own_d5_22 : decode prog_71_method_11_code 22 = .ok (.astore_n 2, 1) := by decide +kernel
theorem own_d5_23 : decode prog_71_method_11_code 23 = .ok (.aload_n 0, 1) := by decide +kernel
theorem own_d5_24 : decode prog_71_method_11_code 24 = .ok (.dup, 1) := by decide +kernel
theorem own_d5_25 : decode prog_71_method_11_code 25 = .ok (.getfield 43, 3) := by decide +kernel
theorem own_d5_28 : decode prog_71_method_11_code 28 = .ok (.iload_n 1, 1) := by decide +kernel
theorem own_d5_29 : decode prog_71_method_11_code 29 = .ok (.iadd, 1) := by decide +kernel
theorem own_d5_30 : decode prog_71_method_11_code 30 = .ok (.putfield 43, 3) := by decide +kernel
theorem own_d5_33 : decode prog_71_method_11_code 33 = .ok (.aload_n 2, 1) := by decide +kernel
theorem own_d5_34 : decode prog_71_method_11_code 34 = .ok (.areturn, 1) := by decide +kernel
theorem own_ef5 (m : MethodId) (r0 : Addr) : entryFrame m #[(.ref r0)] 3 = mkF m 0 #[.val (.ref r0), .unset, .unset] [] := by first | (simp [entryFrame, mkF, argsToLocals, Value.category]; done) | rfl
def own_Q5 (Z : State) (r0 : Addr) (b_b : Addr) (w_e : Int32) (b_n : Addr) (w_m : Int32) (w_p : Int32) (g_b : Nat → Int32) (h0 : Heap) (n0 : Nat) (v : Option Value) (h : Heap) (L : List Loc) : Prop := ∃ (b19_0 : Addr), (v = some (.ref b19_0)) ∧ (Fr n0 L) ∧ (Keep h0 h [r0]) ∧ (Exa Z h r0 "com/example/wireform/wireform/wire/WireReader") ∧ (Fld Z h r0 "com/example/wireform/wireform/wire/WireReader" "bytes" "[B" (.ref b_b)) ∧ (Fld Z h r0 "com/example/wireform/wireform/wire/WireReader" "end" "I" (.int w_e)) ∧ (Fld Z h r0 "com/example/wireform/wireform/wire/WireReader" "nesting" "Lcom/example/wireform/wireform/wire/Nesting;" (.ref b_n)) ∧ (Fld Z h r0 "com/example/wireform/wireform/wire/WireReader" "limit" "I" (.int w_m)) ∧ (Fld Z h r0 "com/example/wireform/wireform/wire/WireReader" "position" "I" (.int ((((w_p + (1 : Int32))) + ((g_b (w_p).toNatClampNeg)))))) ∧ (own_RayL Z h b19_0 ((((w_p + (1 : Int32))) + ((g_b (w_p).toNatClampNeg))) - ((w_p + (1 : Int32)))).toNatClampNeg ()) ∧ (h0.size ≤ b19_0)
set_option maxRecDepth 65536 in
set_option maxHeartbeats 40000000 in
theorem own_rm5 (l : Launch) (Z : State) (a0 : Array Value) (hw : ∀ d ∈ tables_1, d.before a0 Z = true) (ws : List Jvm.Cond) (r0 : Addr) (b_b : Addr) (w_e : Int32) (b_n : Addr) (w_m : Int32) (w_p : Int32) (g_b : Nat → Int32) (h0 : Heap) (n0 : Nat) (Z0 : n0 ≤ h0.size) (E_r0 : Exa Z h0 r0 "com/example/wireform/wireform/wire/WireReader") (F_r0_bytes : Fld Z h0 r0 "com/example/wireform/wireform/wire/WireReader" "bytes" "[B" (.ref b_b)) (F_r0_end : Fld Z h0 r0 "com/example/wireform/wireform/wire/WireReader" "end" "I" (.int w_e)) (F_r0_nesting : Fld Z h0 r0 "com/example/wireform/wireform/wire/WireReader" "nesting" "Lcom/example/wireform/wireform/wire/Nesting;" (.ref b_n)) (F_r0_limit : Fld Z h0 r0 "com/example/wireform/wireform/wire/WireReader" "limit" "I" (.int w_m)) (F_r0_position : Fld Z h0 r0 "com/example/wireform/wireform/wire/WireReader" "position" "I" (.int w_p)) (R_b_b : own_RayB Z h0 b_b 8 g_b) (g_r0 : n0 ≤ r0) (ne_r0_b_b : r0 ≠ b_b) (hV : own_V w_p w_m (g_b (w_p).toNatClampNeg) 8) :
    MetFree l (⟨"com/example/wireform/wireform/wire/WireReader", "readBytes", "()[B"⟩ : MethodName) (head1 (Jvm.Cond.code (⟨"com/example/wireform/wireform/wire/WireReader", "readBytes", "()[B"⟩ : MethodName) prog_71_method_11_code 3 (some (.array .byte)) :: ws) ({ frames := 3, cells := 1, slots := 8, locals := 48 } : Room)) (fun a U => a = #[(.ref r0)] ∧ Z.Warmed39 U.vm ∧ U.heap = h0) (fun _ _ _ _ _ => True) (fun _ U o U' => ∃ v L, o = .returned v ∧ own_Q5 Z r0 b_b w_e b_n w_m w_p g_b h0 n0 v U'.heap L ∧ FrameEnd U o U' L ({ frames := 3, cells := 1, slots := 8, locals := 48 } : Room).cells ({ frames := 3, cells := 1, slots := 8, locals := 48 } : Room).slots) := by
  refine MetFree.of_bodySF (plainFor_of_name own_pn2) hisR ?_
  intro p e s m args below meth c s₁ Bd hml0 hP hK
  obtain ⟨rfl, hZ, hh⟩ := hP
  have hx := Bd.exec
  have hby := Bd.bytes
  have hml : c.maxLocals = 3 := hml0
  have hown : s.vm.findClass "com/example/wireform/wireform/wire/WireReader" = some m.cls := findClass_of_methodNamed Bd.named
  have hnm := (name_of_methodNamed Bd.named Bd.method).1
  have X0 : Stand p l e ({ frames := 3, cells := 1, slots := 8, locals := 48 } : Room) s m #[(.ref r0)] below meth c s₁ [] 0 0 := Stand.of_body Bd
  have e0 : s₁.heap = h0 := by rw [← hh, Bd.state]; rfl
  have N0 := Fr.nil n0
  have pre0 : ∀ t, Steps p.tables e below (s₁.setTop (mkF m 0 #[.val (.ref r0), .unset, .unset] [])) t → Steps p.tables e below (s₁.setTop (entryFrame m #[(.ref r0)] 3)) t := fun t k => castTop (own_ef5 m r0) k
  refine own_run (own_st pre0 ?_)
  have hF := own_Vf _ _ _ _ hV
  refine own_st (B := s₁.setTop (mkF m 1 #[.val (.ref r0), .unset, .unset] [(.ref r0)])) (fun target kt => ?_) ?_
  · show Steps p.tables e below (s₁.setTop (mkF m 0 #[.val (.ref r0), .unset, .unset] [])) target
    refine XS.aloadN X0.here hx rfl (hb hby own_d5_0) rfl rfl ?_
    exact kt
  obtain ⟨cqg1, qg1, qg1'⟩ := E_r0.cell
  obtain ⟨_, _, ⟨Tg1, Lg1, kg1, ng1⟩, -, Xg1, ⟨Lcg1, hQg1, lg1, yg1, zg1⟩, stg1⟩ := X0.privateBack hx (y := (⟨"com/example/wireform/wireform/wire/WireReader", "readLength", "()I"⟩ : MethodName)) hown (mvT hZ (hw _ (List.mem_of_getElem? (i := 40) rfl))) (mvT hZ (hw _ (List.mem_of_getElem? (i := 41) rfl))) (mvT hZ (own_selPriv (hw _ (List.mem_of_getElem? (i := 42) rfl)) (hw _ (List.mem_of_getElem? (i := 41) rfl)) (hw _ (List.mem_of_getElem? (i := 31) rfl)) rfl (by decide))) (Cond.privateMethod_at (mvP hZ (hw _ (List.mem_of_getElem? (i := 42) rfl)) (args := #[]))) (mvT hZ (hw _ (List.mem_of_getElem? (i := 43) rfl))) (by decide) (backOf (W := 0) (own_rm6 l Z a0 hw [] r0 b_b w_e b_n w_m w_p g_b h0 n0 Z0 E_r0 F_r0_bytes F_r0_end F_r0_nesting F_r0_limit F_r0_position R_b_b g_r0 ne_r0_b_b (show own_V w_p w_m (g_b (w_p).toNatClampNeg) 8 from hV)) hZ (hw _ (List.mem_of_getElem? (i := 43) rfl)) (hw _ (List.mem_of_getElem? (i := 4) rfl)) (by decide) (by decide)) (g := (mkF m 1 #[.val (.ref r0), .unset, .unset] [(.ref r0)])) rfl (by rw [hml]; rfl) (Steps.refl _) (a := r0) (by rw [e0]; exact qg1) qg1' (argsL := []) (rest := []) (lenOf own_pd2 rfl) rfl (by show 2 * 0 + _ ≤ _; exact Nat.le_of_eq rfl) (hb hby own_d5_1) (fun _ _ => ⟨rfl, e0, (by decide : 0 + 0 ≤ _), (by decide : 0 + 0 ≤ _)⟩)
  dsimp only [Pt.U, Pt.locs, Pt.cells, Pt.slots] at Xg1 lg1 yg1 zg1 stg1 hQg1
  subst lg1 yg1 zg1
  obtain ⟨rfl, Ng1q, Kg1, F, F_1, F_2, F_3, F_4, F_5⟩ := hQg1
  have F_6 := R_b_b.keep Kg1 (ninS (Ne.symm ne_r0_b_b) nin0)
  have Zz : n0 ≤ Tg1.heap.size := Nat.le_trans Z0 Kg1.1
  have Kc := (Keep.refl h0 [r0]).trans Kg1 (allS (Or.inl (List.mem_of_getElem? (i := 0) rfl)) all0)
  obtain ⟨w1_position, hw1_position⟩ : ∃ z : Int32, z = (w_p + (1 : Int32)) := ⟨_, rfl⟩
  have F_7 : Fld Z Tg1.heap r0 "com/example/wireform/wireform/wire/WireReader" "position" "I" (.int w1_position) := by subst hw1_position; exact F_5
  have Ng1 := Fr.app N0 Ng1q
  refine own_st (fun _ k => stg1.trans k) ?_
  obtain ⟨v4, hv4⟩ : ∃ z : Int32, z = (g_b (w_p).toNatClampNeg) := ⟨_, rfl⟩
  refine own_st (B := Tg1.setTop (mkF m 6 #[.val (.ref r0), .val (.int v4), .unset] [(.ref r0)])) (fun target kt => ?_) ?_
  · show Steps p.tables e below (Tg1.setTop (mkF m 4 #[.val (.ref r0), .unset, .unset] [(.int (g_b (w_p).toNatClampNeg))])) target
    refine XS.istoreN Xg1.here hx rfl (hb hby own_d5_4) rfl (l' := #[.val (.ref r0), .val (.int v4), .unset]) (by subst hv4; rfl) ?_
    show Steps p.tables e below (Tg1.setTop (mkF m 5 #[.val (.ref r0), .val (.int v4), .unset] [])) target
    refine XS.aloadN Xg1.here hx rfl (hb hby own_d5_5) rfl rfl ?_
    exact kt
  obtain ⟨Tg6, Xg6, eg6, stg6⟩ := getF Xg1 hx hZ hown (host := "") (Or.inl (hw _ (List.mem_of_getElem? (i := 20) rfl))) Via.refl rfl F_1 (g := (mkF m 6 #[.val (.ref r0), .val (.int v4), .unset] [(.ref r0)])) rfl rfl (hb hby own_d5_6)
  refine own_st stg6 ?_
  refine own_st (B := Tg6.setTop (mkF m 10 #[.val (.ref r0), .val (.int v4), .unset] [(.ref r0), (.ref b_b)])) (fun target kt => ?_) ?_
  · show Steps p.tables e below (Tg6.setTop (mkF m 9 #[.val (.ref r0), .val (.int v4), .unset] [(.ref b_b)])) target
    refine XS.aloadN Xg6.here hx rfl (hb hby own_d5_9) rfl rfl ?_
    exact kt
  obtain ⟨Tg10, Xg10, eg10, stg10⟩ := getF Xg6 hx hZ hown (host := "") (Or.inl (hw _ (List.mem_of_getElem? (i := 33) rfl))) Via.refl eg6 F_7 (g := (mkF m 10 #[.val (.ref r0), .val (.int v4), .unset] [(.ref r0), (.ref b_b)])) rfl rfl (hb hby own_d5_10)
  refine own_st stg10 ?_
  refine own_st (B := Tg10.setTop (mkF m 14 #[.val (.ref r0), .val (.int v4), .unset] [(.ref r0), (.int w1_position), (.ref b_b)])) (fun target kt => ?_) ?_
  · show Steps p.tables e below (Tg10.setTop (mkF m 13 #[.val (.ref r0), .val (.int v4), .unset] [(.int w1_position), (.ref b_b)])) target
    refine XS.aloadN Xg10.here hx rfl (hb hby own_d5_13) rfl rfl ?_
    exact kt
  obtain ⟨Tg14, Xg14, eg14, stg14⟩ := getF Xg10 hx hZ hown (host := "") (Or.inl (hw _ (List.mem_of_getElem? (i := 33) rfl))) Via.refl eg10 F_7 (g := (mkF m 14 #[.val (.ref r0), .val (.int v4), .unset] [(.ref r0), (.int w1_position), (.ref b_b)])) rfl rfl (hb hby own_d5_14)
  refine own_st stg14 ?_
  refine own_st (B := Tg14.setTop (mkF m 19 #[.val (.ref r0), .val (.int v4), .unset] [(.int (w1_position + v4)), (.int w1_position), (.ref b_b)])) (fun target kt => ?_) ?_
  · show Steps p.tables e below (Tg14.setTop (mkF m 17 #[.val (.ref r0), .val (.int v4), .unset] [(.int w1_position), (.int w1_position), (.ref b_b)])) target
    refine XS.iloadN Xg14.here hx rfl (hb hby own_d5_17) rfl ?_
    show Steps p.tables e below (Tg14.setTop (mkF m 18 #[.val (.ref r0), .val (.int v4), .unset] [(.int v4), (.int w1_position), (.int w1_position), (.ref b_b)])) target
    refine XS.iadd Xg14.here hx rfl (hb hby own_d5_18) rfl ?_
    exact kt
  obtain ⟨_, _, ⟨Tg19, Lg19, kg19, ng19⟩, -, Xg19, ⟨Lcg19, hQg19, lg19, yg19, zg19⟩, stg19⟩ := Jvm.LawKit.callS Xg14 hx (y := (⟨"java/util/Arrays", "copyOfRange", "([BII)[B"⟩ : MethodName)) hown (mvT hZ (hw _ (List.mem_of_getElem? (i := 57) rfl))) (mvT hZ (hw _ (List.mem_of_getElem? (i := 58) rfl))) (mvT hZ (hw _ (List.mem_of_getElem? (i := 59) rfl))) (mvT hZ (hw _ (List.mem_of_getElem? (i := 60) rfl))) (by decide) (backOf (W := 0) (own_rm10 l Z a0 hw [] b_b w1_position (w1_position + v4) g_b Tg1.heap n0 Zz F_6 (show 1 ≤ w1_position.toInt ∧ w1_position.toInt ≤ (w1_position + v4).toInt ∧ (w1_position + v4).toInt ≤ 8 from (by rw [hw1_position, hv4, hF.2.2.2.1, hF.2.2.2.2.2]; obtain ⟨a1, a2, a3, a4, a5, a6, a7⟩ := hV; omega))) hZ (hw _ (List.mem_of_getElem? (i := 60) rfl)) (hw _ (List.mem_of_getElem? (i := 59) rfl)) (by decide) (by decide)) (g := (mkF m 19 #[.val (.ref r0), .val (.int v4), .unset] [(.int (w1_position + v4)), (.int w1_position), (.ref b_b)])) rfl (by rw [hml]; rfl) (argsL := [(.ref b_b), (.int w1_position), (.int (w1_position + v4))]) (rest := []) (lenOf own_pd5 rfl) rfl (by show 2 * 0 + _ ≤ _; exact Nat.le_of_eq rfl) (hb hby own_d5_19) (fun _ _ => ⟨rfl, eg14, (by decide : 0 + 1 ≤ _), (by decide : 0 + 8 ≤ _)⟩)
  dsimp only [Pt.U, Pt.locs, Pt.cells, Pt.slots] at Xg19 lg19 yg19 zg19 stg19 hQg19
  subst lg19 yg19 zg19
  obtain ⟨b19_0, rfl, Ng19q, Kg19, F_8, szq_b19_0⟩ := hQg19
  have ne_r0_b19_0 : r0 ≠ b19_0 := Nat.ne_of_lt (Nat.lt_of_lt_of_le F.lt szq_b19_0)
  have ne_b_b_b19_0 : b_b ≠ b19_0 := Nat.ne_of_lt (Nat.lt_of_lt_of_le F_6.lt szq_b19_0)
  have g_b19_0 : n0 ≤ b19_0 := Nat.le_trans Zz szq_b19_0
  have sz_b19_0 : h0.size ≤ b19_0 := Nat.le_trans Kc.1 szq_b19_0
  have F_9 := F.keep Kg19
  have F_10 := F_1.keep Kg19 nin0
  have F_11 := F_2.keep Kg19 nin0
  have F_12 := F_3.keep Kg19 nin0
  have F_13 := F_4.keep Kg19 nin0
  have F_14 := F_7.keep Kg19 nin0
  have F_15 := F_6.keep Kg19 nin0
  have Zz_1 : n0 ≤ Tg19.heap.size := Nat.le_trans Zz Kg19.1
  have Kc_1 := Kc.trans Kg19 all0
  have Ng19 := Fr.app Ng1 Ng19q
  refine own_st (stg19) ?_
  refine own_st (B := Tg19.setTop (mkF m 25 #[.val (.ref r0), .val (.int v4), .val (.ref b19_0)] [(.ref r0), (.ref r0)])) (fun target kt => ?_) ?_
  · show Steps p.tables e below (Tg19.setTop (mkF m 22 #[.val (.ref r0), .val (.int v4), .unset] [(.ref b19_0)])) target
    refine XS.astoreN Xg19.here hx rfl (hb hby own_d5_22) rfl rfl (l' := #[.val (.ref r0), .val (.int v4), .val (.ref b19_0)]) rfl ?_
    show Steps p.tables e below (Tg19.setTop (mkF m 23 #[.val (.ref r0), .val (.int v4), .val (.ref b19_0)] [])) target
    refine XS.aloadN Xg19.here hx rfl (hb hby own_d5_23) rfl rfl ?_
    show Steps p.tables e below (Tg19.setTop (mkF m 24 #[.val (.ref r0), .val (.int v4), .val (.ref b19_0)] [(.ref r0)])) target
    refine XS.dup Xg19.here hx rfl (hb hby own_d5_24) rfl rfl ?_
    exact kt
  obtain ⟨Tg25, Xg25, eg25, stg25⟩ := getF Xg19 hx hZ hown (host := "") (Or.inl (hw _ (List.mem_of_getElem? (i := 33) rfl))) Via.refl rfl F_14 (g := (mkF m 25 #[.val (.ref r0), .val (.int v4), .val (.ref b19_0)] [(.ref r0), (.ref r0)])) rfl rfl (hb hby own_d5_25)
  refine own_st stg25 ?_
  refine own_st (B := Tg25.setTop (mkF m 30 #[.val (.ref r0), .val (.int v4), .val (.ref b19_0)] [(.int (w1_position + v4)), (.ref r0)])) (fun target kt => ?_) ?_
  · show Steps p.tables e below (Tg25.setTop (mkF m 28 #[.val (.ref r0), .val (.int v4), .val (.ref b19_0)] [(.int w1_position), (.ref r0)])) target
    refine XS.iloadN Xg25.here hx rfl (hb hby own_d5_28) rfl ?_
    show Steps p.tables e below (Tg25.setTop (mkF m 29 #[.val (.ref r0), .val (.int v4), .val (.ref b19_0)] [(.int v4), (.int w1_position), (.ref r0)])) target
    refine XS.iadd Xg25.here hx rfl (hb hby own_d5_29) rfl ?_
    exact kt
  obtain ⟨Tg30, hg30, Xg30, eg30, Wg30, stg30⟩ := putF Xg25 hx hZ hown (host := "") (Or.inl (hw _ (List.mem_of_getElem? (i := 33) rfl))) Via.refl eg25 F_14 F_9 (Or.inl (hw _ (List.mem_of_getElem? (i := 34) rfl))) (hw _ (List.mem_of_getElem? (i := 3) rfl)) (ty := .int) (by decide) rfl rfl (g := (mkF m 30 #[.val (.ref r0), .val (.int v4), .val (.ref b19_0)] [(.int (w1_position + v4)), (.ref r0)])) rfl rfl (hb hby own_d5_30)
  refine own_st stg30 ?_
  have Ng30 := Fr.snoc Xg30 Ng19 g_r0
  have F_16 := F_9.wr Wg30
  have F_17 := F_10.other Wg30 (Or.inr (slot_ne (Or.inr (hw _ (List.mem_of_getElem? (i := 21) rfl))) (Or.inl (hw _ (List.mem_of_getElem? (i := 34) rfl))) (by decide) (t := (.array .byte)) (t' := .int) (by decide) (by decide)))
  have F_18 := F_11.other Wg30 (Or.inr (slot_ne (Or.inr (hw _ (List.mem_of_getElem? (i := 23) rfl))) (Or.inl (hw _ (List.mem_of_getElem? (i := 34) rfl))) (by decide) (t := .int) (t' := .int) (by decide) (by decide)))
  have F_19 := F_12.other Wg30 (Or.inr (slot_ne (Or.inr (hw _ (List.mem_of_getElem? (i := 25) rfl))) (Or.inl (hw _ (List.mem_of_getElem? (i := 34) rfl))) (by decide) (t := (.object "com/example/wireform/wireform/wire/Nesting")) (t' := .int) (by decide) (by decide)))
  have F_20 := F_13.other Wg30 (Or.inr (slot_ne (Or.inl (hw _ (List.mem_of_getElem? (i := 27) rfl))) (Or.inl (hw _ (List.mem_of_getElem? (i := 34) rfl))) (by decide) (t := .int) (t' := .int) (by decide) (by decide)))
  have F_21 := F_14.same Wg30
  have F_22 := F_15.other Wg30 (Ne.symm ne_r0_b_b)
  have F_23 := F_8.other Wg30 (Ne.symm ne_r0_b19_0)
  have Zz_2 : n0 ≤ hg30.size := Nat.le_trans Zz_1 (Keep.of_wr Wg30).1
  have Kc_2 := Kc_1.wr Wg30 (Or.inl (List.mem_of_getElem? (i := 0) rfl))
  obtain ⟨v30, hv30⟩ : ∃ z : Int32, z = (w1_position + v4) := ⟨_, rfl⟩
  have F_24 : Fld Z hg30 r0 "com/example/wireform/wireform/wire/WireReader" "position" "I" (.int v30) := by subst hv30; exact F_21
  refine own_st (B := Tg30.setTop (mkF m 34 #[.val (.ref r0), .val (.int v4), .val (.ref b19_0)] [(.ref b19_0)])) (fun target kt => ?_) ?_
  · show Steps p.tables e below (Tg30.setTop (mkF m 33 #[.val (.ref r0), .val (.int v4), .val (.ref b19_0)] [])) target
    refine XS.aloadN Xg30.here hx rfl (hb hby own_d5_33) rfl rfl ?_
    exact kt
  obtain ⟨fs, hr, hrun, hended, hW, hsame⟩ := Xg30.leave (v := some (.ref b19_0)) (fun h => by rw [Bd.returns] at h; cases h)
  have hend : Steps p.tables e below (Tg30.setTop (mkF m 34 #[.val (.ref r0), .val (.int v4), .val (.ref b19_0)] [(.ref b19_0)])) (Tg30.setFrames fs) := by
    jvm_step Xg30.here [Xg30.here.top, hx, (hb hby own_d5_34), Xg30.method', Bd.returns, Value.isRef, FieldType.isReference]
    first | (intro acts; rw [hr _ acts rfl rfl rfl]) | rw [hr _ _ rfl rfl rfl]
    exact Steps.refl _
  refine own_fin hend ⟨_, hrun, hended, _, _, rfl, ?_, ⟨_, rfl⟩, hW, hsame.mono (by decide) (by decide)⟩
  show own_Q5 Z r0 b_b w_e b_n w_m w_p g_b h0 n0 _ Tg30.heap _
  rw [eg30]
  subst hw1_position hv4 hv30
  exact ⟨b19_0, rfl, Ng30, Kc_2, F_16, F_17, F_18, F_19, F_20, F_24, F_23, sz_b19_0⟩
theorem own_pos (x : Int32) (h : (0 : Int32) < x) : x ≠ 0 := fun q => by
  rw [q] at h
  exact absurd h (by decide)
theorem own_m9 (a : Int32) : 0 ≤ ((a &&& (2147483647 : Int32)) % (9 : Int32)).toInt ∧ ((a &&& (2147483647 : Int32)) % (9 : Int32)).toInt ≤ 8 := by
  have h1 := c_mask a 2147483647 31 (by decide) (by decide)
  have h2 := (c_iremV (a &&& 2147483647) 9).1 (by rw [h1]; omega) (by decide)
  have e9 : (9 : Int32).toInt = 9 := by decide
  omega
theorem own_nb (x : Int32) (h0 : 0 ≤ x.toInt) (h1 : x.toInt < 128) : nar .byte (x.toInt8.toInt32) = x := by
  have h2 := c_i2b x
  have h3 := c_i2b (x.toInt8.toInt32)
  show (x.toInt8.toInt32).toInt8.toInt32 = x
  apply Int32.toInt_inj.mp
  omega
theorem own_jj (p n l : Int32) (k : Nat) (g g' : Nat → Int32) (hl : l = (if (0 : Int32) < n then ((p &&& (2147483647 : Int32)) % n) else (0 : Int32)))
    (hg : g' = (if (0 : Int32) < n then (fun i => if i = k then (nar .byte (((p &&& (2147483647 : Int32)) % n).toInt8.toInt32)) else g i) else g)) (hn : n.toInt ≤ 8) :
    ((0 : Int32) < n → 0 ≤ l.toInt ∧ l.toInt < n.toInt ∧ g' k = l) ∧ (¬ (0 : Int32) < n → l.toInt = 0) ∧ (∀ i, i ≠ k → g' i = g i) := by
  have e0 : (0 : Int32).toInt = 0 := by decide
  by_cases hc : (0 : Int32) < n
  · have hc' := hc
    rw [Int32.lt_iff_toInt_lt, e0] at hc'
    rw [if_pos hc] at hl hg
    have h1 := c_mask p 2147483647 31 (by decide) (by decide)
    have h2 := (c_iremV (p &&& 2147483647) n).1 (by rw [h1]; omega) hc'
    rw [← hl] at h2 hg
    refine ⟨fun _ => ⟨h2.1, h2.2.1, ?_⟩, fun q => absurd hc q, fun i hi => ?_⟩
    · rw [hg]
      show (if k = k then _ else _) = _
      rw [if_pos rfl]
      exact own_nb l h2.1 (by omega)
    · rw [hg]
      show (if i = k then _ else _) = _
      rw [if_neg hi]
  · rw [if_neg hc] at hl hg
    refine ⟨fun q => absurd q hc, fun _ => by rw [hl]; exact e0, fun i _ => by rw [hg]⟩
theorem own_e1 (l : Int32) : ((0 : Int32) + (1 : Int32) = ((0 : Int32) + (1 : Int32)) + l) ↔ l = (0 : Int32) := by
  have e : (0 : Int32) + (1 : Int32) = 1 := by decide
  rw [e, ← Int32.toInt_inj, ← Int32.toInt_inj]
  have k := c_iadd 1 l
  have e0 : (0 : Int32).toInt = 0 := by decide
  have e1 : (1 : Int32).toInt = 1 := by decide
  have r := rng32 (1 + l)
  have r2 := rng32 l
  rw [e1] at k ⊢
  rw [e0]
  omega
theorem own_V2 (m l x : Int32) (h1 : 0 ≤ l.toInt) (h2 : l.toInt ≤ 7) (h3 : (0 : Int32) < l) (hx : 0 ≤ x.toInt) (hx2 : x.toInt < l.toInt) : own_V ((0 : Int32) + (1 : Int32)) (((0 : Int32) + (1 : Int32)) + l) x 8 := by
  have e : (0 : Int32) + (1 : Int32) = 1 := by decide
  rw [e]
  have k := c_iadd 1 l
  have e0 : (0 : Int32).toInt = 0 := by decide
  have e1 : (1 : Int32).toInt = 1 := by decide
  have r := rng32 (1 + l)
  rw [Int32.lt_iff_toInt_lt, e0] at h3
  rw [e1] at k
  unfold own_V
  omega
theorem own_pd6 : parseMethodDescriptor "(I)V" = some ⟨[.int], none⟩ := by decide +kernel
theorem own_pd7 : parseMethodDescriptor "([BILcom/example/wireform/wireform/wire/Nesting;)V" = some ⟨[(.array .byte), .int, (.object "com/example/wireform/wireform/wire/Nesting")], none⟩ := by decide +kernel
theorem own_pd8 : parseMethodDescriptor "()Z" = some ⟨[], some .boolean⟩ := by decide +kernel
theorem own_pd9 : parseMethodDescriptor "()[B" = some ⟨[], some (.array .byte)⟩ := by decide +kernel
theorem own_pn4 : plainName "com/example/wireform/wireform/wire/WireReaderIsAtEndPinLaw" = true := by first | (simp [plainName, overriddenIn]; done) | decide +kernel
theorem own_ef0 (m : MethodId) (p0 : Int32) (p1 : Int32) (p2 : Int32) (p3 : Int32) : entryFrame m #[(.int p0), (.int p1), (.int p2), (.int p3)] maxLocals = mkF m 0 #[.val (.int p0), .val (.int p1), .val (.int p2), .val (.int p3), .unset, .unset, .unset, .unset, .unset, .unset, .unset, .unset] [] := by first | (simp [entryFrame, mkF, argsToLocals, Value.category, maxLocals]; done) | rfl
def own_Q0 (Z : State) (p0 : Int32) (p1 : Int32) (p2 : Int32) (p3 : Int32) (h0 : Heap) (n0 : Nat) (v : Option Value) (h : Heap) (L : List Loc) : Prop := (v = some (.int (1 : Int32))) ∧ (Fr n0 L)
set_option maxRecDepth 65536 in
set_option maxHeartbeats 40000000 in
theorem own_rm0 (l : Launch) (Z : State) (a0 : Array Value) (hw : ∀ d ∈ tables_1, d.before a0 Z = true) (ws : List Jvm.Cond) (p0 : Int32) (p1 : Int32) (p2 : Int32) (p3 : Int32) (h0 : Heap) (n0 : Nat) (Z0 : n0 ≤ h0.size) :
    MetFree l x (head1 (Jvm.Cond.code x code maxLocals ret :: ws) room_1) (fun a U => a = #[(.int p0), (.int p1), (.int p2), (.int p3)] ∧ Z.Warmed39 U.vm ∧ U.heap = h0) (fun _ _ _ _ _ => True) (fun _ U o U' => ∃ v L, o = .returned v ∧ own_Q0 Z p0 p1 p2 p3 h0 n0 v U'.heap L ∧ FrameEnd U o U' L room_1.cells room_1.slots) := by
  refine MetFree.of_bodySF (plainFor_of_name own_pn4) hisR ?_
  intro p e s m args below meth c s₁ Bd hml0 hP hK
  obtain ⟨rfl, hZ, hh⟩ := hP
  have hx := Bd.exec
  have hby := Bd.bytes
  have hml : c.maxLocals = 12 := hml0
  have hown : s.vm.findClass "com/example/wireform/wireform/wire/WireReaderIsAtEndPinLaw" = some m.cls := findClass_of_methodNamed Bd.named
  have hnm := (name_of_methodNamed Bd.named Bd.method).1
  have X0 : Stand p l e room_1 s m #[(.int p0), (.int p1), (.int p2), (.int p3)] below meth c s₁ [] 0 0 := Stand.of_body Bd
  have e0 : s₁.heap = h0 := by rw [← hh, Bd.state]; rfl
  have N0 := Fr.nil n0
  have pre0 : ∀ t, Steps p.tables e below (s₁.setTop (mkF m 0 #[.val (.int p0), .val (.int p1), .val (.int p2), .val (.int p3), .unset, .unset, .unset, .unset, .unset, .unset, .unset, .unset] [])) t → Steps p.tables e below (s₁.setTop (entryFrame m #[(.int p0), (.int p1), (.int p2), (.int p3)] maxLocals)) t := fun t k => castTop (own_ef0 m p0 p1 p2 p3) k
  refine own_run (own_st pre0 ?_)
  obtain ⟨v7, hv7⟩ : ∃ z : Int32, z = ((p0 &&& (2147483647 : Int32)) % (9 : Int32)) := ⟨_, rfl⟩
  refine own_st (B := s₁.setTop (mkF m 11 #[.val (.int p0), .val (.int p1), .val (.int p2), .val (.int p3), .val (.int v7), .unset, .unset, .unset, .unset, .unset, .unset, .unset] [(.int (8 : Int32))])) (fun target kt => ?_) ?_
  · show Steps p.tables e below (s₁.setTop (mkF m 0 #[.val (.int p0), .val (.int p1), .val (.int p2), .val (.int p3), .unset, .unset, .unset, .unset, .unset, .unset, .unset, .unset] [])) target
    refine XS.iloadN X0.here hx rfl (hb hby at_0) rfl ?_
    show Steps p.tables e below (s₁.setTop (mkF m 1 #[.val (.int p0), .val (.int p1), .val (.int p2), .val (.int p3), .unset, .unset, .unset, .unset, .unset, .unset, .unset, .unset] [(.int p0)])) target
    refine X0.ldcInt hx hown (mvT hZ (hw _ (List.mem_of_getElem? (i := 0) rfl))) (g := (mkF m 1 #[.val (.int p0), .val (.int p1), .val (.int p2), .val (.int p3), .unset, .unset, .unset, .unset, .unset, .unset, .unset, .unset] [(.int p0)])) rfl (hb hby at_1) _ ?_
    show Steps p.tables e below (s₁.setTop (mkF m 3 #[.val (.int p0), .val (.int p1), .val (.int p2), .val (.int p3), .unset, .unset, .unset, .unset, .unset, .unset, .unset, .unset] [(.int (2147483647 : Int32)), (.int p0)])) target
    refine XS.iand X0.here hx rfl (hb hby at_3) rfl ?_
    show Steps p.tables e below (s₁.setTop (mkF m 4 #[.val (.int p0), .val (.int p1), .val (.int p2), .val (.int p3), .unset, .unset, .unset, .unset, .unset, .unset, .unset, .unset] [(.int (p0 &&& (2147483647 : Int32)))])) target
    refine XS.bipush X0.here hx rfl (hb hby at_4) ?_
    show Steps p.tables e below (s₁.setTop (mkF m 6 #[.val (.int p0), .val (.int p1), .val (.int p2), .val (.int p3), .unset, .unset, .unset, .unset, .unset, .unset, .unset, .unset] [(.int (9 : Int32)), (.int (p0 &&& (2147483647 : Int32)))])) target
    refine iremM X0 hx rfl (hb hby at_6) rfl (by decide) ?_
    show Steps p.tables e below (s₁.setTop (mkF m 7 #[.val (.int p0), .val (.int p1), .val (.int p2), .val (.int p3), .unset, .unset, .unset, .unset, .unset, .unset, .unset, .unset] [(.int ((p0 &&& (2147483647 : Int32)) % (9 : Int32)))])) target
    refine XS.istore X0.here hx rfl (hb hby at_7) rfl (l' := #[.val (.int p0), .val (.int p1), .val (.int p2), .val (.int p3), .val (.int v7), .unset, .unset, .unset, .unset, .unset, .unset, .unset]) (by subst hv7; rfl) ?_
    show Steps p.tables e below (s₁.setTop (mkF m 9 #[.val (.int p0), .val (.int p1), .val (.int p2), .val (.int p3), .val (.int v7), .unset, .unset, .unset, .unset, .unset, .unset, .unset] [])) target
    refine XS.bipush X0.here hx rfl (hb hby at_9) ?_
    exact kt
  obtain ⟨Tg11, hg11, kg11, Xg11, eg11, Eg11, Ag11, stg11⟩ := newP X0 hx hZ (hw _ (List.mem_of_getElem? (i := 1) rfl)) e0 (g := (mkF m 11 #[.val (.int p0), .val (.int p1), .val (.int p2), .val (.int p3), .val (.int v7), .unset, .unset, .unset, .unset, .unset, .unset, .unset] [(.int (8 : Int32))])) rfl (hb hby at_11) rfl (by decide) (cap := 8) (by decide) (by decide) (by decide) (by decide)
  obtain ⟨b11, gg11⟩ : ∃ z, z = h0.size := ⟨_, rfl⟩
  rw [← gg11] at Ag11 stg11
  refine own_st stg11 ?_
  have g_b11 : n0 ≤ b11 := Nat.le_trans Z0 (Nat.le_of_eq gg11.symm)
  have Zz : n0 ≤ hg11.size := Nat.le_trans Z0 Eg11.1
  have F : own_RayB Z hg11 b11 8 (fun _ => (0 : Int32)) := own_RayB_new Ag11 (by decide) (by decide)
  refine own_st (B := Tg11.setTop (mkF m 15 #[.val (.int p0), .val (.int p1), .val (.int p2), .val (.int p3), .val (.int v7), .val (.ref b11), .unset, .unset, .unset, .unset, .unset, .unset] [])) (fun target kt => ?_) ?_
  · show Steps p.tables e below (Tg11.setTop (mkF m 13 #[.val (.int p0), .val (.int p1), .val (.int p2), .val (.int p3), .val (.int v7), .unset, .unset, .unset, .unset, .unset, .unset, .unset] [(.ref b11)])) target
    refine XS.astore Xg11.here hx rfl (hb hby at_13) rfl rfl (l' := #[.val (.int p0), .val (.int p1), .val (.int p2), .val (.int p3), .val (.int v7), .val (.ref b11), .unset, .unset, .unset, .unset, .unset, .unset]) rfl ?_
    exact kt
  have hN7 : 0 ≤ v7.toInt ∧ v7.toInt ≤ 8 := by rw [hv7]; exact own_m9 p0
  refine own_st (B := Tg11.setTop (mkF m 23 #[.val (.int p0), .val (.int p1), .val (.int p2), .val (.int p3), .val (.int v7), .val (.ref b11), .val (.int (0 : Int32)), .val (.int (0 : Int32)), .unset, .unset, .unset, .unset] [(.int v7)])) (fun target kt => ?_) ?_
  · show Steps p.tables e below (Tg11.setTop (mkF m 15 #[.val (.int p0), .val (.int p1), .val (.int p2), .val (.int p3), .val (.int v7), .val (.ref b11), .unset, .unset, .unset, .unset, .unset, .unset] [])) target
    refine XS.iconst Xg11.here hx rfl (hb hby at_15) ?_
    show Steps p.tables e below (Tg11.setTop (mkF m 16 #[.val (.int p0), .val (.int p1), .val (.int p2), .val (.int p3), .val (.int v7), .val (.ref b11), .unset, .unset, .unset, .unset, .unset, .unset] [(.int (0 : Int32))])) target
    refine XS.istore Xg11.here hx rfl (hb hby at_16) rfl (l' := #[.val (.int p0), .val (.int p1), .val (.int p2), .val (.int p3), .val (.int v7), .val (.ref b11), .val (.int (0 : Int32)), .unset, .unset, .unset, .unset, .unset]) rfl ?_
    show Steps p.tables e below (Tg11.setTop (mkF m 18 #[.val (.int p0), .val (.int p1), .val (.int p2), .val (.int p3), .val (.int v7), .val (.ref b11), .val (.int (0 : Int32)), .unset, .unset, .unset, .unset, .unset] [])) target
    refine XS.iconst Xg11.here hx rfl (hb hby at_18) ?_
    show Steps p.tables e below (Tg11.setTop (mkF m 19 #[.val (.int p0), .val (.int p1), .val (.int p2), .val (.int p3), .val (.int v7), .val (.ref b11), .val (.int (0 : Int32)), .unset, .unset, .unset, .unset, .unset] [(.int (0 : Int32))])) target
    refine XS.istore Xg11.here hx rfl (hb hby at_19) rfl (l' := #[.val (.int p0), .val (.int p1), .val (.int p2), .val (.int p3), .val (.int v7), .val (.ref b11), .val (.int (0 : Int32)), .val (.int (0 : Int32)), .unset, .unset, .unset, .unset]) rfl ?_
    show Steps p.tables e below (Tg11.setTop (mkF m 21 #[.val (.int p0), .val (.int p1), .val (.int p2), .val (.int p3), .val (.int v7), .val (.ref b11), .val (.int (0 : Int32)), .val (.int (0 : Int32)), .unset, .unset, .unset, .unset] [])) target
    refine XS.iload Xg11.here hx rfl (hb hby at_21) rfl ?_
    exact kt
  obtain ⟨_, ⟨T_M42, h_M42, lc_M42, j42_l6, j42_a, rfl, X_M42, e_M42, N_M42, Z_M42, F_3, hj42_l6, hj42_a⟩, st_M42⟩ : own_Lead p.tables e below (Tg11.setTop (mkF m 23 #[.val (.int p0), .val (.int p1), .val (.int p2), .val (.int p3), .val (.int v7), .val (.ref b11), .val (.int (0 : Int32)), .val (.int (0 : Int32)), .unset, .unset, .unset, .unset] [(.int v7)])) (fun B => ∃ (T_M42 : State) (h_M42 : Heap) (lc_M42 : List Loc) (j42_l6 : Int32) (j42_a : Nat → Int32), B = T_M42.setTop (mkF m 42 #[.val (.int p0), .val (.int p1), .val (.int p2), .val (.int p3), .val (.int v7), .val (.ref b11), .val (.int j42_l6), .val (.int (0 : Int32)), .unset, .unset, .unset, .unset] []) ∧ Stand p l e room_1 s m #[(.int p0), (.int p1), (.int p2), (.int p3)] below meth c T_M42 lc_M42 1 8 ∧ T_M42.heap = h_M42 ∧ Fr n0 lc_M42 ∧ n0 ≤ h_M42.size ∧ own_RayB Z h_M42 b11 8 j42_a ∧ j42_l6 = (if (0 : Int32) < v7 then (((p1 &&& (2147483647 : Int32)) % v7)) else (0 : Int32)) ∧ j42_a = (if (0 : Int32) < v7 then ((fun i => if i = 0 then (nar .byte ((((p1 &&& (2147483647 : Int32)) % v7)).toInt8.toInt32)) else (fun _ => (0 : Int32)) i)) else (fun _ => (0 : Int32)))) := by
    by_cases c23 : (0 : Int32) < v7
    · obtain ⟨v33, hv33⟩ : ∃ z : Int32, z = ((p1 &&& (2147483647 : Int32)) % v7) := ⟨_, rfl⟩
      refine own_st (B := Tg11.setTop (mkF m 41 #[.val (.int p0), .val (.int p1), .val (.int p2), .val (.int p3), .val (.int v7), .val (.ref b11), .val (.int v33), .val (.int (0 : Int32)), .unset, .unset, .unset, .unset] [(.int (v33.toInt8.toInt32)), (.int (0 : Int32)), (.ref b11)])) (fun target kt => ?_) ?_
      · show Steps p.tables e below (Tg11.setTop (mkF m 23 #[.val (.int p0), .val (.int p1), .val (.int p2), .val (.int p3), .val (.int v7), .val (.ref b11), .val (.int (0 : Int32)), .val (.int (0 : Int32)), .unset, .unset, .unset, .unset] [(.int v7)])) target
        refine XS.ifNo Xg11.here hx rfl (hb hby at_23) rfl ((if0 _ _).trans (tlt c23).2.2.2) ?_
        show Steps p.tables e below (Tg11.setTop (mkF m 26 #[.val (.int p0), .val (.int p1), .val (.int p2), .val (.int p3), .val (.int v7), .val (.ref b11), .val (.int (0 : Int32)), .val (.int (0 : Int32)), .unset, .unset, .unset, .unset] [])) target
        refine XS.iloadN Xg11.here hx rfl (hb hby at_26) rfl ?_
        show Steps p.tables e below (Tg11.setTop (mkF m 27 #[.val (.int p0), .val (.int p1), .val (.int p2), .val (.int p3), .val (.int v7), .val (.ref b11), .val (.int (0 : Int32)), .val (.int (0 : Int32)), .unset, .unset, .unset, .unset] [(.int p1)])) target
        refine Xg11.ldcInt hx hown (mvT hZ (hw _ (List.mem_of_getElem? (i := 0) rfl))) (g := (mkF m 27 #[.val (.int p0), .val (.int p1), .val (.int p2), .val (.int p3), .val (.int v7), .val (.ref b11), .val (.int (0 : Int32)), .val (.int (0 : Int32)), .unset, .unset, .unset, .unset] [(.int p1)])) rfl (hb hby at_27) _ ?_
        show Steps p.tables e below (Tg11.setTop (mkF m 29 #[.val (.int p0), .val (.int p1), .val (.int p2), .val (.int p3), .val (.int v7), .val (.ref b11), .val (.int (0 : Int32)), .val (.int (0 : Int32)), .unset, .unset, .unset, .unset] [(.int (2147483647 : Int32)), (.int p1)])) target
        refine XS.iand Xg11.here hx rfl (hb hby at_29) rfl ?_
        show Steps p.tables e below (Tg11.setTop (mkF m 30 #[.val (.int p0), .val (.int p1), .val (.int p2), .val (.int p3), .val (.int v7), .val (.ref b11), .val (.int (0 : Int32)), .val (.int (0 : Int32)), .unset, .unset, .unset, .unset] [(.int (p1 &&& (2147483647 : Int32)))])) target
        refine XS.iload Xg11.here hx rfl (hb hby at_30) rfl ?_
        show Steps p.tables e below (Tg11.setTop (mkF m 32 #[.val (.int p0), .val (.int p1), .val (.int p2), .val (.int p3), .val (.int v7), .val (.ref b11), .val (.int (0 : Int32)), .val (.int (0 : Int32)), .unset, .unset, .unset, .unset] [(.int v7), (.int (p1 &&& (2147483647 : Int32)))])) target
        refine iremM Xg11 hx rfl (hb hby at_32) rfl (own_pos v7 c23) ?_
        show Steps p.tables e below (Tg11.setTop (mkF m 33 #[.val (.int p0), .val (.int p1), .val (.int p2), .val (.int p3), .val (.int v7), .val (.ref b11), .val (.int (0 : Int32)), .val (.int (0 : Int32)), .unset, .unset, .unset, .unset] [(.int ((p1 &&& (2147483647 : Int32)) % v7))])) target
        refine XS.istore Xg11.here hx rfl (hb hby at_33) rfl (l' := #[.val (.int p0), .val (.int p1), .val (.int p2), .val (.int p3), .val (.int v7), .val (.ref b11), .val (.int v33), .val (.int (0 : Int32)), .unset, .unset, .unset, .unset]) (by subst hv33; rfl) ?_
        show Steps p.tables e below (Tg11.setTop (mkF m 35 #[.val (.int p0), .val (.int p1), .val (.int p2), .val (.int p3), .val (.int v7), .val (.ref b11), .val (.int v33), .val (.int (0 : Int32)), .unset, .unset, .unset, .unset] [])) target
        refine XS.aload Xg11.here hx rfl (hb hby at_35) rfl rfl ?_
        show Steps p.tables e below (Tg11.setTop (mkF m 37 #[.val (.int p0), .val (.int p1), .val (.int p2), .val (.int p3), .val (.int v7), .val (.ref b11), .val (.int v33), .val (.int (0 : Int32)), .unset, .unset, .unset, .unset] [(.ref b11)])) target
        refine XS.iconst Xg11.here hx rfl (hb hby at_37) ?_
        show Steps p.tables e below (Tg11.setTop (mkF m 38 #[.val (.int p0), .val (.int p1), .val (.int p2), .val (.int p3), .val (.int v7), .val (.ref b11), .val (.int v33), .val (.int (0 : Int32)), .unset, .unset, .unset, .unset] [(.int (0 : Int32)), (.ref b11)])) target
        refine XS.iload Xg11.here hx rfl (hb hby at_38) rfl ?_
        show Steps p.tables e below (Tg11.setTop (mkF m 40 #[.val (.int p0), .val (.int p1), .val (.int p2), .val (.int p3), .val (.int v7), .val (.ref b11), .val (.int v33), .val (.int (0 : Int32)), .unset, .unset, .unset, .unset] [(.int v33), (.int (0 : Int32)), (.ref b11)])) target
        refine XS.i2b Xg11.here hx rfl (hb hby at_40) rfl ?_
        exact kt
      obtain ⟨clg41, Arg41, Szg41, -⟩ := id F
      have hing41 : ¬ ((0 : Int32) < 0 ∨ clg41.slots.size ≤ ((0 : Int32)).toNatClampNeg) := own_inb Szg41 (by decide)
      obtain ⟨Tg41, hg41, Xg41, eg41, Wg41, stg41⟩ := stB Xg11 hx hZ eg11 Arg41 (j := (0 : Int32)) hing41 (g := (mkF m 41 #[.val (.int p0), .val (.int p1), .val (.int p2), .val (.int p3), .val (.int v7), .val (.ref b11), .val (.int v33), .val (.int (0 : Int32)), .unset, .unset, .unset, .unset] [(.int (v33.toInt8.toInt32)), (.int (0 : Int32)), (.ref b11)])) rfl rfl (hb hby at_41)
      refine own_st stg41 ?_
      have Ng41 := Fr.snoc Xg41 N0 g_b11
      obtain ⟨a41, ha41⟩ : ∃ gz : Nat → Int32, gz = fun i => if i = 0 then (nar .byte (v33.toInt8.toInt32)) else (fun _ => (0 : Int32)) i := ⟨_, rfl⟩
      have Zz_1 : n0 ≤ hg41.size := Nat.le_trans Zz (Keep.of_wr Wg41).1
      have F_2 : own_RayB Z hg41 b11 8 a41 := by rw [ha41]; exact own_RayB_set F Wg41 (by decide) (fits_nar_byte _)
      subst hv33 ha41
      exact ⟨_, ⟨Tg41, hg41, _, (((p1 &&& (2147483647 : Int32)) % v7)), ((fun i => if i = 0 then (nar .byte ((((p1 &&& (2147483647 : Int32)) % v7)).toInt8.toInt32)) else (fun _ => (0 : Int32)) i)), rfl, Xg41, eg41, Ng41, Zz_1, F_2, (if_pos c23).symm, (if_pos c23).symm⟩, fun _ k => k⟩
    · refine own_st (B := Tg11.setTop (mkF m 42 #[.val (.int p0), .val (.int p1), .val (.int p2), .val (.int p3), .val (.int v7), .val (.ref b11), .val (.int (0 : Int32)), .val (.int (0 : Int32)), .unset, .unset, .unset, .unset] [])) (fun target kt => ?_) ?_
      · show Steps p.tables e below (Tg11.setTop (mkF m 23 #[.val (.int p0), .val (.int p1), .val (.int p2), .val (.int p3), .val (.int v7), .val (.ref b11), .val (.int (0 : Int32)), .val (.int (0 : Int32)), .unset, .unset, .unset, .unset] [(.int v7)])) target
        refine XS.ifYes Xg11.here hx rfl (pc0 := 23) (pc' := 42) rfl (hb hby at_23) rfl ((if0 _ _).trans (flt c23).2.2.2) (by decide) (by decide) ?_
        exact kt
      exact ⟨_, ⟨Tg11, hg11, _, (0 : Int32), (fun _ => (0 : Int32)), rfl, Xg11, eg11, N0, Zz, F, (if_neg c23).symm, (if_neg c23).symm⟩, fun _ k => k⟩
  refine own_st st_M42 ?_
  have hJ1 := own_jj p1 v7 j42_l6 0 _ j42_a hj42_l6 hj42_a hN7.2
  have hl6 : j42_l6.toInt ≤ 7 := by by_cases hc : (0 : Int32) < v7; { have := (hJ1.1 hc).2.1; omega }; { have := hJ1.2.1 hc; omega }
  refine own_st (B := T_M42.setTop (mkF m 44 #[.val (.int p0), .val (.int p1), .val (.int p2), .val (.int p3), .val (.int v7), .val (.ref b11), .val (.int j42_l6), .val (.int (0 : Int32)), .unset, .unset, .unset, .unset] [(.int j42_l6)])) (fun target kt => ?_) ?_
  · show Steps p.tables e below (T_M42.setTop (mkF m 42 #[.val (.int p0), .val (.int p1), .val (.int p2), .val (.int p3), .val (.int v7), .val (.ref b11), .val (.int j42_l6), .val (.int (0 : Int32)), .unset, .unset, .unset, .unset] [])) target
    refine XS.iload X_M42.here hx rfl (hb hby at_42) rfl ?_
    exact kt
  obtain ⟨_, ⟨T_M63, h_M63, lc_M63, j63_l7, j63_a, rfl, X_M63, e_M63, N_M63, Z_M63, F_6, hj63_l7, hj63_a⟩, st_M63⟩ : own_Lead p.tables e below (T_M42.setTop (mkF m 44 #[.val (.int p0), .val (.int p1), .val (.int p2), .val (.int p3), .val (.int v7), .val (.ref b11), .val (.int j42_l6), .val (.int (0 : Int32)), .unset, .unset, .unset, .unset] [(.int j42_l6)])) (fun B => ∃ (T_M63 : State) (h_M63 : Heap) (lc_M63 : List Loc) (j63_l7 : Int32) (j63_a : Nat → Int32), B = T_M63.setTop (mkF m 63 #[.val (.int p0), .val (.int p1), .val (.int p2), .val (.int p3), .val (.int v7), .val (.ref b11), .val (.int j42_l6), .val (.int j63_l7), .unset, .unset, .unset, .unset] []) ∧ Stand p l e room_1 s m #[(.int p0), (.int p1), (.int p2), (.int p3)] below meth c T_M63 lc_M63 1 8 ∧ T_M63.heap = h_M63 ∧ Fr n0 lc_M63 ∧ n0 ≤ h_M63.size ∧ own_RayB Z h_M63 b11 8 j63_a ∧ j63_l7 = (if (0 : Int32) < j42_l6 then (((p2 &&& (2147483647 : Int32)) % j42_l6)) else (0 : Int32)) ∧ j63_a = (if (0 : Int32) < j42_l6 then ((fun i => if i = 1 then (nar .byte ((((p2 &&& (2147483647 : Int32)) % j42_l6)).toInt8.toInt32)) else j42_a i)) else j42_a)) := by
    by_cases c44 : (0 : Int32) < j42_l6
    · obtain ⟨v54, hv54⟩ : ∃ z : Int32, z = ((p2 &&& (2147483647 : Int32)) % j42_l6) := ⟨_, rfl⟩
      refine own_st (B := T_M42.setTop (mkF m 62 #[.val (.int p0), .val (.int p1), .val (.int p2), .val (.int p3), .val (.int v7), .val (.ref b11), .val (.int j42_l6), .val (.int v54), .unset, .unset, .unset, .unset] [(.int (v54.toInt8.toInt32)), (.int (1 : Int32)), (.ref b11)])) (fun target kt => ?_) ?_
      · show Steps p.tables e below (T_M42.setTop (mkF m 44 #[.val (.int p0), .val (.int p1), .val (.int p2), .val (.int p3), .val (.int v7), .val (.ref b11), .val (.int j42_l6), .val (.int (0 : Int32)), .unset, .unset, .unset, .unset] [(.int j42_l6)])) target
        refine XS.ifNo X_M42.here hx rfl (hb hby at_44) rfl ((if0 _ _).trans (tlt c44).2.2.2) ?_
        show Steps p.tables e below (T_M42.setTop (mkF m 47 #[.val (.int p0), .val (.int p1), .val (.int p2), .val (.int p3), .val (.int v7), .val (.ref b11), .val (.int j42_l6), .val (.int (0 : Int32)), .unset, .unset, .unset, .unset] [])) target
        refine XS.iloadN X_M42.here hx rfl (hb hby at_47) rfl ?_
        show Steps p.tables e below (T_M42.setTop (mkF m 48 #[.val (.int p0), .val (.int p1), .val (.int p2), .val (.int p3), .val (.int v7), .val (.ref b11), .val (.int j42_l6), .val (.int (0 : Int32)), .unset, .unset, .unset, .unset] [(.int p2)])) target
        refine X_M42.ldcInt hx hown (mvT hZ (hw _ (List.mem_of_getElem? (i := 0) rfl))) (g := (mkF m 48 #[.val (.int p0), .val (.int p1), .val (.int p2), .val (.int p3), .val (.int v7), .val (.ref b11), .val (.int j42_l6), .val (.int (0 : Int32)), .unset, .unset, .unset, .unset] [(.int p2)])) rfl (hb hby at_48) _ ?_
        show Steps p.tables e below (T_M42.setTop (mkF m 50 #[.val (.int p0), .val (.int p1), .val (.int p2), .val (.int p3), .val (.int v7), .val (.ref b11), .val (.int j42_l6), .val (.int (0 : Int32)), .unset, .unset, .unset, .unset] [(.int (2147483647 : Int32)), (.int p2)])) target
        refine XS.iand X_M42.here hx rfl (hb hby at_50) rfl ?_
        show Steps p.tables e below (T_M42.setTop (mkF m 51 #[.val (.int p0), .val (.int p1), .val (.int p2), .val (.int p3), .val (.int v7), .val (.ref b11), .val (.int j42_l6), .val (.int (0 : Int32)), .unset, .unset, .unset, .unset] [(.int (p2 &&& (2147483647 : Int32)))])) target
        refine XS.iload X_M42.here hx rfl (hb hby at_51) rfl ?_
        show Steps p.tables e below (T_M42.setTop (mkF m 53 #[.val (.int p0), .val (.int p1), .val (.int p2), .val (.int p3), .val (.int v7), .val (.ref b11), .val (.int j42_l6), .val (.int (0 : Int32)), .unset, .unset, .unset, .unset] [(.int j42_l6), (.int (p2 &&& (2147483647 : Int32)))])) target
        refine iremM X_M42 hx rfl (hb hby at_53) rfl (own_pos j42_l6 c44) ?_
        show Steps p.tables e below (T_M42.setTop (mkF m 54 #[.val (.int p0), .val (.int p1), .val (.int p2), .val (.int p3), .val (.int v7), .val (.ref b11), .val (.int j42_l6), .val (.int (0 : Int32)), .unset, .unset, .unset, .unset] [(.int ((p2 &&& (2147483647 : Int32)) % j42_l6))])) target
        refine XS.istore X_M42.here hx rfl (hb hby at_54) rfl (l' := #[.val (.int p0), .val (.int p1), .val (.int p2), .val (.int p3), .val (.int v7), .val (.ref b11), .val (.int j42_l6), .val (.int v54), .unset, .unset, .unset, .unset]) (by subst hv54; rfl) ?_
        show Steps p.tables e below (T_M42.setTop (mkF m 56 #[.val (.int p0), .val (.int p1), .val (.int p2), .val (.int p3), .val (.int v7), .val (.ref b11), .val (.int j42_l6), .val (.int v54), .unset, .unset, .unset, .unset] [])) target
        refine XS.aload X_M42.here hx rfl (hb hby at_56) rfl rfl ?_
        show Steps p.tables e below (T_M42.setTop (mkF m 58 #[.val (.int p0), .val (.int p1), .val (.int p2), .val (.int p3), .val (.int v7), .val (.ref b11), .val (.int j42_l6), .val (.int v54), .unset, .unset, .unset, .unset] [(.ref b11)])) target
        refine XS.iconst X_M42.here hx rfl (hb hby at_58) ?_
        show Steps p.tables e below (T_M42.setTop (mkF m 59 #[.val (.int p0), .val (.int p1), .val (.int p2), .val (.int p3), .val (.int v7), .val (.ref b11), .val (.int j42_l6), .val (.int v54), .unset, .unset, .unset, .unset] [(.int (1 : Int32)), (.ref b11)])) target
        refine XS.iload X_M42.here hx rfl (hb hby at_59) rfl ?_
        show Steps p.tables e below (T_M42.setTop (mkF m 61 #[.val (.int p0), .val (.int p1), .val (.int p2), .val (.int p3), .val (.int v7), .val (.ref b11), .val (.int j42_l6), .val (.int v54), .unset, .unset, .unset, .unset] [(.int v54), (.int (1 : Int32)), (.ref b11)])) target
        refine XS.i2b X_M42.here hx rfl (hb hby at_61) rfl ?_
        exact kt
      obtain ⟨clg62, Arg62, Szg62, -⟩ := id F_3
      have hing62 : ¬ ((1 : Int32) < 0 ∨ clg62.slots.size ≤ ((1 : Int32)).toNatClampNeg) := own_inb Szg62 (by decide)
      obtain ⟨Tg62, hg62, Xg62, eg62, Wg62, stg62⟩ := stB X_M42 hx hZ e_M42 Arg62 (j := (1 : Int32)) hing62 (g := (mkF m 62 #[.val (.int p0), .val (.int p1), .val (.int p2), .val (.int p3), .val (.int v7), .val (.ref b11), .val (.int j42_l6), .val (.int v54), .unset, .unset, .unset, .unset] [(.int (v54.toInt8.toInt32)), (.int (1 : Int32)), (.ref b11)])) rfl rfl (hb hby at_62)
      refine own_st stg62 ?_
      have Ng62 := Fr.snoc Xg62 N_M42 g_b11
      obtain ⟨a62, ha62⟩ : ∃ gz : Nat → Int32, gz = fun i => if i = 1 then (nar .byte (v54.toInt8.toInt32)) else j42_a i := ⟨_, rfl⟩
      have Zz_2 : n0 ≤ hg62.size := Nat.le_trans Z_M42 (Keep.of_wr Wg62).1
      have F_5 : own_RayB Z hg62 b11 8 a62 := by rw [ha62]; exact own_RayB_set F_3 Wg62 (by decide) (fits_nar_byte _)
      subst hv54 ha62
      exact ⟨_, ⟨Tg62, hg62, _, (((p2 &&& (2147483647 : Int32)) % j42_l6)), ((fun i => if i = 1 then (nar .byte ((((p2 &&& (2147483647 : Int32)) % j42_l6)).toInt8.toInt32)) else j42_a i)), rfl, Xg62, eg62, Ng62, Zz_2, F_5, (if_pos c44).symm, (if_pos c44).symm⟩, fun _ k => k⟩
    · refine own_st (B := T_M42.setTop (mkF m 63 #[.val (.int p0), .val (.int p1), .val (.int p2), .val (.int p3), .val (.int v7), .val (.ref b11), .val (.int j42_l6), .val (.int (0 : Int32)), .unset, .unset, .unset, .unset] [])) (fun target kt => ?_) ?_
      · show Steps p.tables e below (T_M42.setTop (mkF m 44 #[.val (.int p0), .val (.int p1), .val (.int p2), .val (.int p3), .val (.int v7), .val (.ref b11), .val (.int j42_l6), .val (.int (0 : Int32)), .unset, .unset, .unset, .unset] [(.int j42_l6)])) target
        refine XS.ifYes X_M42.here hx rfl (pc0 := 44) (pc' := 63) rfl (hb hby at_44) rfl ((if0 _ _).trans (flt c44).2.2.2) (by decide) (by decide) ?_
        exact kt
      exact ⟨_, ⟨T_M42, h_M42, _, (0 : Int32), j42_a, rfl, X_M42, e_M42, N_M42, Z_M42, F_3, (if_neg c44).symm, (if_neg c44).symm⟩, fun _ k => k⟩
  refine own_st st_M63 ?_
  have hJ2 := own_jj p2 j42_l6 j63_l7 1 _ j63_a hj63_l7 hj63_a (by omega)
  obtain ⟨Tg63, hg63, Xg63, eg63, Eg63, Ag63, Dg63, -, stg63⟩ := newO X_M63 hx hZ hown (hw _ (List.mem_of_getElem? (i := 2) rfl)) (hw _ (List.mem_of_getElem? (i := 3) rfl)) (hw _ (List.mem_of_getElem? (i := 4) rfl)) e_M63 (g := (mkF m 63 #[.val (.int p0), .val (.int p1), .val (.int p2), .val (.int p3), .val (.int v7), .val (.ref b11), .val (.int j42_l6), .val (.int j63_l7), .unset, .unset, .unset, .unset] [])) rfl (hb hby at_63) (by decide) (by decide)
  obtain ⟨b63, gg63⟩ : ∃ z, z = h_M63.size := ⟨_, rfl⟩
  rw [← gg63] at Ag63 Dg63 stg63
  refine own_st stg63 ?_
  have ne_b11_b63 : b11 ≠ b63 := Nat.ne_of_lt (Nat.lt_of_lt_of_le F_6.lt (Nat.le_of_eq gg63.symm))
  have g_b63 : n0 ≤ b63 := Nat.le_trans Z_M63 (Nat.le_of_eq gg63.symm)
  have F_7 := F_6.ext Eg63
  have Zz_3 : n0 ≤ hg63.size := Nat.le_trans Z_M63 Eg63.1
  have F_8 : Fld Z hg63 b63 "com/example/wireform/wireform/wire/WireReader" "bytes" "[B" .null := Dg63 (Or.inr (hw _ (List.mem_of_getElem? (i := 21) rfl))) (ty := (.array .byte)) (by decide)
  have F_9 : Fld Z hg63 b63 "com/example/wireform/wireform/wire/WireReader" "end" "I" (.int (0 : Int32)) := Dg63 (Or.inr (hw _ (List.mem_of_getElem? (i := 23) rfl))) (ty := .int) (by decide)
  have F_10 : Fld Z hg63 b63 "com/example/wireform/wireform/wire/WireReader" "nesting" "Lcom/example/wireform/wireform/wire/Nesting;" .null := Dg63 (Or.inr (hw _ (List.mem_of_getElem? (i := 25) rfl))) (ty := (.object "com/example/wireform/wireform/wire/Nesting")) (by decide)
  have F_11 : Fld Z hg63 b63 "com/example/wireform/wireform/wire/WireReader" "limit" "I" (.int (0 : Int32)) := Dg63 (Or.inl (hw _ (List.mem_of_getElem? (i := 27) rfl))) (ty := .int) (by decide)
  have F_12 : Fld Z hg63 b63 "com/example/wireform/wireform/wire/WireReader" "position" "I" (.int (0 : Int32)) := Dg63 (Or.inl (hw _ (List.mem_of_getElem? (i := 34) rfl))) (ty := .int) (by decide)
  refine own_st (B := Tg63.setTop (mkF m 71 #[.val (.int p0), .val (.int p1), .val (.int p2), .val (.int p3), .val (.int v7), .val (.ref b11), .val (.int j42_l6), .val (.int j63_l7), .unset, .unset, .unset, .unset] [(.int v7), (.ref b11), (.ref b63), (.ref b63)])) (fun target kt => ?_) ?_
  · show Steps p.tables e below (Tg63.setTop (mkF m 66 #[.val (.int p0), .val (.int p1), .val (.int p2), .val (.int p3), .val (.int v7), .val (.ref b11), .val (.int j42_l6), .val (.int j63_l7), .unset, .unset, .unset, .unset] [(.ref b63)])) target
    refine XS.dup Xg63.here hx rfl (hb hby at_66) rfl rfl ?_
    show Steps p.tables e below (Tg63.setTop (mkF m 67 #[.val (.int p0), .val (.int p1), .val (.int p2), .val (.int p3), .val (.int v7), .val (.ref b11), .val (.int j42_l6), .val (.int j63_l7), .unset, .unset, .unset, .unset] [(.ref b63), (.ref b63)])) target
    refine XS.aload Xg63.here hx rfl (hb hby at_67) rfl rfl ?_
    show Steps p.tables e below (Tg63.setTop (mkF m 69 #[.val (.int p0), .val (.int p1), .val (.int p2), .val (.int p3), .val (.int v7), .val (.ref b11), .val (.int j42_l6), .val (.int j63_l7), .unset, .unset, .unset, .unset] [(.ref b11), (.ref b63), (.ref b63)])) target
    refine XS.iload Xg63.here hx rfl (hb hby at_69) rfl ?_
    exact kt
  obtain ⟨Tg71, hg71, Xg71, eg71, Eg71, Ag71, Dg71, -, stg71⟩ := newO Xg63 hx hZ hown (hw _ (List.mem_of_getElem? (i := 5) rfl)) (hw _ (List.mem_of_getElem? (i := 6) rfl)) (hw _ (List.mem_of_getElem? (i := 7) rfl)) eg63 (g := (mkF m 71 #[.val (.int p0), .val (.int p1), .val (.int p2), .val (.int p3), .val (.int v7), .val (.ref b11), .val (.int j42_l6), .val (.int j63_l7), .unset, .unset, .unset, .unset] [(.int v7), (.ref b11), (.ref b63), (.ref b63)])) rfl (hb hby at_71) (by decide) (by decide)
  obtain ⟨b71, gg71⟩ : ∃ z, z = hg63.size := ⟨_, rfl⟩
  rw [← gg71] at Ag71 Dg71 stg71
  refine own_st stg71 ?_
  have ne_b11_b71 : b11 ≠ b71 := Nat.ne_of_lt (Nat.lt_of_lt_of_le F_7.lt (Nat.le_of_eq gg71.symm))
  have ne_b63_b71 : b63 ≠ b71 := Nat.ne_of_lt (Nat.lt_of_lt_of_le Ag63.lt (Nat.le_of_eq gg71.symm))
  have g_b71 : n0 ≤ b71 := Nat.le_trans Zz_3 (Nat.le_of_eq gg71.symm)
  have F_13 := F_7.ext Eg71
  have F_14 := Ag63.ext Eg71
  have F_15 := F_8.ext Eg71
  have F_16 := F_9.ext Eg71
  have F_17 := F_10.ext Eg71
  have F_18 := F_11.ext Eg71
  have F_19 := F_12.ext Eg71
  have Zz_4 : n0 ≤ hg71.size := Nat.le_trans Zz_3 Eg71.1
  have F_20 : Fld Z hg71 b71 "com/example/wireform/wireform/wire/Nesting" "limit" "I" (.int (0 : Int32)) := Dg71 (Or.inr (hw _ (List.mem_of_getElem? (i := 15) rfl))) (ty := .int) (by decide)
  refine own_st (B := Tg71.setTop (mkF m 76 #[.val (.int p0), .val (.int p1), .val (.int p2), .val (.int p3), .val (.int v7), .val (.ref b11), .val (.int j42_l6), .val (.int j63_l7), .unset, .unset, .unset, .unset] [(.int (0 : Int32)), (.ref b71), (.ref b71), (.int v7), (.ref b11), (.ref b63), (.ref b63)])) (fun target kt => ?_) ?_
  · show Steps p.tables e below (Tg71.setTop (mkF m 74 #[.val (.int p0), .val (.int p1), .val (.int p2), .val (.int p3), .val (.int v7), .val (.ref b11), .val (.int j42_l6), .val (.int j63_l7), .unset, .unset, .unset, .unset] [(.ref b71), (.int v7), (.ref b11), (.ref b63), (.ref b63)])) target
    refine XS.dup Xg71.here hx rfl (hb hby at_74) rfl rfl ?_
    show Steps p.tables e below (Tg71.setTop (mkF m 75 #[.val (.int p0), .val (.int p1), .val (.int p2), .val (.int p3), .val (.int v7), .val (.ref b11), .val (.int j42_l6), .val (.int j63_l7), .unset, .unset, .unset, .unset] [(.ref b71), (.ref b71), (.int v7), (.ref b11), (.ref b63), (.ref b63)])) target
    refine XS.iconst Xg71.here hx rfl (hb hby at_75) ?_
    exact kt
  obtain ⟨_, _, ⟨Tg76, Lg76, kg76, ng76⟩, -, Xg76, ⟨Lcg76, hQg76, lg76, yg76, zg76⟩, stg76⟩ := Xg71.specialBack hx (y := (⟨"com/example/wireform/wireform/wire/Nesting", "<init>", "(I)V"⟩ : MethodName)) rfl hown (mvT hZ (hw _ (List.mem_of_getElem? (i := 8) rfl))) (mvT hZ (hw _ (List.mem_of_getElem? (i := 9) rfl))) (mvT hZ (hw _ (List.mem_of_getElem? (i := 10) rfl))) (by decide) (backOf (W := 5) (own_rm1 l Z a0 hw [] b71 (0 : Int32) hg71 n0 Zz_4 Ag71 F_20 g_b71 (show ¬ ((0 : Int32) < (0 : Int32)) from by decide) (show ¬ ((1000 : Int32) < (0 : Int32)) from by decide)) hZ (hw _ (List.mem_of_getElem? (i := 10) rfl)) (hw _ (List.mem_of_getElem? (i := 7) rfl)) (by decide) (by decide)) (g := (mkF m 76 #[.val (.int p0), .val (.int p1), .val (.int p2), .val (.int p3), .val (.int v7), .val (.ref b11), .val (.int j42_l6), .val (.int j63_l7), .unset, .unset, .unset, .unset] [(.int (0 : Int32)), (.ref b71), (.ref b71), (.int v7), (.ref b11), (.ref b63), (.ref b63)])) rfl (by rw [hml]; rfl) (Steps.refl _) (a := b71) (argsL := [(.int (0 : Int32))]) (rest := [(.ref b71), (.int v7), (.ref b11), (.ref b63), (.ref b63)]) (lenOf own_pd6 rfl) rfl (by show 2 * 0 + _ ≤ _; exact Nat.le_of_eq rfl) (hb hby at_76) (fun _ _ => ⟨rfl, eg71, (by decide : 3 + 0 ≤ _), (by decide : 15 + 0 ≤ _)⟩)
  dsimp only [Pt.U, Pt.locs, Pt.cells, Pt.slots] at Xg76 lg76 yg76 zg76 stg76 hQg76
  subst lg76 yg76 zg76
  obtain ⟨rfl, Ng76q, Kg76, F_21, F_22⟩ := hQg76
  have F_23 := F_13.keep Kg76 (ninS ne_b11_b71 nin0)
  have F_24 := F_14.keep Kg76
  have F_25 := F_15.keep Kg76 (ninS ne_b63_b71 nin0)
  have F_26 := F_16.keep Kg76 (ninS ne_b63_b71 nin0)
  have F_27 := F_17.keep Kg76 (ninS ne_b63_b71 nin0)
  have F_28 := F_18.keep Kg76 (ninS ne_b63_b71 nin0)
  have F_29 := F_19.keep Kg76 (ninS ne_b63_b71 nin0)
  have Zz_5 : n0 ≤ Tg76.heap.size := Nat.le_trans Zz_4 Kg76.1
  have Ng76 := Fr.app N_M63 Ng76q
  refine own_st (fun _ k => stg76.trans k) ?_
  obtain ⟨_, _, ⟨Tg79, Lg79, kg79, ng79⟩, -, Xg79, ⟨Lcg79, hQg79, lg79, yg79, zg79⟩, stg79⟩ := Xg76.specialBack hx (y := (⟨"com/example/wireform/wireform/wire/WireReader", "<init>", "([BILcom/example/wireform/wireform/wire/Nesting;)V"⟩ : MethodName)) rfl hown (mvT hZ (hw _ (List.mem_of_getElem? (i := 16) rfl))) (mvT hZ (hw _ (List.mem_of_getElem? (i := 17) rfl))) (mvT hZ (hw _ (List.mem_of_getElem? (i := 18) rfl))) (by decide) (backOf (W := 1) (own_rm3 l Z a0 hw [] b63 b11 v7 b71 Tg76.heap n0 Zz_5 F_24 F_25 F_26 F_27 F_28 F_29 g_b63) hZ (hw _ (List.mem_of_getElem? (i := 18) rfl)) (hw _ (List.mem_of_getElem? (i := 4) rfl)) (by decide) (by decide)) (g := (mkF m 79 #[.val (.int p0), .val (.int p1), .val (.int p2), .val (.int p3), .val (.int v7), .val (.ref b11), .val (.int j42_l6), .val (.int j63_l7), .unset, .unset, .unset, .unset] [(.ref b71), (.int v7), (.ref b11), (.ref b63), (.ref b63)])) rfl (by rw [hml]; rfl) (Steps.refl _) (a := b63) (argsL := [(.ref b11), (.int v7), (.ref b71)]) (rest := [(.ref b63)]) (lenOf own_pd7 rfl) rfl (by show 2 * 0 + _ ≤ _; exact Nat.le_of_eq rfl) (hb hby at_79) (fun _ _ => ⟨rfl, rfl, (by decide : 3 + 0 ≤ _), (by decide : 15 + 0 ≤ _)⟩)
  dsimp only [Pt.U, Pt.locs, Pt.cells, Pt.slots] at Xg79 lg79 yg79 zg79 stg79 hQg79
  subst lg79 yg79 zg79
  obtain ⟨rfl, Ng79q, Kg79, F_30, F_31, F_32, F_33, F_34, F_35⟩ := hQg79
  have F_36 := F_23.keep Kg79 (ninS ne_b11_b63 nin0)
  have F_37 := F_21.keep Kg79
  have F_38 := F_22.keep Kg79 (ninS (Ne.symm ne_b63_b71) nin0)
  have Zz_6 : n0 ≤ Tg79.heap.size := Nat.le_trans Zz_5 Kg79.1
  have Ng79 := Fr.app Ng76 Ng79q
  refine own_st (fun _ k => stg79.trans k) ?_
  refine own_st (B := Tg79.setTop (mkF m 86 #[.val (.int p0), .val (.int p1), .val (.int p2), .val (.int p3), .val (.int v7), .val (.ref b11), .val (.int j42_l6), .val (.int j63_l7), .val (.ref b63), .unset, .unset, .unset] [(.ref b63)])) (fun target kt => ?_) ?_
  · show Steps p.tables e below (Tg79.setTop (mkF m 82 #[.val (.int p0), .val (.int p1), .val (.int p2), .val (.int p3), .val (.int v7), .val (.ref b11), .val (.int j42_l6), .val (.int j63_l7), .unset, .unset, .unset, .unset] [(.ref b63)])) target
    refine XS.astore Xg79.here hx rfl (hb hby at_82) rfl rfl (l' := #[.val (.int p0), .val (.int p1), .val (.int p2), .val (.int p3), .val (.int v7), .val (.ref b11), .val (.int j42_l6), .val (.int j63_l7), .val (.ref b63), .unset, .unset, .unset]) rfl ?_
    show Steps p.tables e below (Tg79.setTop (mkF m 84 #[.val (.int p0), .val (.int p1), .val (.int p2), .val (.int p3), .val (.int v7), .val (.ref b11), .val (.int j42_l6), .val (.int j63_l7), .val (.ref b63), .unset, .unset, .unset] [])) target
    refine XS.aload Xg79.here hx rfl (hb hby at_84) rfl rfl ?_
    exact kt
  obtain ⟨cqg86, kqg86, qg86a, qg86b, qg86c⟩ := isOf hZ rfl F_30
  obtain ⟨_, _, ⟨Tg86, Lg86, kg86, ng86⟩, -, Xg86, ⟨Lcg86, hQg86, lg86, yg86, zg86⟩, stg86⟩ := Xg79.virtualBack hx (y := (⟨"com/example/wireform/wireform/wire/WireReader", "isAtEnd", "()Z"⟩ : MethodName)) (z := (⟨"com/example/wireform/wireform/wire/WireReader", "isAtEnd", "()Z"⟩ : MethodName)) hown (mvT hZ (hw _ (List.mem_of_getElem? (i := 28) rfl))) (mvT hZ (hw _ (List.mem_of_getElem? (i := 29) rfl))) (notFace_of_selects (args := #[]) (mvT hZ (hw _ (List.mem_of_getElem? (i := 31) rfl)))) (mvT hZ (hw _ (List.mem_of_getElem? (i := 31) rfl))) (mvT hZ (hw _ (List.mem_of_getElem? (i := 30) rfl))) (by decide) (backOf (W := 0) (own_rm4 l Z a0 hw [] b63 v7 (0 : Int32) Tg79.heap n0 Zz_6 F_34 F_35) hZ (hw _ (List.mem_of_getElem? (i := 32) rfl)) (hw _ (List.mem_of_getElem? (i := 4) rfl)) (by decide) (by decide)) qg86a qg86c (g := (mkF m 86 #[.val (.int p0), .val (.int p1), .val (.int p2), .val (.int p3), .val (.int v7), .val (.ref b11), .val (.int j42_l6), .val (.int j63_l7), .val (.ref b63), .unset, .unset, .unset] [(.ref b63)])) rfl (by rw [hml]; rfl) (Steps.refl _) (argsL := []) (rest := []) (lenOf own_pd8 rfl) rfl (by show 2 * 0 + _ ≤ _; exact Nat.le_of_eq rfl) (hb hby at_86) (fun _ _ => ⟨rfl, rfl, (by decide : 3 + 0 ≤ _), (by decide : 15 + 0 ≤ _)⟩)
  dsimp only [Pt.U, Pt.locs, Pt.cells, Pt.slots] at Xg86 lg86 yg86 zg86 stg86 hQg86
  subst lg86 yg86 zg86
  obtain ⟨rfl, Ng86q, eg86⟩ := hQg86
  have Ng86 := Fr.app Ng79 Ng86q
  refine own_st (fun _ k => stg86.trans k) ?_
  refine own_st (B := Tg86.setTop (mkF m 91 #[.val (.int p0), .val (.int p1), .val (.int p2), .val (.int p3), .val (.int v7), .val (.ref b11), .val (.int j42_l6), .val (.int j63_l7), .val (.ref b63), .unset, .unset, .unset] [(.int v7), (.int (own_b ((0 : Int32) = v7)))])) (fun target kt => ?_) ?_
  · show Steps p.tables e below (Tg86.setTop (mkF m 89 #[.val (.int p0), .val (.int p1), .val (.int p2), .val (.int p3), .val (.int v7), .val (.ref b11), .val (.int j42_l6), .val (.int j63_l7), .val (.ref b63), .unset, .unset, .unset] [(.int (own_b ((0 : Int32) = v7)))])) target
    refine XS.iload Xg86.here hx rfl (hb hby at_89) rfl ?_
    exact kt
  obtain ⟨_, ⟨j99_s0, rfl, rfl⟩, st_M99⟩ : own_Lead p.tables e below (Tg86.setTop (mkF m 91 #[.val (.int p0), .val (.int p1), .val (.int p2), .val (.int p3), .val (.int v7), .val (.ref b11), .val (.int j42_l6), .val (.int j63_l7), .val (.ref b63), .unset, .unset, .unset] [(.int v7), (.int (own_b ((0 : Int32) = v7)))])) (fun B => ∃ (j99_s0 : Int32), B = Tg86.setTop (mkF m 99 #[.val (.int p0), .val (.int p1), .val (.int p2), .val (.int p3), .val (.int v7), .val (.ref b11), .val (.int j42_l6), .val (.int j63_l7), .val (.ref b63), .unset, .unset, .unset] [(.int j99_s0), (.int (own_b ((0 : Int32) = v7)))]) ∧ j99_s0 = own_b (v7 = (0 : Int32))) := by
    by_cases c91 : v7 = (0 : Int32)
    · refine own_st (B := Tg86.setTop (mkF m 99 #[.val (.int p0), .val (.int p1), .val (.int p2), .val (.int p3), .val (.int v7), .val (.ref b11), .val (.int j42_l6), .val (.int j63_l7), .val (.ref b63), .unset, .unset, .unset] [(.int (1 : Int32)), (.int (own_b ((0 : Int32) = v7)))])) (fun target kt => ?_) ?_
      · show Steps p.tables e below (Tg86.setTop (mkF m 91 #[.val (.int p0), .val (.int p1), .val (.int p2), .val (.int p3), .val (.int v7), .val (.ref b11), .val (.int j42_l6), .val (.int j63_l7), .val (.ref b63), .unset, .unset, .unset] [(.int v7), (.int (own_b ((0 : Int32) = v7)))])) target
        refine XS.ifNo Xg86.here hx rfl (hb hby at_91) rfl ((if0 _ _).trans (teq c91).2) ?_
        show Steps p.tables e below (Tg86.setTop (mkF m 94 #[.val (.int p0), .val (.int p1), .val (.int p2), .val (.int p3), .val (.int v7), .val (.ref b11), .val (.int j42_l6), .val (.int j63_l7), .val (.ref b63), .unset, .unset, .unset] [(.int (own_b ((0 : Int32) = v7)))])) target
        refine XS.iconst Xg86.here hx rfl (hb hby at_94) ?_
        show Steps p.tables e below (Tg86.setTop (mkF m 95 #[.val (.int p0), .val (.int p1), .val (.int p2), .val (.int p3), .val (.int v7), .val (.ref b11), .val (.int j42_l6), .val (.int j63_l7), .val (.ref b63), .unset, .unset, .unset] [(.int (1 : Int32)), (.int (own_b ((0 : Int32) = v7)))])) target
        refine XS.goto Xg86.here hx rfl (pc0 := 95) (pc' := 99) rfl (hb hby at_95) (by decide) (by decide) ?_
        exact kt
      exact ⟨_, ⟨(1 : Int32), rfl, (own_b1 c91).symm⟩, fun _ k => k⟩
    · refine own_st (B := Tg86.setTop (mkF m 99 #[.val (.int p0), .val (.int p1), .val (.int p2), .val (.int p3), .val (.int v7), .val (.ref b11), .val (.int j42_l6), .val (.int j63_l7), .val (.ref b63), .unset, .unset, .unset] [(.int (0 : Int32)), (.int (own_b ((0 : Int32) = v7)))])) (fun target kt => ?_) ?_
      · show Steps p.tables e below (Tg86.setTop (mkF m 91 #[.val (.int p0), .val (.int p1), .val (.int p2), .val (.int p3), .val (.int v7), .val (.ref b11), .val (.int j42_l6), .val (.int j63_l7), .val (.ref b63), .unset, .unset, .unset] [(.int v7), (.int (own_b ((0 : Int32) = v7)))])) target
        refine XS.ifYes Xg86.here hx rfl (pc0 := 91) (pc' := 98) rfl (hb hby at_91) rfl ((if0 _ _).trans (feq c91).2) (by decide) (by decide) ?_
        show Steps p.tables e below (Tg86.setTop (mkF m 98 #[.val (.int p0), .val (.int p1), .val (.int p2), .val (.int p3), .val (.int v7), .val (.ref b11), .val (.int j42_l6), .val (.int j63_l7), .val (.ref b63), .unset, .unset, .unset] [(.int (own_b ((0 : Int32) = v7)))])) target
        refine XS.iconst Xg86.here hx rfl (hb hby at_98) ?_
        exact kt
      exact ⟨_, ⟨(0 : Int32), rfl, (own_b0 c91).symm⟩, fun _ k => k⟩
  refine own_st st_M99 ?_
  have c99 : ((0 : Int32) = v7) ↔ (v7 = (0 : Int32)) := by
    exact ⟨Eq.symm, Eq.symm⟩
  refine own_st (B := Tg86.setTop (mkF m 111 #[.val (.int p0), .val (.int p1), .val (.int p2), .val (.int p3), .val (.int v7), .val (.ref b11), .val (.int j42_l6), .val (.int j63_l7), .val (.ref b63), .val (.int (1 : Int32)), .unset, .unset] [(.int v7)])) (fun target kt => ?_) ?_
  · show Steps p.tables e below (Tg86.setTop (mkF m 99 #[.val (.int p0), .val (.int p1), .val (.int p2), .val (.int p3), .val (.int v7), .val (.ref b11), .val (.int j42_l6), .val (.int j63_l7), .val (.ref b63), .unset, .unset, .unset] [(.int (own_b (v7 = (0 : Int32)))), (.int (own_b ((0 : Int32) = v7)))])) target
    refine XS.icmpNo Xg86.here hx rfl (hb hby at_99) rfl (teq (own_bb rfl rfl c99)).2 ?_
    show Steps p.tables e below (Tg86.setTop (mkF m 102 #[.val (.int p0), .val (.int p1), .val (.int p2), .val (.int p3), .val (.int v7), .val (.ref b11), .val (.int j42_l6), .val (.int j63_l7), .val (.ref b63), .unset, .unset, .unset] [])) target
    refine XS.iconst Xg86.here hx rfl (hb hby at_102) ?_
    show Steps p.tables e below (Tg86.setTop (mkF m 103 #[.val (.int p0), .val (.int p1), .val (.int p2), .val (.int p3), .val (.int v7), .val (.ref b11), .val (.int j42_l6), .val (.int j63_l7), .val (.ref b63), .unset, .unset, .unset] [(.int (1 : Int32))])) target
    refine XS.goto Xg86.here hx rfl (pc0 := 103) (pc' := 107) rfl (hb hby at_103) (by decide) (by decide) ?_
    show Steps p.tables e below (Tg86.setTop (mkF m 107 #[.val (.int p0), .val (.int p1), .val (.int p2), .val (.int p3), .val (.int v7), .val (.ref b11), .val (.int j42_l6), .val (.int j63_l7), .val (.ref b63), .unset, .unset, .unset] [(.int (1 : Int32))])) target
    refine XS.istore Xg86.here hx rfl (hb hby at_107) rfl (l' := #[.val (.int p0), .val (.int p1), .val (.int p2), .val (.int p3), .val (.int v7), .val (.ref b11), .val (.int j42_l6), .val (.int j63_l7), .val (.ref b63), .val (.int (1 : Int32)), .unset, .unset]) rfl ?_
    show Steps p.tables e below (Tg86.setTop (mkF m 109 #[.val (.int p0), .val (.int p1), .val (.int p2), .val (.int p3), .val (.int v7), .val (.ref b11), .val (.int j42_l6), .val (.int j63_l7), .val (.ref b63), .val (.int (1 : Int32)), .unset, .unset] [])) target
    refine XS.iload Xg86.here hx rfl (hb hby at_109) rfl ?_
    exact kt
  by_cases c111 : v7 = (0 : Int32)
  · refine own_st (B := Tg86.setTop (mkF m 116 #[.val (.int p0), .val (.int p1), .val (.int p2), .val (.int p3), .val (.int v7), .val (.ref b11), .val (.int j42_l6), .val (.int j63_l7), .val (.ref b63), .val (.int (1 : Int32)), .unset, .unset] [(.int (1 : Int32))])) (fun target kt => ?_) ?_
    · show Steps p.tables e below (Tg86.setTop (mkF m 111 #[.val (.int p0), .val (.int p1), .val (.int p2), .val (.int p3), .val (.int v7), .val (.ref b11), .val (.int j42_l6), .val (.int j63_l7), .val (.ref b63), .val (.int (1 : Int32)), .unset, .unset] [(.int v7)])) target
      refine XS.ifNo Xg86.here hx rfl (hb hby at_111) rfl ((if0 _ _).trans (teq c111).2) ?_
      show Steps p.tables e below (Tg86.setTop (mkF m 114 #[.val (.int p0), .val (.int p1), .val (.int p2), .val (.int p3), .val (.int v7), .val (.ref b11), .val (.int j42_l6), .val (.int j63_l7), .val (.ref b63), .val (.int (1 : Int32)), .unset, .unset] [])) target
      refine XS.iload Xg86.here hx rfl (hb hby at_114) rfl ?_
      exact kt
    obtain ⟨fs, hr, hrun, hended, hW, hsame⟩ := Xg86.leave (v := some (.int (1 : Int32))) (fun h => by rw [Bd.returns] at h; cases h)
    have hend : Steps p.tables e below (Tg86.setTop (mkF m 116 #[.val (.int p0), .val (.int p1), .val (.int p2), .val (.int p3), .val (.int v7), .val (.ref b11), .val (.int j42_l6), .val (.int j63_l7), .val (.ref b63), .val (.int (1 : Int32)), .unset, .unset] [(.int (1 : Int32))])) (Tg86.setFrames fs) := by
      exact retN Xg86 hx (t := .boolean) Bd.returns (by simp) (hb hby at_116) hr
    refine own_fin hend ⟨_, hrun, hended, _, _, rfl, ?_, ⟨_, rfl⟩, hW, hsame.mono (by decide) (by decide)⟩
    show own_Q0 Z p0 p1 p2 p3 h0 n0 _ Tg86.heap _
    rw [eg86]
    exact ⟨rfl, Ng86⟩
  · refine own_st (B := Tg86.setTop (mkF m 117 #[.val (.int p0), .val (.int p1), .val (.int p2), .val (.int p3), .val (.int v7), .val (.ref b11), .val (.int j42_l6), .val (.int j63_l7), .val (.ref b63), .val (.int (1 : Int32)), .unset, .unset] [])) (fun target kt => ?_) ?_
    · show Steps p.tables e below (Tg86.setTop (mkF m 111 #[.val (.int p0), .val (.int p1), .val (.int p2), .val (.int p3), .val (.int v7), .val (.ref b11), .val (.int j42_l6), .val (.int j63_l7), .val (.ref b63), .val (.int (1 : Int32)), .unset, .unset] [(.int v7)])) target
      refine XS.ifYes Xg86.here hx rfl (pc0 := 111) (pc' := 117) rfl (hb hby at_111) rfl ((if0 _ _).trans (feq c111).2) (by decide) (by decide) ?_
      exact kt
    have h7 : (0 : Int32) < v7 := by
      have e0 : (0 : Int32).toInt = 0 := by decide
      have h := c111
      rw [← Int32.toInt_inj, e0] at h
      rw [Int32.lt_iff_toInt_lt, e0]
      omega
    have hL := hJ1.1 h7
    have hA : j63_a (0 : Int32).toNatClampNeg = j42_l6 := by
      show j63_a 0 = j42_l6
      rw [hJ2.2.2 0 (by decide)]
      exact hL.2.2
    have hV0 : own_V (0 : Int32) v7 (j63_a (0 : Int32).toNatClampNeg) 8 := by
      rw [hA]
      have e0 : (0 : Int32).toInt = 0 := by decide
      unfold own_V
      omega
    refine own_st (B := Tg86.setTop (mkF m 120 #[.val (.int p0), .val (.int p1), .val (.int p2), .val (.int p3), .val (.int v7), .val (.ref b11), .val (.int j42_l6), .val (.int j63_l7), .val (.ref b63), .val (.int (1 : Int32)), .unset, .unset] [(.int (p3 &&& (1 : Int32)))])) (fun target kt => ?_) ?_
    · show Steps p.tables e below (Tg86.setTop (mkF m 117 #[.val (.int p0), .val (.int p1), .val (.int p2), .val (.int p3), .val (.int v7), .val (.ref b11), .val (.int j42_l6), .val (.int j63_l7), .val (.ref b63), .val (.int (1 : Int32)), .unset, .unset] [])) target
      refine XS.iloadN Xg86.here hx rfl (hb hby at_117) rfl ?_
      show Steps p.tables e below (Tg86.setTop (mkF m 118 #[.val (.int p0), .val (.int p1), .val (.int p2), .val (.int p3), .val (.int v7), .val (.ref b11), .val (.int j42_l6), .val (.int j63_l7), .val (.ref b63), .val (.int (1 : Int32)), .unset, .unset] [(.int p3)])) target
      refine XS.iconst Xg86.here hx rfl (hb hby at_118) ?_
      show Steps p.tables e below (Tg86.setTop (mkF m 119 #[.val (.int p0), .val (.int p1), .val (.int p2), .val (.int p3), .val (.int v7), .val (.ref b11), .val (.int j42_l6), .val (.int j63_l7), .val (.ref b63), .val (.int (1 : Int32)), .unset, .unset] [(.int (1 : Int32)), (.int p3)])) target
      refine XS.iand Xg86.here hx rfl (hb hby at_119) rfl ?_
      exact kt
    by_cases c120 : (p3 &&& (1 : Int32)) = (0 : Int32)
    · refine own_st (B := Tg86.setTop (mkF m 125 #[.val (.int p0), .val (.int p1), .val (.int p2), .val (.int p3), .val (.int v7), .val (.ref b11), .val (.int j42_l6), .val (.int j63_l7), .val (.ref b63), .val (.int (1 : Int32)), .unset, .unset] [(.ref b63)])) (fun target kt => ?_) ?_
      · show Steps p.tables e below (Tg86.setTop (mkF m 120 #[.val (.int p0), .val (.int p1), .val (.int p2), .val (.int p3), .val (.int v7), .val (.ref b11), .val (.int j42_l6), .val (.int j63_l7), .val (.ref b63), .val (.int (1 : Int32)), .unset, .unset] [(.int (p3 &&& (1 : Int32)))])) target
        refine XS.ifNo Xg86.here hx rfl (hb hby at_120) rfl ((if0 _ _).trans (teq c120).2) ?_
        show Steps p.tables e below (Tg86.setTop (mkF m 123 #[.val (.int p0), .val (.int p1), .val (.int p2), .val (.int p3), .val (.int v7), .val (.ref b11), .val (.int j42_l6), .val (.int j63_l7), .val (.ref b63), .val (.int (1 : Int32)), .unset, .unset] [])) target
        refine XS.aload Xg86.here hx rfl (hb hby at_123) rfl rfl ?_
        exact kt
      obtain ⟨cqg125, kqg125, qg125a, qg125b, qg125c⟩ := isOf hZ eg86 F_30
      obtain ⟨_, _, ⟨Tg125, Lg125, kg125, ng125⟩, -, Xg125, ⟨Lcg125, hQg125, lg125, yg125, zg125⟩, stg125⟩ := Xg86.virtualBack hx (y := (⟨"com/example/wireform/wireform/wire/WireReader", "readBytes", "()[B"⟩ : MethodName)) (z := (⟨"com/example/wireform/wireform/wire/WireReader", "readBytes", "()[B"⟩ : MethodName)) hown (mvT hZ (hw _ (List.mem_of_getElem? (i := 35) rfl))) (mvT hZ (hw _ (List.mem_of_getElem? (i := 36) rfl))) (notFace_of_selects (args := #[]) (mvT hZ (hw _ (List.mem_of_getElem? (i := 38) rfl)))) (mvT hZ (hw _ (List.mem_of_getElem? (i := 38) rfl))) (mvT hZ (hw _ (List.mem_of_getElem? (i := 37) rfl))) (by decide) (backOf (W := 0) (own_rm5 l Z a0 hw [] b63 b11 v7 b71 v7 (0 : Int32) j63_a Tg79.heap n0 Zz_6 F_30 F_31 F_32 F_33 F_34 F_35 F_36 g_b63 (Ne.symm ne_b11_b63) (show own_V (0 : Int32) v7 (j63_a (0 : Int32).toNatClampNeg) 8 from hV0)) hZ (hw _ (List.mem_of_getElem? (i := 39) rfl)) (hw _ (List.mem_of_getElem? (i := 4) rfl)) (by decide) (by decide)) qg125a qg125c (g := (mkF m 125 #[.val (.int p0), .val (.int p1), .val (.int p2), .val (.int p3), .val (.int v7), .val (.ref b11), .val (.int j42_l6), .val (.int j63_l7), .val (.ref b63), .val (.int (1 : Int32)), .unset, .unset] [(.ref b63)])) rfl (by rw [hml]; rfl) (Steps.refl _) (argsL := []) (rest := []) (lenOf own_pd9 rfl) rfl (by show 2 * 0 + _ ≤ _; exact Nat.le_of_eq rfl) (hb hby at_125) (fun _ _ => ⟨rfl, eg86, (by decide : 3 + 1 ≤ _), (by decide : 15 + 8 ≤ _)⟩)
      dsimp only [Pt.U, Pt.locs, Pt.cells, Pt.slots] at Xg125 lg125 yg125 zg125 stg125 hQg125
      subst lg125 yg125 zg125
      obtain ⟨b125_0, rfl, Ng125q, Kg125, F_39, F_40, F_41, F_42, F_43, F_44, F_45, szq_b125_0⟩ := hQg125
      have ne_b11_b125_0 : b11 ≠ b125_0 := Nat.ne_of_lt (Nat.lt_of_lt_of_le F_36.lt szq_b125_0)
      have ne_b63_b125_0 : b63 ≠ b125_0 := Nat.ne_of_lt (Nat.lt_of_lt_of_le F_30.lt szq_b125_0)
      have ne_b71_b125_0 : b71 ≠ b125_0 := Nat.ne_of_lt (Nat.lt_of_lt_of_le F_37.lt szq_b125_0)
      have g_b125_0 : n0 ≤ b125_0 := Nat.le_trans Zz_6 szq_b125_0
      have F_46 := F_36.keep Kg125 (ninS ne_b11_b63 nin0)
      have F_47 := F_37.keep Kg125
      have F_48 := F_38.keep Kg125 (ninS (Ne.symm ne_b63_b71) nin0)
      have Zz_7 : n0 ≤ Tg125.heap.size := Nat.le_trans Zz_6 Kg125.1
      obtain ⟨w125_position, hw125_position⟩ : ∃ z : Int32, z = ((((0 : Int32) + (1 : Int32))) + (j63_a (0 : Int32).toNatClampNeg)) := ⟨_, rfl⟩
      have F_49 : Fld Z Tg125.heap b63 "com/example/wireform/wireform/wire/WireReader" "position" "I" (.int w125_position) := by subst hw125_position; exact F_44
      have Ng125 := Fr.app Ng86 Ng125q
      refine own_st (fun _ k => stg125.trans k) ?_
      refine own_st (B := Tg125.setTop (mkF m 136 #[.val (.int p0), .val (.int p1), .val (.int p2), .val (.int p3), .val (.int v7), .val (.ref b11), .val (.int j42_l6), .val (.int j63_l7), .val (.ref b63), .val (.int (1 : Int32)), .unset, .unset] [(.ref b63)])) (fun target kt => ?_) ?_
      · show Steps p.tables e below (Tg125.setTop (mkF m 128 #[.val (.int p0), .val (.int p1), .val (.int p2), .val (.int p3), .val (.int v7), .val (.ref b11), .val (.int j42_l6), .val (.int j63_l7), .val (.ref b63), .val (.int (1 : Int32)), .unset, .unset] [(.ref b125_0)])) target
        refine XS.pop Xg125.here hx rfl (hb hby at_128) rfl rfl ?_
        show Steps p.tables e below (Tg125.setTop (mkF m 129 #[.val (.int p0), .val (.int p1), .val (.int p2), .val (.int p3), .val (.int v7), .val (.ref b11), .val (.int j42_l6), .val (.int j63_l7), .val (.ref b63), .val (.int (1 : Int32)), .unset, .unset] [])) target
        refine XS.iload Xg125.here hx rfl (hb hby at_129) rfl ?_
        show Steps p.tables e below (Tg125.setTop (mkF m 131 #[.val (.int p0), .val (.int p1), .val (.int p2), .val (.int p3), .val (.int v7), .val (.ref b11), .val (.int j42_l6), .val (.int j63_l7), .val (.ref b63), .val (.int (1 : Int32)), .unset, .unset] [(.int (1 : Int32))])) target
        refine XS.ifNo Xg125.here hx rfl (hb hby at_131) rfl ((if0 _ _).trans (feq (by decide : ¬ ((1 : Int32) = (0 : Int32)))).1) ?_
        show Steps p.tables e below (Tg125.setTop (mkF m 134 #[.val (.int p0), .val (.int p1), .val (.int p2), .val (.int p3), .val (.int v7), .val (.ref b11), .val (.int j42_l6), .val (.int j63_l7), .val (.ref b63), .val (.int (1 : Int32)), .unset, .unset] [])) target
        refine XS.aload Xg125.here hx rfl (hb hby at_134) rfl rfl ?_
        exact kt
      obtain ⟨cqg136, kqg136, qg136a, qg136b, qg136c⟩ := isOf hZ rfl F_39
      obtain ⟨_, _, ⟨Tg136, Lg136, kg136, ng136⟩, -, Xg136, ⟨Lcg136, hQg136, lg136, yg136, zg136⟩, stg136⟩ := Xg125.virtualBack hx (y := (⟨"com/example/wireform/wireform/wire/WireReader", "isAtEnd", "()Z"⟩ : MethodName)) (z := (⟨"com/example/wireform/wireform/wire/WireReader", "isAtEnd", "()Z"⟩ : MethodName)) hown (mvT hZ (hw _ (List.mem_of_getElem? (i := 28) rfl))) (mvT hZ (hw _ (List.mem_of_getElem? (i := 29) rfl))) (notFace_of_selects (args := #[]) (mvT hZ (hw _ (List.mem_of_getElem? (i := 31) rfl)))) (mvT hZ (hw _ (List.mem_of_getElem? (i := 31) rfl))) (mvT hZ (hw _ (List.mem_of_getElem? (i := 30) rfl))) (by decide) (backOf (W := 0) (own_rm4 l Z a0 hw [] b63 v7 w125_position Tg125.heap n0 Zz_7 F_43 F_49) hZ (hw _ (List.mem_of_getElem? (i := 32) rfl)) (hw _ (List.mem_of_getElem? (i := 4) rfl)) (by decide) (by decide)) qg136a qg136c (g := (mkF m 136 #[.val (.int p0), .val (.int p1), .val (.int p2), .val (.int p3), .val (.int v7), .val (.ref b11), .val (.int j42_l6), .val (.int j63_l7), .val (.ref b63), .val (.int (1 : Int32)), .unset, .unset] [(.ref b63)])) rfl (by rw [hml]; rfl) (Steps.refl _) (argsL := []) (rest := []) (lenOf own_pd8 rfl) rfl (by show 2 * 0 + _ ≤ _; exact Nat.le_of_eq rfl) (hb hby at_136) (fun _ _ => ⟨rfl, rfl, (by decide : 4 + 0 ≤ _), (by decide : 23 + 0 ≤ _)⟩)
      dsimp only [Pt.U, Pt.locs, Pt.cells, Pt.slots] at Xg136 lg136 yg136 zg136 stg136 hQg136
      subst lg136 yg136 zg136
      obtain ⟨rfl, Ng136q, eg136⟩ := hQg136
      have Ng136 := Fr.app Ng125 Ng136q
      refine own_st (fun _ k => stg136.trans k) ?_
      refine own_st (B := Tg136.setTop (mkF m 145 #[.val (.int p0), .val (.int p1), .val (.int p2), .val (.int p3), .val (.int v7), .val (.ref b11), .val (.int j42_l6), .val (.int j63_l7), .val (.ref b63), .val (.int (1 : Int32)), .unset, .unset] [(.int v7), (.int ((1 : Int32) + j42_l6)), (.int (own_b (w125_position = v7)))])) (fun target kt => ?_) ?_
      · show Steps p.tables e below (Tg136.setTop (mkF m 139 #[.val (.int p0), .val (.int p1), .val (.int p2), .val (.int p3), .val (.int v7), .val (.ref b11), .val (.int j42_l6), .val (.int j63_l7), .val (.ref b63), .val (.int (1 : Int32)), .unset, .unset] [(.int (own_b (w125_position = v7)))])) target
        refine XS.iconst Xg136.here hx rfl (hb hby at_139) ?_
        show Steps p.tables e below (Tg136.setTop (mkF m 140 #[.val (.int p0), .val (.int p1), .val (.int p2), .val (.int p3), .val (.int v7), .val (.ref b11), .val (.int j42_l6), .val (.int j63_l7), .val (.ref b63), .val (.int (1 : Int32)), .unset, .unset] [(.int (1 : Int32)), (.int (own_b (w125_position = v7)))])) target
        refine XS.iload Xg136.here hx rfl (hb hby at_140) rfl ?_
        show Steps p.tables e below (Tg136.setTop (mkF m 142 #[.val (.int p0), .val (.int p1), .val (.int p2), .val (.int p3), .val (.int v7), .val (.ref b11), .val (.int j42_l6), .val (.int j63_l7), .val (.ref b63), .val (.int (1 : Int32)), .unset, .unset] [(.int j42_l6), (.int (1 : Int32)), (.int (own_b (w125_position = v7)))])) target
        refine XS.iadd Xg136.here hx rfl (hb hby at_142) rfl ?_
        show Steps p.tables e below (Tg136.setTop (mkF m 143 #[.val (.int p0), .val (.int p1), .val (.int p2), .val (.int p3), .val (.int v7), .val (.ref b11), .val (.int j42_l6), .val (.int j63_l7), .val (.ref b63), .val (.int (1 : Int32)), .unset, .unset] [(.int ((1 : Int32) + j42_l6)), (.int (own_b (w125_position = v7)))])) target
        refine XS.iload Xg136.here hx rfl (hb hby at_143) rfl ?_
        exact kt
      obtain ⟨_, ⟨j153_s0, rfl, rfl⟩, st_M153⟩ : own_Lead p.tables e below (Tg136.setTop (mkF m 145 #[.val (.int p0), .val (.int p1), .val (.int p2), .val (.int p3), .val (.int v7), .val (.ref b11), .val (.int j42_l6), .val (.int j63_l7), .val (.ref b63), .val (.int (1 : Int32)), .unset, .unset] [(.int v7), (.int ((1 : Int32) + j42_l6)), (.int (own_b (w125_position = v7)))])) (fun B => ∃ (j153_s0 : Int32), B = Tg136.setTop (mkF m 153 #[.val (.int p0), .val (.int p1), .val (.int p2), .val (.int p3), .val (.int v7), .val (.ref b11), .val (.int j42_l6), .val (.int j63_l7), .val (.ref b63), .val (.int (1 : Int32)), .unset, .unset] [(.int j153_s0), (.int (own_b (w125_position = v7)))]) ∧ j153_s0 = own_b (((1 : Int32) + j42_l6) = v7)) := by
        by_cases c145 : ((1 : Int32) + j42_l6) = v7
        · refine own_st (B := Tg136.setTop (mkF m 153 #[.val (.int p0), .val (.int p1), .val (.int p2), .val (.int p3), .val (.int v7), .val (.ref b11), .val (.int j42_l6), .val (.int j63_l7), .val (.ref b63), .val (.int (1 : Int32)), .unset, .unset] [(.int (1 : Int32)), (.int (own_b (w125_position = v7)))])) (fun target kt => ?_) ?_
          · show Steps p.tables e below (Tg136.setTop (mkF m 145 #[.val (.int p0), .val (.int p1), .val (.int p2), .val (.int p3), .val (.int v7), .val (.ref b11), .val (.int j42_l6), .val (.int j63_l7), .val (.ref b63), .val (.int (1 : Int32)), .unset, .unset] [(.int v7), (.int ((1 : Int32) + j42_l6)), (.int (own_b (w125_position = v7)))])) target
            refine XS.icmpNo Xg136.here hx rfl (hb hby at_145) rfl (teq c145).2 ?_
            show Steps p.tables e below (Tg136.setTop (mkF m 148 #[.val (.int p0), .val (.int p1), .val (.int p2), .val (.int p3), .val (.int v7), .val (.ref b11), .val (.int j42_l6), .val (.int j63_l7), .val (.ref b63), .val (.int (1 : Int32)), .unset, .unset] [(.int (own_b (w125_position = v7)))])) target
            refine XS.iconst Xg136.here hx rfl (hb hby at_148) ?_
            show Steps p.tables e below (Tg136.setTop (mkF m 149 #[.val (.int p0), .val (.int p1), .val (.int p2), .val (.int p3), .val (.int v7), .val (.ref b11), .val (.int j42_l6), .val (.int j63_l7), .val (.ref b63), .val (.int (1 : Int32)), .unset, .unset] [(.int (1 : Int32)), (.int (own_b (w125_position = v7)))])) target
            refine XS.goto Xg136.here hx rfl (pc0 := 149) (pc' := 153) rfl (hb hby at_149) (by decide) (by decide) ?_
            exact kt
          exact ⟨_, ⟨(1 : Int32), rfl, (own_b1 c145).symm⟩, fun _ k => k⟩
        · refine own_st (B := Tg136.setTop (mkF m 153 #[.val (.int p0), .val (.int p1), .val (.int p2), .val (.int p3), .val (.int v7), .val (.ref b11), .val (.int j42_l6), .val (.int j63_l7), .val (.ref b63), .val (.int (1 : Int32)), .unset, .unset] [(.int (0 : Int32)), (.int (own_b (w125_position = v7)))])) (fun target kt => ?_) ?_
          · show Steps p.tables e below (Tg136.setTop (mkF m 145 #[.val (.int p0), .val (.int p1), .val (.int p2), .val (.int p3), .val (.int v7), .val (.ref b11), .val (.int j42_l6), .val (.int j63_l7), .val (.ref b63), .val (.int (1 : Int32)), .unset, .unset] [(.int v7), (.int ((1 : Int32) + j42_l6)), (.int (own_b (w125_position = v7)))])) target
            refine XS.icmpYes Xg136.here hx rfl (pc0 := 145) (pc' := 152) rfl (hb hby at_145) rfl (feq c145).2 (by decide) (by decide) ?_
            show Steps p.tables e below (Tg136.setTop (mkF m 152 #[.val (.int p0), .val (.int p1), .val (.int p2), .val (.int p3), .val (.int v7), .val (.ref b11), .val (.int j42_l6), .val (.int j63_l7), .val (.ref b63), .val (.int (1 : Int32)), .unset, .unset] [(.int (own_b (w125_position = v7)))])) target
            refine XS.iconst Xg136.here hx rfl (hb hby at_152) ?_
            exact kt
          exact ⟨_, ⟨(0 : Int32), rfl, (own_b0 c145).symm⟩, fun _ k => k⟩
      refine own_st st_M153 ?_
      have c153 : (w125_position = v7) ↔ (((1 : Int32) + j42_l6) = v7) := by
        rw [hw125_position, hA]
        exact Iff.rfl
      refine own_st (B := Tg136.setTop (mkF m 161 #[.val (.int p0), .val (.int p1), .val (.int p2), .val (.int p3), .val (.int v7), .val (.ref b11), .val (.int j42_l6), .val (.int j63_l7), .val (.ref b63), .val (.int (1 : Int32)), .unset, .unset] [(.int (1 : Int32))])) (fun target kt => ?_) ?_
      · show Steps p.tables e below (Tg136.setTop (mkF m 153 #[.val (.int p0), .val (.int p1), .val (.int p2), .val (.int p3), .val (.int v7), .val (.ref b11), .val (.int j42_l6), .val (.int j63_l7), .val (.ref b63), .val (.int (1 : Int32)), .unset, .unset] [(.int (own_b (((1 : Int32) + j42_l6) = v7))), (.int (own_b (w125_position = v7)))])) target
        refine XS.icmpNo Xg136.here hx rfl (hb hby at_153) rfl (teq (own_bb rfl rfl c153)).2 ?_
        show Steps p.tables e below (Tg136.setTop (mkF m 156 #[.val (.int p0), .val (.int p1), .val (.int p2), .val (.int p3), .val (.int v7), .val (.ref b11), .val (.int j42_l6), .val (.int j63_l7), .val (.ref b63), .val (.int (1 : Int32)), .unset, .unset] [])) target
        refine XS.iconst Xg136.here hx rfl (hb hby at_156) ?_
        show Steps p.tables e below (Tg136.setTop (mkF m 157 #[.val (.int p0), .val (.int p1), .val (.int p2), .val (.int p3), .val (.int v7), .val (.ref b11), .val (.int j42_l6), .val (.int j63_l7), .val (.ref b63), .val (.int (1 : Int32)), .unset, .unset] [(.int (1 : Int32))])) target
        refine XS.goto Xg136.here hx rfl (pc0 := 157) (pc' := 161) rfl (hb hby at_157) (by decide) (by decide) ?_
        exact kt
      obtain ⟨fs, hr, hrun, hended, hW, hsame⟩ := Xg136.leave (v := some (.int (1 : Int32))) (fun h => by rw [Bd.returns] at h; cases h)
      have hend : Steps p.tables e below (Tg136.setTop (mkF m 161 #[.val (.int p0), .val (.int p1), .val (.int p2), .val (.int p3), .val (.int v7), .val (.ref b11), .val (.int j42_l6), .val (.int j63_l7), .val (.ref b63), .val (.int (1 : Int32)), .unset, .unset] [(.int (1 : Int32))])) (Tg136.setFrames fs) := by
        exact retN Xg136 hx (t := .boolean) Bd.returns (by simp) (hb hby at_161) hr
      refine own_fin hend ⟨_, hrun, hended, _, _, rfl, ?_, ⟨_, rfl⟩, hW, hsame.mono (by decide) (by decide)⟩
      show own_Q0 Z p0 p1 p2 p3 h0 n0 _ Tg136.heap _
      rw [eg136]
      exact ⟨rfl, Ng136⟩
    · refine own_st (B := Tg86.setTop (mkF m 164 #[.val (.int p0), .val (.int p1), .val (.int p2), .val (.int p3), .val (.int v7), .val (.ref b11), .val (.int j42_l6), .val (.int j63_l7), .val (.ref b63), .val (.int (1 : Int32)), .unset, .unset] [(.ref b63)])) (fun target kt => ?_) ?_
      · show Steps p.tables e below (Tg86.setTop (mkF m 120 #[.val (.int p0), .val (.int p1), .val (.int p2), .val (.int p3), .val (.int v7), .val (.ref b11), .val (.int j42_l6), .val (.int j63_l7), .val (.ref b63), .val (.int (1 : Int32)), .unset, .unset] [(.int (p3 &&& (1 : Int32)))])) target
        refine XS.ifYes Xg86.here hx rfl (pc0 := 120) (pc' := 162) rfl (hb hby at_120) rfl ((if0 _ _).trans (feq c120).2) (by decide) (by decide) ?_
        show Steps p.tables e below (Tg86.setTop (mkF m 162 #[.val (.int p0), .val (.int p1), .val (.int p2), .val (.int p3), .val (.int v7), .val (.ref b11), .val (.int j42_l6), .val (.int j63_l7), .val (.ref b63), .val (.int (1 : Int32)), .unset, .unset] [])) target
        refine XS.aload Xg86.here hx rfl (hb hby at_162) rfl rfl ?_
        exact kt
      obtain ⟨cqg164, kqg164, qg164a, qg164b, qg164c⟩ := isOf hZ eg86 F_30
      obtain ⟨_, _, ⟨Tg164, Lg164, kg164, ng164⟩, -, Xg164, ⟨Lcg164, hQg164, lg164, yg164, zg164⟩, stg164⟩ := Xg86.virtualBack hx (y := (⟨"com/example/wireform/wireform/wire/WireReader", "beginLengthDelimited", "()I"⟩ : MethodName)) (z := (⟨"com/example/wireform/wireform/wire/WireReader", "beginLengthDelimited", "()I"⟩ : MethodName)) hown (mvT hZ (hw _ (List.mem_of_getElem? (i := 75) rfl))) (mvT hZ (hw _ (List.mem_of_getElem? (i := 76) rfl))) (notFace_of_selects (args := #[]) (mvT hZ (hw _ (List.mem_of_getElem? (i := 78) rfl)))) (mvT hZ (hw _ (List.mem_of_getElem? (i := 78) rfl))) (mvT hZ (hw _ (List.mem_of_getElem? (i := 77) rfl))) (by decide) (backOf (W := 0) (own_rm14 l Z a0 hw [] b63 b11 v7 b71 v7 (0 : Int32) j63_a Tg79.heap n0 Zz_6 F_30 F_31 F_32 F_33 F_34 F_35 F_36 g_b63 (Ne.symm ne_b11_b63) (show own_V (0 : Int32) v7 (j63_a (0 : Int32).toNatClampNeg) 8 from hV0)) hZ (hw _ (List.mem_of_getElem? (i := 79) rfl)) (hw _ (List.mem_of_getElem? (i := 4) rfl)) (by decide) (by decide)) qg164a qg164c (g := (mkF m 164 #[.val (.int p0), .val (.int p1), .val (.int p2), .val (.int p3), .val (.int v7), .val (.ref b11), .val (.int j42_l6), .val (.int j63_l7), .val (.ref b63), .val (.int (1 : Int32)), .unset, .unset] [(.ref b63)])) rfl (by rw [hml]; rfl) (Steps.refl _) (argsL := []) (rest := []) (lenOf own_pd2 rfl) rfl (by show 2 * 0 + _ ≤ _; exact Nat.le_of_eq rfl) (hb hby at_164) (fun _ _ => ⟨rfl, eg86, (by decide : 3 + 0 ≤ _), (by decide : 15 + 0 ≤ _)⟩)
      dsimp only [Pt.U, Pt.locs, Pt.cells, Pt.slots] at Xg164 lg164 yg164 zg164 stg164 hQg164
      subst lg164 yg164 zg164
      obtain ⟨rfl, Ng164q, Kg164, F_39, F_40, F_41, F_42, F_43, F_44⟩ := hQg164
      have F_45 := F_36.keep Kg164 (ninS ne_b11_b63 nin0)
      have F_46 := F_37.keep Kg164
      have F_47 := F_38.keep Kg164 (ninS (Ne.symm ne_b63_b71) nin0)
      have Zz_7 : n0 ≤ Tg164.heap.size := Nat.le_trans Zz_6 Kg164.1
      obtain ⟨w164_limit, hw164_limit⟩ : ∃ z : Int32, z = ((((0 : Int32) + (1 : Int32))) + (j63_a (0 : Int32).toNatClampNeg)) := ⟨_, rfl⟩
      have F_48 : Fld Z Tg164.heap b63 "com/example/wireform/wireform/wire/WireReader" "limit" "I" (.int w164_limit) := by subst hw164_limit; exact F_43
      obtain ⟨w164_position, hw164_position⟩ : ∃ z : Int32, z = ((0 : Int32) + (1 : Int32)) := ⟨_, rfl⟩
      have F_49 : Fld Z Tg164.heap b63 "com/example/wireform/wireform/wire/WireReader" "position" "I" (.int w164_position) := by subst hw164_position; exact F_44
      have Ng164 := Fr.app Ng86 Ng164q
      refine own_st (fun _ k => stg164.trans k) ?_
      refine own_st (B := Tg164.setTop (mkF m 176 #[.val (.int p0), .val (.int p1), .val (.int p2), .val (.int p3), .val (.int v7), .val (.ref b11), .val (.int j42_l6), .val (.int j63_l7), .val (.ref b63), .val (.int (1 : Int32)), .val (.int v7), .unset] [(.ref b63)])) (fun target kt => ?_) ?_
      · show Steps p.tables e below (Tg164.setTop (mkF m 167 #[.val (.int p0), .val (.int p1), .val (.int p2), .val (.int p3), .val (.int v7), .val (.ref b11), .val (.int j42_l6), .val (.int j63_l7), .val (.ref b63), .val (.int (1 : Int32)), .unset, .unset] [(.int v7)])) target
        refine XS.istore Xg164.here hx rfl (hb hby at_167) rfl (l' := #[.val (.int p0), .val (.int p1), .val (.int p2), .val (.int p3), .val (.int v7), .val (.ref b11), .val (.int j42_l6), .val (.int j63_l7), .val (.ref b63), .val (.int (1 : Int32)), .val (.int v7), .unset]) rfl ?_
        show Steps p.tables e below (Tg164.setTop (mkF m 169 #[.val (.int p0), .val (.int p1), .val (.int p2), .val (.int p3), .val (.int v7), .val (.ref b11), .val (.int j42_l6), .val (.int j63_l7), .val (.ref b63), .val (.int (1 : Int32)), .val (.int v7), .unset] [])) target
        refine XS.iload Xg164.here hx rfl (hb hby at_169) rfl ?_
        show Steps p.tables e below (Tg164.setTop (mkF m 171 #[.val (.int p0), .val (.int p1), .val (.int p2), .val (.int p3), .val (.int v7), .val (.ref b11), .val (.int j42_l6), .val (.int j63_l7), .val (.ref b63), .val (.int (1 : Int32)), .val (.int v7), .unset] [(.int (1 : Int32))])) target
        refine XS.ifNo Xg164.here hx rfl (hb hby at_171) rfl ((if0 _ _).trans (feq (by decide : ¬ ((1 : Int32) = (0 : Int32)))).1) ?_
        show Steps p.tables e below (Tg164.setTop (mkF m 174 #[.val (.int p0), .val (.int p1), .val (.int p2), .val (.int p3), .val (.int v7), .val (.ref b11), .val (.int j42_l6), .val (.int j63_l7), .val (.ref b63), .val (.int (1 : Int32)), .val (.int v7), .unset] [])) target
        refine XS.aload Xg164.here hx rfl (hb hby at_174) rfl rfl ?_
        exact kt
      obtain ⟨cqg176, kqg176, qg176a, qg176b, qg176c⟩ := isOf hZ rfl F_39
      obtain ⟨_, _, ⟨Tg176, Lg176, kg176, ng176⟩, -, Xg176, ⟨Lcg176, hQg176, lg176, yg176, zg176⟩, stg176⟩ := Xg164.virtualBack hx (y := (⟨"com/example/wireform/wireform/wire/WireReader", "isAtEnd", "()Z"⟩ : MethodName)) (z := (⟨"com/example/wireform/wireform/wire/WireReader", "isAtEnd", "()Z"⟩ : MethodName)) hown (mvT hZ (hw _ (List.mem_of_getElem? (i := 28) rfl))) (mvT hZ (hw _ (List.mem_of_getElem? (i := 29) rfl))) (notFace_of_selects (args := #[]) (mvT hZ (hw _ (List.mem_of_getElem? (i := 31) rfl)))) (mvT hZ (hw _ (List.mem_of_getElem? (i := 31) rfl))) (mvT hZ (hw _ (List.mem_of_getElem? (i := 30) rfl))) (by decide) (backOf (W := 0) (own_rm4 l Z a0 hw [] b63 w164_limit w164_position Tg164.heap n0 Zz_7 F_48 F_49) hZ (hw _ (List.mem_of_getElem? (i := 32) rfl)) (hw _ (List.mem_of_getElem? (i := 4) rfl)) (by decide) (by decide)) qg176a qg176c (g := (mkF m 176 #[.val (.int p0), .val (.int p1), .val (.int p2), .val (.int p3), .val (.int v7), .val (.ref b11), .val (.int j42_l6), .val (.int j63_l7), .val (.ref b63), .val (.int (1 : Int32)), .val (.int v7), .unset] [(.ref b63)])) rfl (by rw [hml]; rfl) (Steps.refl _) (argsL := []) (rest := []) (lenOf own_pd8 rfl) rfl (by show 2 * 0 + _ ≤ _; exact Nat.le_of_eq rfl) (hb hby at_176) (fun _ _ => ⟨rfl, rfl, (by decide : 3 + 0 ≤ _), (by decide : 15 + 0 ≤ _)⟩)
      dsimp only [Pt.U, Pt.locs, Pt.cells, Pt.slots] at Xg176 lg176 yg176 zg176 stg176 hQg176
      subst lg176 yg176 zg176
      obtain ⟨rfl, Ng176q, eg176⟩ := hQg176
      have Ng176 := Fr.app Ng164 Ng176q
      refine own_st (fun _ k => stg176.trans k) ?_
      refine own_st (B := Tg176.setTop (mkF m 181 #[.val (.int p0), .val (.int p1), .val (.int p2), .val (.int p3), .val (.int v7), .val (.ref b11), .val (.int j42_l6), .val (.int j63_l7), .val (.ref b63), .val (.int (1 : Int32)), .val (.int v7), .unset] [(.int j42_l6), (.int (own_b (w164_position = w164_limit)))])) (fun target kt => ?_) ?_
      · show Steps p.tables e below (Tg176.setTop (mkF m 179 #[.val (.int p0), .val (.int p1), .val (.int p2), .val (.int p3), .val (.int v7), .val (.ref b11), .val (.int j42_l6), .val (.int j63_l7), .val (.ref b63), .val (.int (1 : Int32)), .val (.int v7), .unset] [(.int (own_b (w164_position = w164_limit)))])) target
        refine XS.iload Xg176.here hx rfl (hb hby at_179) rfl ?_
        exact kt
      obtain ⟨_, ⟨j189_s0, rfl, rfl⟩, st_M189⟩ : own_Lead p.tables e below (Tg176.setTop (mkF m 181 #[.val (.int p0), .val (.int p1), .val (.int p2), .val (.int p3), .val (.int v7), .val (.ref b11), .val (.int j42_l6), .val (.int j63_l7), .val (.ref b63), .val (.int (1 : Int32)), .val (.int v7), .unset] [(.int j42_l6), (.int (own_b (w164_position = w164_limit)))])) (fun B => ∃ (j189_s0 : Int32), B = Tg176.setTop (mkF m 189 #[.val (.int p0), .val (.int p1), .val (.int p2), .val (.int p3), .val (.int v7), .val (.ref b11), .val (.int j42_l6), .val (.int j63_l7), .val (.ref b63), .val (.int (1 : Int32)), .val (.int v7), .unset] [(.int j189_s0), (.int (own_b (w164_position = w164_limit)))]) ∧ j189_s0 = own_b (j42_l6 = (0 : Int32))) := by
        by_cases c181 : j42_l6 = (0 : Int32)
        · refine own_st (B := Tg176.setTop (mkF m 189 #[.val (.int p0), .val (.int p1), .val (.int p2), .val (.int p3), .val (.int v7), .val (.ref b11), .val (.int j42_l6), .val (.int j63_l7), .val (.ref b63), .val (.int (1 : Int32)), .val (.int v7), .unset] [(.int (1 : Int32)), (.int (own_b (w164_position = w164_limit)))])) (fun target kt => ?_) ?_
          · show Steps p.tables e below (Tg176.setTop (mkF m 181 #[.val (.int p0), .val (.int p1), .val (.int p2), .val (.int p3), .val (.int v7), .val (.ref b11), .val (.int j42_l6), .val (.int j63_l7), .val (.ref b63), .val (.int (1 : Int32)), .val (.int v7), .unset] [(.int j42_l6), (.int (own_b (w164_position = w164_limit)))])) target
            refine XS.ifNo Xg176.here hx rfl (hb hby at_181) rfl ((if0 _ _).trans (teq c181).2) ?_
            show Steps p.tables e below (Tg176.setTop (mkF m 184 #[.val (.int p0), .val (.int p1), .val (.int p2), .val (.int p3), .val (.int v7), .val (.ref b11), .val (.int j42_l6), .val (.int j63_l7), .val (.ref b63), .val (.int (1 : Int32)), .val (.int v7), .unset] [(.int (own_b (w164_position = w164_limit)))])) target
            refine XS.iconst Xg176.here hx rfl (hb hby at_184) ?_
            show Steps p.tables e below (Tg176.setTop (mkF m 185 #[.val (.int p0), .val (.int p1), .val (.int p2), .val (.int p3), .val (.int v7), .val (.ref b11), .val (.int j42_l6), .val (.int j63_l7), .val (.ref b63), .val (.int (1 : Int32)), .val (.int v7), .unset] [(.int (1 : Int32)), (.int (own_b (w164_position = w164_limit)))])) target
            refine XS.goto Xg176.here hx rfl (pc0 := 185) (pc' := 189) rfl (hb hby at_185) (by decide) (by decide) ?_
            exact kt
          exact ⟨_, ⟨(1 : Int32), rfl, (own_b1 c181).symm⟩, fun _ k => k⟩
        · refine own_st (B := Tg176.setTop (mkF m 189 #[.val (.int p0), .val (.int p1), .val (.int p2), .val (.int p3), .val (.int v7), .val (.ref b11), .val (.int j42_l6), .val (.int j63_l7), .val (.ref b63), .val (.int (1 : Int32)), .val (.int v7), .unset] [(.int (0 : Int32)), (.int (own_b (w164_position = w164_limit)))])) (fun target kt => ?_) ?_
          · show Steps p.tables e below (Tg176.setTop (mkF m 181 #[.val (.int p0), .val (.int p1), .val (.int p2), .val (.int p3), .val (.int v7), .val (.ref b11), .val (.int j42_l6), .val (.int j63_l7), .val (.ref b63), .val (.int (1 : Int32)), .val (.int v7), .unset] [(.int j42_l6), (.int (own_b (w164_position = w164_limit)))])) target
            refine XS.ifYes Xg176.here hx rfl (pc0 := 181) (pc' := 188) rfl (hb hby at_181) rfl ((if0 _ _).trans (feq c181).2) (by decide) (by decide) ?_
            show Steps p.tables e below (Tg176.setTop (mkF m 188 #[.val (.int p0), .val (.int p1), .val (.int p2), .val (.int p3), .val (.int v7), .val (.ref b11), .val (.int j42_l6), .val (.int j63_l7), .val (.ref b63), .val (.int (1 : Int32)), .val (.int v7), .unset] [(.int (own_b (w164_position = w164_limit)))])) target
            refine XS.iconst Xg176.here hx rfl (hb hby at_188) ?_
            exact kt
          exact ⟨_, ⟨(0 : Int32), rfl, (own_b0 c181).symm⟩, fun _ k => k⟩
      refine own_st st_M189 ?_
      have c189 : (w164_position = w164_limit) ↔ (j42_l6 = (0 : Int32)) := by
        rw [hw164_position, hw164_limit, hA]
        exact own_e1 j42_l6
      refine own_st (B := Tg176.setTop (mkF m 201 #[.val (.int p0), .val (.int p1), .val (.int p2), .val (.int p3), .val (.int v7), .val (.ref b11), .val (.int j42_l6), .val (.int j63_l7), .val (.ref b63), .val (.int (1 : Int32)), .val (.int v7), .unset] [(.int j42_l6)])) (fun target kt => ?_) ?_
      · show Steps p.tables e below (Tg176.setTop (mkF m 189 #[.val (.int p0), .val (.int p1), .val (.int p2), .val (.int p3), .val (.int v7), .val (.ref b11), .val (.int j42_l6), .val (.int j63_l7), .val (.ref b63), .val (.int (1 : Int32)), .val (.int v7), .unset] [(.int (own_b (j42_l6 = (0 : Int32)))), (.int (own_b (w164_position = w164_limit)))])) target
        refine XS.icmpNo Xg176.here hx rfl (hb hby at_189) rfl (teq (own_bb rfl rfl c189)).2 ?_
        show Steps p.tables e below (Tg176.setTop (mkF m 192 #[.val (.int p0), .val (.int p1), .val (.int p2), .val (.int p3), .val (.int v7), .val (.ref b11), .val (.int j42_l6), .val (.int j63_l7), .val (.ref b63), .val (.int (1 : Int32)), .val (.int v7), .unset] [])) target
        refine XS.iconst Xg176.here hx rfl (hb hby at_192) ?_
        show Steps p.tables e below (Tg176.setTop (mkF m 193 #[.val (.int p0), .val (.int p1), .val (.int p2), .val (.int p3), .val (.int v7), .val (.ref b11), .val (.int j42_l6), .val (.int j63_l7), .val (.ref b63), .val (.int (1 : Int32)), .val (.int v7), .unset] [(.int (1 : Int32))])) target
        refine XS.goto Xg176.here hx rfl (pc0 := 193) (pc' := 197) rfl (hb hby at_193) (by decide) (by decide) ?_
        show Steps p.tables e below (Tg176.setTop (mkF m 197 #[.val (.int p0), .val (.int p1), .val (.int p2), .val (.int p3), .val (.int v7), .val (.ref b11), .val (.int j42_l6), .val (.int j63_l7), .val (.ref b63), .val (.int (1 : Int32)), .val (.int v7), .unset] [(.int (1 : Int32))])) target
        refine XS.istore Xg176.here hx rfl (hb hby at_197) rfl (l' := #[.val (.int p0), .val (.int p1), .val (.int p2), .val (.int p3), .val (.int v7), .val (.ref b11), .val (.int j42_l6), .val (.int j63_l7), .val (.ref b63), .val (.int (1 : Int32)), .val (.int v7), .unset]) rfl ?_
        show Steps p.tables e below (Tg176.setTop (mkF m 199 #[.val (.int p0), .val (.int p1), .val (.int p2), .val (.int p3), .val (.int v7), .val (.ref b11), .val (.int j42_l6), .val (.int j63_l7), .val (.ref b63), .val (.int (1 : Int32)), .val (.int v7), .unset] [])) target
        refine XS.iload Xg176.here hx rfl (hb hby at_199) rfl ?_
        exact kt
      by_cases c201 : (0 : Int32) < j42_l6
      · refine own_st (B := Tg176.setTop (mkF m 206 #[.val (.int p0), .val (.int p1), .val (.int p2), .val (.int p3), .val (.int v7), .val (.ref b11), .val (.int j42_l6), .val (.int j63_l7), .val (.ref b63), .val (.int (1 : Int32)), .val (.int v7), .unset] [(.ref b63)])) (fun target kt => ?_) ?_
        · show Steps p.tables e below (Tg176.setTop (mkF m 201 #[.val (.int p0), .val (.int p1), .val (.int p2), .val (.int p3), .val (.int v7), .val (.ref b11), .val (.int j42_l6), .val (.int j63_l7), .val (.ref b63), .val (.int (1 : Int32)), .val (.int v7), .unset] [(.int j42_l6)])) target
          refine XS.ifNo Xg176.here hx rfl (hb hby at_201) rfl ((if0 _ _).trans (tlt c201).2.2.2) ?_
          show Steps p.tables e below (Tg176.setTop (mkF m 204 #[.val (.int p0), .val (.int p1), .val (.int p2), .val (.int p3), .val (.int v7), .val (.ref b11), .val (.int j42_l6), .val (.int j63_l7), .val (.ref b63), .val (.int (1 : Int32)), .val (.int v7), .unset] [])) target
          refine XS.aload Xg176.here hx rfl (hb hby at_204) rfl rfl ?_
          exact kt
        obtain ⟨cqg206, kqg206, qg206a, qg206b, qg206c⟩ := isOf hZ eg176 F_39
        obtain ⟨_, _, ⟨Tg206, Lg206, kg206, ng206⟩, -, Xg206, ⟨Lcg206, hQg206, lg206, yg206, zg206⟩, stg206⟩ := Xg176.virtualBack hx (y := (⟨"com/example/wireform/wireform/wire/WireReader", "readBytes", "()[B"⟩ : MethodName)) (z := (⟨"com/example/wireform/wireform/wire/WireReader", "readBytes", "()[B"⟩ : MethodName)) hown (mvT hZ (hw _ (List.mem_of_getElem? (i := 35) rfl))) (mvT hZ (hw _ (List.mem_of_getElem? (i := 36) rfl))) (notFace_of_selects (args := #[]) (mvT hZ (hw _ (List.mem_of_getElem? (i := 38) rfl)))) (mvT hZ (hw _ (List.mem_of_getElem? (i := 38) rfl))) (mvT hZ (hw _ (List.mem_of_getElem? (i := 37) rfl))) (by decide) (backOf (W := 0) (own_rm5 l Z a0 hw [] b63 b11 v7 b71 w164_limit w164_position j63_a Tg164.heap n0 Zz_7 F_39 F_40 F_41 F_42 F_48 F_49 F_45 g_b63 (Ne.symm ne_b11_b63) (show own_V w164_position w164_limit (j63_a (w164_position).toNatClampNeg) 8 from (by rw [hw164_position, hw164_limit, hA]; have hx : j63_a ((0 : Int32) + (1 : Int32)).toNatClampNeg = j63_l7 := (hJ2.1 c201).2.2; rw [hx]; exact own_V2 v7 j42_l6 j63_l7 hL.1 hl6 c201 (hJ2.1 c201).1 (hJ2.1 c201).2.1))) hZ (hw _ (List.mem_of_getElem? (i := 39) rfl)) (hw _ (List.mem_of_getElem? (i := 4) rfl)) (by decide) (by decide)) qg206a qg206c (g := (mkF m 206 #[.val (.int p0), .val (.int p1), .val (.int p2), .val (.int p3), .val (.int v7), .val (.ref b11), .val (.int j42_l6), .val (.int j63_l7), .val (.ref b63), .val (.int (1 : Int32)), .val (.int v7), .unset] [(.ref b63)])) rfl (by rw [hml]; rfl) (Steps.refl _) (argsL := []) (rest := []) (lenOf own_pd9 rfl) rfl (by show 2 * 0 + _ ≤ _; exact Nat.le_of_eq rfl) (hb hby at_206) (fun _ _ => ⟨rfl, eg176, (by decide : 3 + 1 ≤ _), (by decide : 15 + 8 ≤ _)⟩)
        dsimp only [Pt.U, Pt.locs, Pt.cells, Pt.slots] at Xg206 lg206 yg206 zg206 stg206 hQg206
        subst lg206 yg206 zg206
        obtain ⟨b206_0, rfl, Ng206q, Kg206, F_50, F_51, F_52, F_53, F_54, F_55, F_56, szq_b206_0⟩ := hQg206
        have ne_b11_b206_0 : b11 ≠ b206_0 := Nat.ne_of_lt (Nat.lt_of_lt_of_le F_45.lt szq_b206_0)
        have ne_b63_b206_0 : b63 ≠ b206_0 := Nat.ne_of_lt (Nat.lt_of_lt_of_le F_39.lt szq_b206_0)
        have ne_b71_b206_0 : b71 ≠ b206_0 := Nat.ne_of_lt (Nat.lt_of_lt_of_le F_46.lt szq_b206_0)
        have g_b206_0 : n0 ≤ b206_0 := Nat.le_trans Zz_7 szq_b206_0
        have F_57 := F_45.keep Kg206 (ninS ne_b11_b63 nin0)
        have F_58 := F_46.keep Kg206
        have F_59 := F_47.keep Kg206 (ninS (Ne.symm ne_b63_b71) nin0)
        have Zz_8 : n0 ≤ Tg206.heap.size := Nat.le_trans Zz_7 Kg206.1
        obtain ⟨w206_position, hw206_position⟩ : ∃ z : Int32, z = (((w164_position + (1 : Int32))) + (j63_a (w164_position).toNatClampNeg)) := ⟨_, rfl⟩
        have F_60 : Fld Z Tg206.heap b63 "com/example/wireform/wireform/wire/WireReader" "position" "I" (.int w206_position) := by subst hw206_position; exact F_55
        have Ng206 := Fr.app Ng176 Ng206q
        refine own_st (fun _ k => stg206.trans k) ?_
        refine own_st (B := Tg206.setTop (mkF m 217 #[.val (.int p0), .val (.int p1), .val (.int p2), .val (.int p3), .val (.int v7), .val (.ref b11), .val (.int j42_l6), .val (.int j63_l7), .val (.ref b63), .val (.int (1 : Int32)), .val (.int v7), .unset] [(.ref b63)])) (fun target kt => ?_) ?_
        · show Steps p.tables e below (Tg206.setTop (mkF m 209 #[.val (.int p0), .val (.int p1), .val (.int p2), .val (.int p3), .val (.int v7), .val (.ref b11), .val (.int j42_l6), .val (.int j63_l7), .val (.ref b63), .val (.int (1 : Int32)), .val (.int v7), .unset] [(.ref b206_0)])) target
          refine XS.pop Xg206.here hx rfl (hb hby at_209) rfl rfl ?_
          show Steps p.tables e below (Tg206.setTop (mkF m 210 #[.val (.int p0), .val (.int p1), .val (.int p2), .val (.int p3), .val (.int v7), .val (.ref b11), .val (.int j42_l6), .val (.int j63_l7), .val (.ref b63), .val (.int (1 : Int32)), .val (.int v7), .unset] [])) target
          refine XS.iload Xg206.here hx rfl (hb hby at_210) rfl ?_
          show Steps p.tables e below (Tg206.setTop (mkF m 212 #[.val (.int p0), .val (.int p1), .val (.int p2), .val (.int p3), .val (.int v7), .val (.ref b11), .val (.int j42_l6), .val (.int j63_l7), .val (.ref b63), .val (.int (1 : Int32)), .val (.int v7), .unset] [(.int (1 : Int32))])) target
          refine XS.ifNo Xg206.here hx rfl (hb hby at_212) rfl ((if0 _ _).trans (feq (by decide : ¬ ((1 : Int32) = (0 : Int32)))).1) ?_
          show Steps p.tables e below (Tg206.setTop (mkF m 215 #[.val (.int p0), .val (.int p1), .val (.int p2), .val (.int p3), .val (.int v7), .val (.ref b11), .val (.int j42_l6), .val (.int j63_l7), .val (.ref b63), .val (.int (1 : Int32)), .val (.int v7), .unset] [])) target
          refine XS.aload Xg206.here hx rfl (hb hby at_215) rfl rfl ?_
          exact kt
        obtain ⟨cqg217, kqg217, qg217a, qg217b, qg217c⟩ := isOf hZ rfl F_50
        obtain ⟨_, _, ⟨Tg217, Lg217, kg217, ng217⟩, -, Xg217, ⟨Lcg217, hQg217, lg217, yg217, zg217⟩, stg217⟩ := Xg206.virtualBack hx (y := (⟨"com/example/wireform/wireform/wire/WireReader", "isAtEnd", "()Z"⟩ : MethodName)) (z := (⟨"com/example/wireform/wireform/wire/WireReader", "isAtEnd", "()Z"⟩ : MethodName)) hown (mvT hZ (hw _ (List.mem_of_getElem? (i := 28) rfl))) (mvT hZ (hw _ (List.mem_of_getElem? (i := 29) rfl))) (notFace_of_selects (args := #[]) (mvT hZ (hw _ (List.mem_of_getElem? (i := 31) rfl)))) (mvT hZ (hw _ (List.mem_of_getElem? (i := 31) rfl))) (mvT hZ (hw _ (List.mem_of_getElem? (i := 30) rfl))) (by decide) (backOf (W := 0) (own_rm4 l Z a0 hw [] b63 w164_limit w206_position Tg206.heap n0 Zz_8 F_54 F_60) hZ (hw _ (List.mem_of_getElem? (i := 32) rfl)) (hw _ (List.mem_of_getElem? (i := 4) rfl)) (by decide) (by decide)) qg217a qg217c (g := (mkF m 217 #[.val (.int p0), .val (.int p1), .val (.int p2), .val (.int p3), .val (.int v7), .val (.ref b11), .val (.int j42_l6), .val (.int j63_l7), .val (.ref b63), .val (.int (1 : Int32)), .val (.int v7), .unset] [(.ref b63)])) rfl (by rw [hml]; rfl) (Steps.refl _) (argsL := []) (rest := []) (lenOf own_pd8 rfl) rfl (by show 2 * 0 + _ ≤ _; exact Nat.le_of_eq rfl) (hb hby at_217) (fun _ _ => ⟨rfl, rfl, (by decide : 4 + 0 ≤ _), (by decide : 23 + 0 ≤ _)⟩)
        dsimp only [Pt.U, Pt.locs, Pt.cells, Pt.slots] at Xg217 lg217 yg217 zg217 stg217 hQg217
        subst lg217 yg217 zg217
        obtain ⟨rfl, Ng217q, eg217⟩ := hQg217
        have Ng217 := Fr.app Ng206 Ng217q
        refine own_st (fun _ k => stg217.trans k) ?_
        refine own_st (B := Tg217.setTop (mkF m 228 #[.val (.int p0), .val (.int p1), .val (.int p2), .val (.int p3), .val (.int v7), .val (.ref b11), .val (.int j42_l6), .val (.int j63_l7), .val (.ref b63), .val (.int (1 : Int32)), .val (.int v7), .unset] [(.int ((1 : Int32) + j42_l6)), (.int ((2 : Int32) + j63_l7)), (.int (own_b (w206_position = w164_limit)))])) (fun target kt => ?_) ?_
        · show Steps p.tables e below (Tg217.setTop (mkF m 220 #[.val (.int p0), .val (.int p1), .val (.int p2), .val (.int p3), .val (.int v7), .val (.ref b11), .val (.int j42_l6), .val (.int j63_l7), .val (.ref b63), .val (.int (1 : Int32)), .val (.int v7), .unset] [(.int (own_b (w206_position = w164_limit)))])) target
          refine XS.iconst Xg217.here hx rfl (hb hby at_220) ?_
          show Steps p.tables e below (Tg217.setTop (mkF m 221 #[.val (.int p0), .val (.int p1), .val (.int p2), .val (.int p3), .val (.int v7), .val (.ref b11), .val (.int j42_l6), .val (.int j63_l7), .val (.ref b63), .val (.int (1 : Int32)), .val (.int v7), .unset] [(.int (2 : Int32)), (.int (own_b (w206_position = w164_limit)))])) target
          refine XS.iload Xg217.here hx rfl (hb hby at_221) rfl ?_
          show Steps p.tables e below (Tg217.setTop (mkF m 223 #[.val (.int p0), .val (.int p1), .val (.int p2), .val (.int p3), .val (.int v7), .val (.ref b11), .val (.int j42_l6), .val (.int j63_l7), .val (.ref b63), .val (.int (1 : Int32)), .val (.int v7), .unset] [(.int j63_l7), (.int (2 : Int32)), (.int (own_b (w206_position = w164_limit)))])) target
          refine XS.iadd Xg217.here hx rfl (hb hby at_223) rfl ?_
          show Steps p.tables e below (Tg217.setTop (mkF m 224 #[.val (.int p0), .val (.int p1), .val (.int p2), .val (.int p3), .val (.int v7), .val (.ref b11), .val (.int j42_l6), .val (.int j63_l7), .val (.ref b63), .val (.int (1 : Int32)), .val (.int v7), .unset] [(.int ((2 : Int32) + j63_l7)), (.int (own_b (w206_position = w164_limit)))])) target
          refine XS.iconst Xg217.here hx rfl (hb hby at_224) ?_
          show Steps p.tables e below (Tg217.setTop (mkF m 225 #[.val (.int p0), .val (.int p1), .val (.int p2), .val (.int p3), .val (.int v7), .val (.ref b11), .val (.int j42_l6), .val (.int j63_l7), .val (.ref b63), .val (.int (1 : Int32)), .val (.int v7), .unset] [(.int (1 : Int32)), (.int ((2 : Int32) + j63_l7)), (.int (own_b (w206_position = w164_limit)))])) target
          refine XS.iload Xg217.here hx rfl (hb hby at_225) rfl ?_
          show Steps p.tables e below (Tg217.setTop (mkF m 227 #[.val (.int p0), .val (.int p1), .val (.int p2), .val (.int p3), .val (.int v7), .val (.ref b11), .val (.int j42_l6), .val (.int j63_l7), .val (.ref b63), .val (.int (1 : Int32)), .val (.int v7), .unset] [(.int j42_l6), (.int (1 : Int32)), (.int ((2 : Int32) + j63_l7)), (.int (own_b (w206_position = w164_limit)))])) target
          refine XS.iadd Xg217.here hx rfl (hb hby at_227) rfl ?_
          exact kt
        obtain ⟨_, ⟨j236_s0, rfl, rfl⟩, st_M236⟩ : own_Lead p.tables e below (Tg217.setTop (mkF m 228 #[.val (.int p0), .val (.int p1), .val (.int p2), .val (.int p3), .val (.int v7), .val (.ref b11), .val (.int j42_l6), .val (.int j63_l7), .val (.ref b63), .val (.int (1 : Int32)), .val (.int v7), .unset] [(.int ((1 : Int32) + j42_l6)), (.int ((2 : Int32) + j63_l7)), (.int (own_b (w206_position = w164_limit)))])) (fun B => ∃ (j236_s0 : Int32), B = Tg217.setTop (mkF m 236 #[.val (.int p0), .val (.int p1), .val (.int p2), .val (.int p3), .val (.int v7), .val (.ref b11), .val (.int j42_l6), .val (.int j63_l7), .val (.ref b63), .val (.int (1 : Int32)), .val (.int v7), .unset] [(.int j236_s0), (.int (own_b (w206_position = w164_limit)))]) ∧ j236_s0 = own_b (((2 : Int32) + j63_l7) = ((1 : Int32) + j42_l6))) := by
          by_cases c228 : ((2 : Int32) + j63_l7) = ((1 : Int32) + j42_l6)
          · refine own_st (B := Tg217.setTop (mkF m 236 #[.val (.int p0), .val (.int p1), .val (.int p2), .val (.int p3), .val (.int v7), .val (.ref b11), .val (.int j42_l6), .val (.int j63_l7), .val (.ref b63), .val (.int (1 : Int32)), .val (.int v7), .unset] [(.int (1 : Int32)), (.int (own_b (w206_position = w164_limit)))])) (fun target kt => ?_) ?_
            · show Steps p.tables e below (Tg217.setTop (mkF m 228 #[.val (.int p0), .val (.int p1), .val (.int p2), .val (.int p3), .val (.int v7), .val (.ref b11), .val (.int j42_l6), .val (.int j63_l7), .val (.ref b63), .val (.int (1 : Int32)), .val (.int v7), .unset] [(.int ((1 : Int32) + j42_l6)), (.int ((2 : Int32) + j63_l7)), (.int (own_b (w206_position = w164_limit)))])) target
              refine XS.icmpNo Xg217.here hx rfl (hb hby at_228) rfl (teq c228).2 ?_
              show Steps p.tables e below (Tg217.setTop (mkF m 231 #[.val (.int p0), .val (.int p1), .val (.int p2), .val (.int p3), .val (.int v7), .val (.ref b11), .val (.int j42_l6), .val (.int j63_l7), .val (.ref b63), .val (.int (1 : Int32)), .val (.int v7), .unset] [(.int (own_b (w206_position = w164_limit)))])) target
              refine XS.iconst Xg217.here hx rfl (hb hby at_231) ?_
              show Steps p.tables e below (Tg217.setTop (mkF m 232 #[.val (.int p0), .val (.int p1), .val (.int p2), .val (.int p3), .val (.int v7), .val (.ref b11), .val (.int j42_l6), .val (.int j63_l7), .val (.ref b63), .val (.int (1 : Int32)), .val (.int v7), .unset] [(.int (1 : Int32)), (.int (own_b (w206_position = w164_limit)))])) target
              refine XS.goto Xg217.here hx rfl (pc0 := 232) (pc' := 236) rfl (hb hby at_232) (by decide) (by decide) ?_
              exact kt
            exact ⟨_, ⟨(1 : Int32), rfl, (own_b1 c228).symm⟩, fun _ k => k⟩
          · refine own_st (B := Tg217.setTop (mkF m 236 #[.val (.int p0), .val (.int p1), .val (.int p2), .val (.int p3), .val (.int v7), .val (.ref b11), .val (.int j42_l6), .val (.int j63_l7), .val (.ref b63), .val (.int (1 : Int32)), .val (.int v7), .unset] [(.int (0 : Int32)), (.int (own_b (w206_position = w164_limit)))])) (fun target kt => ?_) ?_
            · show Steps p.tables e below (Tg217.setTop (mkF m 228 #[.val (.int p0), .val (.int p1), .val (.int p2), .val (.int p3), .val (.int v7), .val (.ref b11), .val (.int j42_l6), .val (.int j63_l7), .val (.ref b63), .val (.int (1 : Int32)), .val (.int v7), .unset] [(.int ((1 : Int32) + j42_l6)), (.int ((2 : Int32) + j63_l7)), (.int (own_b (w206_position = w164_limit)))])) target
              refine XS.icmpYes Xg217.here hx rfl (pc0 := 228) (pc' := 235) rfl (hb hby at_228) rfl (feq c228).2 (by decide) (by decide) ?_
              show Steps p.tables e below (Tg217.setTop (mkF m 235 #[.val (.int p0), .val (.int p1), .val (.int p2), .val (.int p3), .val (.int v7), .val (.ref b11), .val (.int j42_l6), .val (.int j63_l7), .val (.ref b63), .val (.int (1 : Int32)), .val (.int v7), .unset] [(.int (own_b (w206_position = w164_limit)))])) target
              refine XS.iconst Xg217.here hx rfl (hb hby at_235) ?_
              exact kt
            exact ⟨_, ⟨(0 : Int32), rfl, (own_b0 c228).symm⟩, fun _ k => k⟩
        refine own_st st_M236 ?_
        have c236 : (w206_position = w164_limit) ↔ (((2 : Int32) + j63_l7) = ((1 : Int32) + j42_l6)) := by
          have hx : j63_a ((0 : Int32) + (1 : Int32)).toNatClampNeg = j63_l7 := (hJ2.1 c201).2.2
          rw [hw206_position, hw164_position, hw164_limit, hA, hx]
          exact Iff.rfl
        refine own_st (B := Tg217.setTop (mkF m 250 #[.val (.int p0), .val (.int p1), .val (.int p2), .val (.int p3), .val (.int v7), .val (.ref b11), .val (.int j42_l6), .val (.int j63_l7), .val (.ref b63), .val (.int (1 : Int32)), .val (.int v7), .unset] [(.int v7), (.ref b63)])) (fun target kt => ?_) ?_
        · show Steps p.tables e below (Tg217.setTop (mkF m 236 #[.val (.int p0), .val (.int p1), .val (.int p2), .val (.int p3), .val (.int v7), .val (.ref b11), .val (.int j42_l6), .val (.int j63_l7), .val (.ref b63), .val (.int (1 : Int32)), .val (.int v7), .unset] [(.int (own_b (((2 : Int32) + j63_l7) = ((1 : Int32) + j42_l6)))), (.int (own_b (w206_position = w164_limit)))])) target
          refine XS.icmpNo Xg217.here hx rfl (hb hby at_236) rfl (teq (own_bb rfl rfl c236)).2 ?_
          show Steps p.tables e below (Tg217.setTop (mkF m 239 #[.val (.int p0), .val (.int p1), .val (.int p2), .val (.int p3), .val (.int v7), .val (.ref b11), .val (.int j42_l6), .val (.int j63_l7), .val (.ref b63), .val (.int (1 : Int32)), .val (.int v7), .unset] [])) target
          refine XS.iconst Xg217.here hx rfl (hb hby at_239) ?_
          show Steps p.tables e below (Tg217.setTop (mkF m 240 #[.val (.int p0), .val (.int p1), .val (.int p2), .val (.int p3), .val (.int v7), .val (.ref b11), .val (.int j42_l6), .val (.int j63_l7), .val (.ref b63), .val (.int (1 : Int32)), .val (.int v7), .unset] [(.int (1 : Int32))])) target
          refine XS.goto Xg217.here hx rfl (pc0 := 240) (pc' := 244) rfl (hb hby at_240) (by decide) (by decide) ?_
          show Steps p.tables e below (Tg217.setTop (mkF m 244 #[.val (.int p0), .val (.int p1), .val (.int p2), .val (.int p3), .val (.int v7), .val (.ref b11), .val (.int j42_l6), .val (.int j63_l7), .val (.ref b63), .val (.int (1 : Int32)), .val (.int v7), .unset] [(.int (1 : Int32))])) target
          refine XS.istore Xg217.here hx rfl (hb hby at_244) rfl (l' := #[.val (.int p0), .val (.int p1), .val (.int p2), .val (.int p3), .val (.int v7), .val (.ref b11), .val (.int j42_l6), .val (.int j63_l7), .val (.ref b63), .val (.int (1 : Int32)), .val (.int v7), .unset]) rfl ?_
          show Steps p.tables e below (Tg217.setTop (mkF m 246 #[.val (.int p0), .val (.int p1), .val (.int p2), .val (.int p3), .val (.int v7), .val (.ref b11), .val (.int j42_l6), .val (.int j63_l7), .val (.ref b63), .val (.int (1 : Int32)), .val (.int v7), .unset] [])) target
          refine XS.aload Xg217.here hx rfl (hb hby at_246) rfl rfl ?_
          show Steps p.tables e below (Tg217.setTop (mkF m 248 #[.val (.int p0), .val (.int p1), .val (.int p2), .val (.int p3), .val (.int v7), .val (.ref b11), .val (.int j42_l6), .val (.int j63_l7), .val (.ref b63), .val (.int (1 : Int32)), .val (.int v7), .unset] [(.ref b63)])) target
          refine XS.iload Xg217.here hx rfl (hb hby at_248) rfl ?_
          exact kt
        obtain ⟨cqg250, kqg250, qg250a, qg250b, qg250c⟩ := isOf hZ eg217 F_50
        obtain ⟨_, _, ⟨Tg250, Lg250, kg250, ng250⟩, -, Xg250, ⟨Lcg250, hQg250, lg250, yg250, zg250⟩, stg250⟩ := Xg217.virtualBack hx (y := (⟨"com/example/wireform/wireform/wire/WireReader", "endLengthDelimited", "(I)V"⟩ : MethodName)) (z := (⟨"com/example/wireform/wireform/wire/WireReader", "endLengthDelimited", "(I)V"⟩ : MethodName)) hown (mvT hZ (hw _ (List.mem_of_getElem? (i := 80) rfl))) (mvT hZ (hw _ (List.mem_of_getElem? (i := 81) rfl))) (notFace_of_selects (args := #[]) (mvT hZ (hw _ (List.mem_of_getElem? (i := 83) rfl)))) (mvT hZ (hw _ (List.mem_of_getElem? (i := 83) rfl))) (mvT hZ (hw _ (List.mem_of_getElem? (i := 82) rfl))) (by decide) (backOf (W := 0) (own_rm15 l Z a0 hw [] b63 v7 b11 v7 b71 w164_limit w206_position Tg206.heap n0 Zz_8 F_50 F_51 F_52 F_53 F_54 F_60 g_b63) hZ (hw _ (List.mem_of_getElem? (i := 84) rfl)) (hw _ (List.mem_of_getElem? (i := 4) rfl)) (by decide) (by decide)) qg250a qg250c (g := (mkF m 250 #[.val (.int p0), .val (.int p1), .val (.int p2), .val (.int p3), .val (.int v7), .val (.ref b11), .val (.int j42_l6), .val (.int j63_l7), .val (.ref b63), .val (.int (1 : Int32)), .val (.int v7), .unset] [(.int v7), (.ref b63)])) rfl (by rw [hml]; rfl) (Steps.refl _) (argsL := [(.int v7)]) (rest := []) (lenOf own_pd6 rfl) rfl (by show 2 * 0 + _ ≤ _; exact Nat.le_of_eq rfl) (hb hby at_250) (fun _ _ => ⟨rfl, eg217, (by decide : 4 + 0 ≤ _), (by decide : 23 + 0 ≤ _)⟩)
        dsimp only [Pt.U, Pt.locs, Pt.cells, Pt.slots] at Xg250 lg250 yg250 zg250 stg250 hQg250
        subst lg250 yg250 zg250
        obtain ⟨rfl, Ng250q, Kg250, F_61, F_62, F_63, F_64, F_65, F_66⟩ := hQg250
        have F_67 := F_57.keep Kg250 (ninS ne_b11_b63 nin0)
        have F_68 := F_58.keep Kg250
        have F_69 := F_59.keep Kg250 (ninS (Ne.symm ne_b63_b71) nin0)
        have F_70 := F_56.keep Kg250 (ninS (Ne.symm ne_b63_b206_0) nin0)
        have Zz_9 : n0 ≤ Tg250.heap.size := Nat.le_trans Zz_8 Kg250.1
        have Ng250 := Fr.app Ng217 Ng250q
        refine own_st (fun _ k => stg250.trans k) ?_
        refine own_st (B := Tg250.setTop (mkF m 255 #[.val (.int p0), .val (.int p1), .val (.int p2), .val (.int p3), .val (.int v7), .val (.ref b11), .val (.int j42_l6), .val (.int j63_l7), .val (.ref b63), .val (.int (1 : Int32)), .val (.int v7), .unset] [(.int j42_l6)])) (fun target kt => ?_) ?_
        · show Steps p.tables e below (Tg250.setTop (mkF m 253 #[.val (.int p0), .val (.int p1), .val (.int p2), .val (.int p3), .val (.int v7), .val (.ref b11), .val (.int j42_l6), .val (.int j63_l7), .val (.ref b63), .val (.int (1 : Int32)), .val (.int v7), .unset] [])) target
          refine XS.iload Xg250.here hx rfl (hb hby at_253) rfl ?_
          exact kt
        have c255 : (0 : Int32) < j42_l6 := by
          exact c201
        obtain ⟨v266, hv266⟩ : ∃ z : Int32, z = ((2 : Int32) + j63_l7) := ⟨_, rfl⟩
        refine own_st (B := Tg250.setTop (mkF m 275 #[.val (.int p0), .val (.int p1), .val (.int p2), .val (.int p3), .val (.int v7), .val (.ref b11), .val (.int j42_l6), .val (.int j63_l7), .val (.ref b63), .val (.int (1 : Int32)), .val (.int v7), .val (.int v266)] [(.ref b63)])) (fun target kt => ?_) ?_
        · show Steps p.tables e below (Tg250.setTop (mkF m 255 #[.val (.int p0), .val (.int p1), .val (.int p2), .val (.int p3), .val (.int v7), .val (.ref b11), .val (.int j42_l6), .val (.int j63_l7), .val (.ref b63), .val (.int (1 : Int32)), .val (.int v7), .unset] [(.int j42_l6)])) target
          refine XS.ifNo Xg250.here hx rfl (hb hby at_255) rfl ((if0 _ _).trans (tlt c255).2.2.2) ?_
          show Steps p.tables e below (Tg250.setTop (mkF m 258 #[.val (.int p0), .val (.int p1), .val (.int p2), .val (.int p3), .val (.int v7), .val (.ref b11), .val (.int j42_l6), .val (.int j63_l7), .val (.ref b63), .val (.int (1 : Int32)), .val (.int v7), .unset] [])) target
          refine XS.iconst Xg250.here hx rfl (hb hby at_258) ?_
          show Steps p.tables e below (Tg250.setTop (mkF m 259 #[.val (.int p0), .val (.int p1), .val (.int p2), .val (.int p3), .val (.int v7), .val (.ref b11), .val (.int j42_l6), .val (.int j63_l7), .val (.ref b63), .val (.int (1 : Int32)), .val (.int v7), .unset] [(.int (2 : Int32))])) target
          refine XS.iload Xg250.here hx rfl (hb hby at_259) rfl ?_
          show Steps p.tables e below (Tg250.setTop (mkF m 261 #[.val (.int p0), .val (.int p1), .val (.int p2), .val (.int p3), .val (.int v7), .val (.ref b11), .val (.int j42_l6), .val (.int j63_l7), .val (.ref b63), .val (.int (1 : Int32)), .val (.int v7), .unset] [(.int j63_l7), (.int (2 : Int32))])) target
          refine XS.iadd Xg250.here hx rfl (hb hby at_261) rfl ?_
          show Steps p.tables e below (Tg250.setTop (mkF m 262 #[.val (.int p0), .val (.int p1), .val (.int p2), .val (.int p3), .val (.int v7), .val (.ref b11), .val (.int j42_l6), .val (.int j63_l7), .val (.ref b63), .val (.int (1 : Int32)), .val (.int v7), .unset] [(.int ((2 : Int32) + j63_l7))])) target
          refine XS.goto Xg250.here hx rfl (pc0 := 262) (pc' := 266) rfl (hb hby at_262) (by decide) (by decide) ?_
          show Steps p.tables e below (Tg250.setTop (mkF m 266 #[.val (.int p0), .val (.int p1), .val (.int p2), .val (.int p3), .val (.int v7), .val (.ref b11), .val (.int j42_l6), .val (.int j63_l7), .val (.ref b63), .val (.int (1 : Int32)), .val (.int v7), .unset] [(.int ((2 : Int32) + j63_l7))])) target
          refine XS.istore Xg250.here hx rfl (hb hby at_266) rfl (l' := #[.val (.int p0), .val (.int p1), .val (.int p2), .val (.int p3), .val (.int v7), .val (.ref b11), .val (.int j42_l6), .val (.int j63_l7), .val (.ref b63), .val (.int (1 : Int32)), .val (.int v7), .val (.int v266)]) (by subst hv266; rfl) ?_
          show Steps p.tables e below (Tg250.setTop (mkF m 268 #[.val (.int p0), .val (.int p1), .val (.int p2), .val (.int p3), .val (.int v7), .val (.ref b11), .val (.int j42_l6), .val (.int j63_l7), .val (.ref b63), .val (.int (1 : Int32)), .val (.int v7), .val (.int v266)] [])) target
          refine XS.iload Xg250.here hx rfl (hb hby at_268) rfl ?_
          show Steps p.tables e below (Tg250.setTop (mkF m 270 #[.val (.int p0), .val (.int p1), .val (.int p2), .val (.int p3), .val (.int v7), .val (.ref b11), .val (.int j42_l6), .val (.int j63_l7), .val (.ref b63), .val (.int (1 : Int32)), .val (.int v7), .val (.int v266)] [(.int (1 : Int32))])) target
          refine XS.ifNo Xg250.here hx rfl (hb hby at_270) rfl ((if0 _ _).trans (feq (by decide : ¬ ((1 : Int32) = (0 : Int32)))).1) ?_
          show Steps p.tables e below (Tg250.setTop (mkF m 273 #[.val (.int p0), .val (.int p1), .val (.int p2), .val (.int p3), .val (.int v7), .val (.ref b11), .val (.int j42_l6), .val (.int j63_l7), .val (.ref b63), .val (.int (1 : Int32)), .val (.int v7), .val (.int v266)] [])) target
          refine XS.aload Xg250.here hx rfl (hb hby at_273) rfl rfl ?_
          exact kt
        obtain ⟨cqg275, kqg275, qg275a, qg275b, qg275c⟩ := isOf hZ rfl F_61
        obtain ⟨_, _, ⟨Tg275, Lg275, kg275, ng275⟩, -, Xg275, ⟨Lcg275, hQg275, lg275, yg275, zg275⟩, stg275⟩ := Xg250.virtualBack hx (y := (⟨"com/example/wireform/wireform/wire/WireReader", "isAtEnd", "()Z"⟩ : MethodName)) (z := (⟨"com/example/wireform/wireform/wire/WireReader", "isAtEnd", "()Z"⟩ : MethodName)) hown (mvT hZ (hw _ (List.mem_of_getElem? (i := 28) rfl))) (mvT hZ (hw _ (List.mem_of_getElem? (i := 29) rfl))) (notFace_of_selects (args := #[]) (mvT hZ (hw _ (List.mem_of_getElem? (i := 31) rfl)))) (mvT hZ (hw _ (List.mem_of_getElem? (i := 31) rfl))) (mvT hZ (hw _ (List.mem_of_getElem? (i := 30) rfl))) (by decide) (backOf (W := 0) (own_rm4 l Z a0 hw [] b63 v7 w206_position Tg250.heap n0 Zz_9 F_65 F_66) hZ (hw _ (List.mem_of_getElem? (i := 32) rfl)) (hw _ (List.mem_of_getElem? (i := 4) rfl)) (by decide) (by decide)) qg275a qg275c (g := (mkF m 275 #[.val (.int p0), .val (.int p1), .val (.int p2), .val (.int p3), .val (.int v7), .val (.ref b11), .val (.int j42_l6), .val (.int j63_l7), .val (.ref b63), .val (.int (1 : Int32)), .val (.int v7), .val (.int v266)] [(.ref b63)])) rfl (by rw [hml]; rfl) (Steps.refl _) (argsL := []) (rest := []) (lenOf own_pd8 rfl) rfl (by show 2 * 0 + _ ≤ _; exact Nat.le_of_eq rfl) (hb hby at_275) (fun _ _ => ⟨rfl, rfl, (by decide : 4 + 0 ≤ _), (by decide : 23 + 0 ≤ _)⟩)
        dsimp only [Pt.U, Pt.locs, Pt.cells, Pt.slots] at Xg275 lg275 yg275 zg275 stg275 hQg275
        subst lg275 yg275 zg275
        obtain ⟨rfl, Ng275q, eg275⟩ := hQg275
        have Ng275 := Fr.app Ng250 Ng275q
        refine own_st (fun _ k => stg275.trans k) ?_
        refine own_st (B := Tg275.setTop (mkF m 282 #[.val (.int p0), .val (.int p1), .val (.int p2), .val (.int p3), .val (.int v7), .val (.ref b11), .val (.int j42_l6), .val (.int j63_l7), .val (.ref b63), .val (.int (1 : Int32)), .val (.int v7), .val (.int v266)] [(.int v7), (.int v266), (.int (own_b (w206_position = v7)))])) (fun target kt => ?_) ?_
        · show Steps p.tables e below (Tg275.setTop (mkF m 278 #[.val (.int p0), .val (.int p1), .val (.int p2), .val (.int p3), .val (.int v7), .val (.ref b11), .val (.int j42_l6), .val (.int j63_l7), .val (.ref b63), .val (.int (1 : Int32)), .val (.int v7), .val (.int v266)] [(.int (own_b (w206_position = v7)))])) target
          refine XS.iload Xg275.here hx rfl (hb hby at_278) rfl ?_
          show Steps p.tables e below (Tg275.setTop (mkF m 280 #[.val (.int p0), .val (.int p1), .val (.int p2), .val (.int p3), .val (.int v7), .val (.ref b11), .val (.int j42_l6), .val (.int j63_l7), .val (.ref b63), .val (.int (1 : Int32)), .val (.int v7), .val (.int v266)] [(.int v266), (.int (own_b (w206_position = v7)))])) target
          refine XS.iload Xg275.here hx rfl (hb hby at_280) rfl ?_
          exact kt
        obtain ⟨_, ⟨j290_s0, rfl, rfl⟩, st_M290⟩ : own_Lead p.tables e below (Tg275.setTop (mkF m 282 #[.val (.int p0), .val (.int p1), .val (.int p2), .val (.int p3), .val (.int v7), .val (.ref b11), .val (.int j42_l6), .val (.int j63_l7), .val (.ref b63), .val (.int (1 : Int32)), .val (.int v7), .val (.int v266)] [(.int v7), (.int v266), (.int (own_b (w206_position = v7)))])) (fun B => ∃ (j290_s0 : Int32), B = Tg275.setTop (mkF m 290 #[.val (.int p0), .val (.int p1), .val (.int p2), .val (.int p3), .val (.int v7), .val (.ref b11), .val (.int j42_l6), .val (.int j63_l7), .val (.ref b63), .val (.int (1 : Int32)), .val (.int v7), .val (.int v266)] [(.int j290_s0), (.int (own_b (w206_position = v7)))]) ∧ j290_s0 = own_b (v266 = v7)) := by
          by_cases c282 : v266 = v7
          · refine own_st (B := Tg275.setTop (mkF m 290 #[.val (.int p0), .val (.int p1), .val (.int p2), .val (.int p3), .val (.int v7), .val (.ref b11), .val (.int j42_l6), .val (.int j63_l7), .val (.ref b63), .val (.int (1 : Int32)), .val (.int v7), .val (.int v266)] [(.int (1 : Int32)), (.int (own_b (w206_position = v7)))])) (fun target kt => ?_) ?_
            · show Steps p.tables e below (Tg275.setTop (mkF m 282 #[.val (.int p0), .val (.int p1), .val (.int p2), .val (.int p3), .val (.int v7), .val (.ref b11), .val (.int j42_l6), .val (.int j63_l7), .val (.ref b63), .val (.int (1 : Int32)), .val (.int v7), .val (.int v266)] [(.int v7), (.int v266), (.int (own_b (w206_position = v7)))])) target
              refine XS.icmpNo Xg275.here hx rfl (hb hby at_282) rfl (teq c282).2 ?_
              show Steps p.tables e below (Tg275.setTop (mkF m 285 #[.val (.int p0), .val (.int p1), .val (.int p2), .val (.int p3), .val (.int v7), .val (.ref b11), .val (.int j42_l6), .val (.int j63_l7), .val (.ref b63), .val (.int (1 : Int32)), .val (.int v7), .val (.int v266)] [(.int (own_b (w206_position = v7)))])) target
              refine XS.iconst Xg275.here hx rfl (hb hby at_285) ?_
              show Steps p.tables e below (Tg275.setTop (mkF m 286 #[.val (.int p0), .val (.int p1), .val (.int p2), .val (.int p3), .val (.int v7), .val (.ref b11), .val (.int j42_l6), .val (.int j63_l7), .val (.ref b63), .val (.int (1 : Int32)), .val (.int v7), .val (.int v266)] [(.int (1 : Int32)), (.int (own_b (w206_position = v7)))])) target
              refine XS.goto Xg275.here hx rfl (pc0 := 286) (pc' := 290) rfl (hb hby at_286) (by decide) (by decide) ?_
              exact kt
            exact ⟨_, ⟨(1 : Int32), rfl, (own_b1 c282).symm⟩, fun _ k => k⟩
          · refine own_st (B := Tg275.setTop (mkF m 290 #[.val (.int p0), .val (.int p1), .val (.int p2), .val (.int p3), .val (.int v7), .val (.ref b11), .val (.int j42_l6), .val (.int j63_l7), .val (.ref b63), .val (.int (1 : Int32)), .val (.int v7), .val (.int v266)] [(.int (0 : Int32)), (.int (own_b (w206_position = v7)))])) (fun target kt => ?_) ?_
            · show Steps p.tables e below (Tg275.setTop (mkF m 282 #[.val (.int p0), .val (.int p1), .val (.int p2), .val (.int p3), .val (.int v7), .val (.ref b11), .val (.int j42_l6), .val (.int j63_l7), .val (.ref b63), .val (.int (1 : Int32)), .val (.int v7), .val (.int v266)] [(.int v7), (.int v266), (.int (own_b (w206_position = v7)))])) target
              refine XS.icmpYes Xg275.here hx rfl (pc0 := 282) (pc' := 289) rfl (hb hby at_282) rfl (feq c282).2 (by decide) (by decide) ?_
              show Steps p.tables e below (Tg275.setTop (mkF m 289 #[.val (.int p0), .val (.int p1), .val (.int p2), .val (.int p3), .val (.int v7), .val (.ref b11), .val (.int j42_l6), .val (.int j63_l7), .val (.ref b63), .val (.int (1 : Int32)), .val (.int v7), .val (.int v266)] [(.int (own_b (w206_position = v7)))])) target
              refine XS.iconst Xg275.here hx rfl (hb hby at_289) ?_
              exact kt
            exact ⟨_, ⟨(0 : Int32), rfl, (own_b0 c282).symm⟩, fun _ k => k⟩
        refine own_st st_M290 ?_
        have c290 : (w206_position = v7) ↔ (v266 = v7) := by
          have hx : j63_a ((0 : Int32) + (1 : Int32)).toNatClampNeg = j63_l7 := (hJ2.1 c201).2.2
          rw [hw206_position, hw164_position, hx, hv266]
          exact Iff.rfl
        refine own_st (B := Tg275.setTop (mkF m 298 #[.val (.int p0), .val (.int p1), .val (.int p2), .val (.int p3), .val (.int v7), .val (.ref b11), .val (.int j42_l6), .val (.int j63_l7), .val (.ref b63), .val (.int (1 : Int32)), .val (.int v7), .val (.int v266)] [(.int (1 : Int32))])) (fun target kt => ?_) ?_
        · show Steps p.tables e below (Tg275.setTop (mkF m 290 #[.val (.int p0), .val (.int p1), .val (.int p2), .val (.int p3), .val (.int v7), .val (.ref b11), .val (.int j42_l6), .val (.int j63_l7), .val (.ref b63), .val (.int (1 : Int32)), .val (.int v7), .val (.int v266)] [(.int (own_b (v266 = v7))), (.int (own_b (w206_position = v7)))])) target
          refine XS.icmpNo Xg275.here hx rfl (hb hby at_290) rfl (teq (own_bb rfl rfl c290)).2 ?_
          show Steps p.tables e below (Tg275.setTop (mkF m 293 #[.val (.int p0), .val (.int p1), .val (.int p2), .val (.int p3), .val (.int v7), .val (.ref b11), .val (.int j42_l6), .val (.int j63_l7), .val (.ref b63), .val (.int (1 : Int32)), .val (.int v7), .val (.int v266)] [])) target
          refine XS.iconst Xg275.here hx rfl (hb hby at_293) ?_
          show Steps p.tables e below (Tg275.setTop (mkF m 294 #[.val (.int p0), .val (.int p1), .val (.int p2), .val (.int p3), .val (.int v7), .val (.ref b11), .val (.int j42_l6), .val (.int j63_l7), .val (.ref b63), .val (.int (1 : Int32)), .val (.int v7), .val (.int v266)] [(.int (1 : Int32))])) target
          refine XS.goto Xg275.here hx rfl (pc0 := 294) (pc' := 298) rfl (hb hby at_294) (by decide) (by decide) ?_
          exact kt
        obtain ⟨fs, hr, hrun, hended, hW, hsame⟩ := Xg275.leave (v := some (.int (1 : Int32))) (fun h => by rw [Bd.returns] at h; cases h)
        have hend : Steps p.tables e below (Tg275.setTop (mkF m 298 #[.val (.int p0), .val (.int p1), .val (.int p2), .val (.int p3), .val (.int v7), .val (.ref b11), .val (.int j42_l6), .val (.int j63_l7), .val (.ref b63), .val (.int (1 : Int32)), .val (.int v7), .val (.int v266)] [(.int (1 : Int32))])) (Tg275.setFrames fs) := by
          exact retN Xg275 hx (t := .boolean) Bd.returns (by simp) (hb hby at_298) hr
        refine own_fin hend ⟨_, hrun, hended, _, _, rfl, ?_, ⟨_, rfl⟩, hW, hsame.mono (by decide) (by decide)⟩
        show own_Q0 Z p0 p1 p2 p3 h0 n0 _ Tg275.heap _
        rw [eg275]
        exact ⟨rfl, Ng275⟩
      · refine own_st (B := Tg176.setTop (mkF m 250 #[.val (.int p0), .val (.int p1), .val (.int p2), .val (.int p3), .val (.int v7), .val (.ref b11), .val (.int j42_l6), .val (.int j63_l7), .val (.ref b63), .val (.int (1 : Int32)), .val (.int v7), .unset] [(.int v7), (.ref b63)])) (fun target kt => ?_) ?_
        · show Steps p.tables e below (Tg176.setTop (mkF m 201 #[.val (.int p0), .val (.int p1), .val (.int p2), .val (.int p3), .val (.int v7), .val (.ref b11), .val (.int j42_l6), .val (.int j63_l7), .val (.ref b63), .val (.int (1 : Int32)), .val (.int v7), .unset] [(.int j42_l6)])) target
          refine XS.ifYes Xg176.here hx rfl (pc0 := 201) (pc' := 246) rfl (hb hby at_201) rfl ((if0 _ _).trans (flt c201).2.2.2) (by decide) (by decide) ?_
          show Steps p.tables e below (Tg176.setTop (mkF m 246 #[.val (.int p0), .val (.int p1), .val (.int p2), .val (.int p3), .val (.int v7), .val (.ref b11), .val (.int j42_l6), .val (.int j63_l7), .val (.ref b63), .val (.int (1 : Int32)), .val (.int v7), .unset] [])) target
          refine XS.aload Xg176.here hx rfl (hb hby at_246) rfl rfl ?_
          show Steps p.tables e below (Tg176.setTop (mkF m 248 #[.val (.int p0), .val (.int p1), .val (.int p2), .val (.int p3), .val (.int v7), .val (.ref b11), .val (.int j42_l6), .val (.int j63_l7), .val (.ref b63), .val (.int (1 : Int32)), .val (.int v7), .unset] [(.ref b63)])) target
          refine XS.iload Xg176.here hx rfl (hb hby at_248) rfl ?_
          exact kt
        obtain ⟨cqg250, kqg250, qg250a, qg250b, qg250c⟩ := isOf hZ eg176 F_39
        obtain ⟨_, _, ⟨Tg250, Lg250, kg250, ng250⟩, -, Xg250, ⟨Lcg250, hQg250, lg250, yg250, zg250⟩, stg250⟩ := Xg176.virtualBack hx (y := (⟨"com/example/wireform/wireform/wire/WireReader", "endLengthDelimited", "(I)V"⟩ : MethodName)) (z := (⟨"com/example/wireform/wireform/wire/WireReader", "endLengthDelimited", "(I)V"⟩ : MethodName)) hown (mvT hZ (hw _ (List.mem_of_getElem? (i := 80) rfl))) (mvT hZ (hw _ (List.mem_of_getElem? (i := 81) rfl))) (notFace_of_selects (args := #[]) (mvT hZ (hw _ (List.mem_of_getElem? (i := 83) rfl)))) (mvT hZ (hw _ (List.mem_of_getElem? (i := 83) rfl))) (mvT hZ (hw _ (List.mem_of_getElem? (i := 82) rfl))) (by decide) (backOf (W := 0) (own_rm15 l Z a0 hw [] b63 v7 b11 v7 b71 w164_limit w164_position Tg164.heap n0 Zz_7 F_39 F_40 F_41 F_42 F_48 F_49 g_b63) hZ (hw _ (List.mem_of_getElem? (i := 84) rfl)) (hw _ (List.mem_of_getElem? (i := 4) rfl)) (by decide) (by decide)) qg250a qg250c (g := (mkF m 250 #[.val (.int p0), .val (.int p1), .val (.int p2), .val (.int p3), .val (.int v7), .val (.ref b11), .val (.int j42_l6), .val (.int j63_l7), .val (.ref b63), .val (.int (1 : Int32)), .val (.int v7), .unset] [(.int v7), (.ref b63)])) rfl (by rw [hml]; rfl) (Steps.refl _) (argsL := [(.int v7)]) (rest := []) (lenOf own_pd6 rfl) rfl (by show 2 * 0 + _ ≤ _; exact Nat.le_of_eq rfl) (hb hby at_250) (fun _ _ => ⟨rfl, eg176, (by decide : 3 + 0 ≤ _), (by decide : 15 + 0 ≤ _)⟩)
        dsimp only [Pt.U, Pt.locs, Pt.cells, Pt.slots] at Xg250 lg250 yg250 zg250 stg250 hQg250
        subst lg250 yg250 zg250
        obtain ⟨rfl, Ng250q, Kg250, F_50, F_51, F_52, F_53, F_54, F_55⟩ := hQg250
        have F_56 := F_45.keep Kg250 (ninS ne_b11_b63 nin0)
        have F_57 := F_46.keep Kg250
        have F_58 := F_47.keep Kg250 (ninS (Ne.symm ne_b63_b71) nin0)
        have Zz_8 : n0 ≤ Tg250.heap.size := Nat.le_trans Zz_7 Kg250.1
        have Ng250 := Fr.app Ng176 Ng250q
        refine own_st (fun _ k => stg250.trans k) ?_
        refine own_st (B := Tg250.setTop (mkF m 255 #[.val (.int p0), .val (.int p1), .val (.int p2), .val (.int p3), .val (.int v7), .val (.ref b11), .val (.int j42_l6), .val (.int j63_l7), .val (.ref b63), .val (.int (1 : Int32)), .val (.int v7), .unset] [(.int j42_l6)])) (fun target kt => ?_) ?_
        · show Steps p.tables e below (Tg250.setTop (mkF m 253 #[.val (.int p0), .val (.int p1), .val (.int p2), .val (.int p3), .val (.int v7), .val (.ref b11), .val (.int j42_l6), .val (.int j63_l7), .val (.ref b63), .val (.int (1 : Int32)), .val (.int v7), .unset] [])) target
          refine XS.iload Xg250.here hx rfl (hb hby at_253) rfl ?_
          exact kt
        have c255 : ¬ ((0 : Int32) < j42_l6) := by
          exact c201
        refine own_st (B := Tg250.setTop (mkF m 275 #[.val (.int p0), .val (.int p1), .val (.int p2), .val (.int p3), .val (.int v7), .val (.ref b11), .val (.int j42_l6), .val (.int j63_l7), .val (.ref b63), .val (.int (1 : Int32)), .val (.int v7), .val (.int (1 : Int32))] [(.ref b63)])) (fun target kt => ?_) ?_
        · show Steps p.tables e below (Tg250.setTop (mkF m 255 #[.val (.int p0), .val (.int p1), .val (.int p2), .val (.int p3), .val (.int v7), .val (.ref b11), .val (.int j42_l6), .val (.int j63_l7), .val (.ref b63), .val (.int (1 : Int32)), .val (.int v7), .unset] [(.int j42_l6)])) target
          refine XS.ifYes Xg250.here hx rfl (pc0 := 255) (pc' := 265) rfl (hb hby at_255) rfl ((if0 _ _).trans (flt c255).2.2.2) (by decide) (by decide) ?_
          show Steps p.tables e below (Tg250.setTop (mkF m 265 #[.val (.int p0), .val (.int p1), .val (.int p2), .val (.int p3), .val (.int v7), .val (.ref b11), .val (.int j42_l6), .val (.int j63_l7), .val (.ref b63), .val (.int (1 : Int32)), .val (.int v7), .unset] [])) target
          refine XS.iconst Xg250.here hx rfl (hb hby at_265) ?_
          show Steps p.tables e below (Tg250.setTop (mkF m 266 #[.val (.int p0), .val (.int p1), .val (.int p2), .val (.int p3), .val (.int v7), .val (.ref b11), .val (.int j42_l6), .val (.int j63_l7), .val (.ref b63), .val (.int (1 : Int32)), .val (.int v7), .unset] [(.int (1 : Int32))])) target
          refine XS.istore Xg250.here hx rfl (hb hby at_266) rfl (l' := #[.val (.int p0), .val (.int p1), .val (.int p2), .val (.int p3), .val (.int v7), .val (.ref b11), .val (.int j42_l6), .val (.int j63_l7), .val (.ref b63), .val (.int (1 : Int32)), .val (.int v7), .val (.int (1 : Int32))]) rfl ?_
          show Steps p.tables e below (Tg250.setTop (mkF m 268 #[.val (.int p0), .val (.int p1), .val (.int p2), .val (.int p3), .val (.int v7), .val (.ref b11), .val (.int j42_l6), .val (.int j63_l7), .val (.ref b63), .val (.int (1 : Int32)), .val (.int v7), .val (.int (1 : Int32))] [])) target
          refine XS.iload Xg250.here hx rfl (hb hby at_268) rfl ?_
          show Steps p.tables e below (Tg250.setTop (mkF m 270 #[.val (.int p0), .val (.int p1), .val (.int p2), .val (.int p3), .val (.int v7), .val (.ref b11), .val (.int j42_l6), .val (.int j63_l7), .val (.ref b63), .val (.int (1 : Int32)), .val (.int v7), .val (.int (1 : Int32))] [(.int (1 : Int32))])) target
          refine XS.ifNo Xg250.here hx rfl (hb hby at_270) rfl ((if0 _ _).trans (feq (by decide : ¬ ((1 : Int32) = (0 : Int32)))).1) ?_
          show Steps p.tables e below (Tg250.setTop (mkF m 273 #[.val (.int p0), .val (.int p1), .val (.int p2), .val (.int p3), .val (.int v7), .val (.ref b11), .val (.int j42_l6), .val (.int j63_l7), .val (.ref b63), .val (.int (1 : Int32)), .val (.int v7), .val (.int (1 : Int32))] [])) target
          refine XS.aload Xg250.here hx rfl (hb hby at_273) rfl rfl ?_
          exact kt
        obtain ⟨cqg275, kqg275, qg275a, qg275b, qg275c⟩ := isOf hZ rfl F_50
        obtain ⟨_, _, ⟨Tg275, Lg275, kg275, ng275⟩, -, Xg275, ⟨Lcg275, hQg275, lg275, yg275, zg275⟩, stg275⟩ := Xg250.virtualBack hx (y := (⟨"com/example/wireform/wireform/wire/WireReader", "isAtEnd", "()Z"⟩ : MethodName)) (z := (⟨"com/example/wireform/wireform/wire/WireReader", "isAtEnd", "()Z"⟩ : MethodName)) hown (mvT hZ (hw _ (List.mem_of_getElem? (i := 28) rfl))) (mvT hZ (hw _ (List.mem_of_getElem? (i := 29) rfl))) (notFace_of_selects (args := #[]) (mvT hZ (hw _ (List.mem_of_getElem? (i := 31) rfl)))) (mvT hZ (hw _ (List.mem_of_getElem? (i := 31) rfl))) (mvT hZ (hw _ (List.mem_of_getElem? (i := 30) rfl))) (by decide) (backOf (W := 0) (own_rm4 l Z a0 hw [] b63 v7 w164_position Tg250.heap n0 Zz_8 F_54 F_55) hZ (hw _ (List.mem_of_getElem? (i := 32) rfl)) (hw _ (List.mem_of_getElem? (i := 4) rfl)) (by decide) (by decide)) qg275a qg275c (g := (mkF m 275 #[.val (.int p0), .val (.int p1), .val (.int p2), .val (.int p3), .val (.int v7), .val (.ref b11), .val (.int j42_l6), .val (.int j63_l7), .val (.ref b63), .val (.int (1 : Int32)), .val (.int v7), .val (.int (1 : Int32))] [(.ref b63)])) rfl (by rw [hml]; rfl) (Steps.refl _) (argsL := []) (rest := []) (lenOf own_pd8 rfl) rfl (by show 2 * 0 + _ ≤ _; exact Nat.le_of_eq rfl) (hb hby at_275) (fun _ _ => ⟨rfl, rfl, (by decide : 3 + 0 ≤ _), (by decide : 15 + 0 ≤ _)⟩)
        dsimp only [Pt.U, Pt.locs, Pt.cells, Pt.slots] at Xg275 lg275 yg275 zg275 stg275 hQg275
        subst lg275 yg275 zg275
        obtain ⟨rfl, Ng275q, eg275⟩ := hQg275
        have Ng275 := Fr.app Ng250 Ng275q
        refine own_st (fun _ k => stg275.trans k) ?_
        refine own_st (B := Tg275.setTop (mkF m 282 #[.val (.int p0), .val (.int p1), .val (.int p2), .val (.int p3), .val (.int v7), .val (.ref b11), .val (.int j42_l6), .val (.int j63_l7), .val (.ref b63), .val (.int (1 : Int32)), .val (.int v7), .val (.int (1 : Int32))] [(.int v7), (.int (1 : Int32)), (.int (own_b (w164_position = v7)))])) (fun target kt => ?_) ?_
        · show Steps p.tables e below (Tg275.setTop (mkF m 278 #[.val (.int p0), .val (.int p1), .val (.int p2), .val (.int p3), .val (.int v7), .val (.ref b11), .val (.int j42_l6), .val (.int j63_l7), .val (.ref b63), .val (.int (1 : Int32)), .val (.int v7), .val (.int (1 : Int32))] [(.int (own_b (w164_position = v7)))])) target
          refine XS.iload Xg275.here hx rfl (hb hby at_278) rfl ?_
          show Steps p.tables e below (Tg275.setTop (mkF m 280 #[.val (.int p0), .val (.int p1), .val (.int p2), .val (.int p3), .val (.int v7), .val (.ref b11), .val (.int j42_l6), .val (.int j63_l7), .val (.ref b63), .val (.int (1 : Int32)), .val (.int v7), .val (.int (1 : Int32))] [(.int (1 : Int32)), (.int (own_b (w164_position = v7)))])) target
          refine XS.iload Xg275.here hx rfl (hb hby at_280) rfl ?_
          exact kt
        obtain ⟨_, ⟨j290_s0, rfl, rfl⟩, st_M290⟩ : own_Lead p.tables e below (Tg275.setTop (mkF m 282 #[.val (.int p0), .val (.int p1), .val (.int p2), .val (.int p3), .val (.int v7), .val (.ref b11), .val (.int j42_l6), .val (.int j63_l7), .val (.ref b63), .val (.int (1 : Int32)), .val (.int v7), .val (.int (1 : Int32))] [(.int v7), (.int (1 : Int32)), (.int (own_b (w164_position = v7)))])) (fun B => ∃ (j290_s0 : Int32), B = Tg275.setTop (mkF m 290 #[.val (.int p0), .val (.int p1), .val (.int p2), .val (.int p3), .val (.int v7), .val (.ref b11), .val (.int j42_l6), .val (.int j63_l7), .val (.ref b63), .val (.int (1 : Int32)), .val (.int v7), .val (.int (1 : Int32))] [(.int j290_s0), (.int (own_b (w164_position = v7)))]) ∧ j290_s0 = own_b ((1 : Int32) = v7)) := by
          by_cases c282 : (1 : Int32) = v7
          · refine own_st (B := Tg275.setTop (mkF m 290 #[.val (.int p0), .val (.int p1), .val (.int p2), .val (.int p3), .val (.int v7), .val (.ref b11), .val (.int j42_l6), .val (.int j63_l7), .val (.ref b63), .val (.int (1 : Int32)), .val (.int v7), .val (.int (1 : Int32))] [(.int (1 : Int32)), (.int (own_b (w164_position = v7)))])) (fun target kt => ?_) ?_
            · show Steps p.tables e below (Tg275.setTop (mkF m 282 #[.val (.int p0), .val (.int p1), .val (.int p2), .val (.int p3), .val (.int v7), .val (.ref b11), .val (.int j42_l6), .val (.int j63_l7), .val (.ref b63), .val (.int (1 : Int32)), .val (.int v7), .val (.int (1 : Int32))] [(.int v7), (.int (1 : Int32)), (.int (own_b (w164_position = v7)))])) target
              refine XS.icmpNo Xg275.here hx rfl (hb hby at_282) rfl (teq c282).2 ?_
              show Steps p.tables e below (Tg275.setTop (mkF m 285 #[.val (.int p0), .val (.int p1), .val (.int p2), .val (.int p3), .val (.int v7), .val (.ref b11), .val (.int j42_l6), .val (.int j63_l7), .val (.ref b63), .val (.int (1 : Int32)), .val (.int v7), .val (.int (1 : Int32))] [(.int (own_b (w164_position = v7)))])) target
              refine XS.iconst Xg275.here hx rfl (hb hby at_285) ?_
              show Steps p.tables e below (Tg275.setTop (mkF m 286 #[.val (.int p0), .val (.int p1), .val (.int p2), .val (.int p3), .val (.int v7), .val (.ref b11), .val (.int j42_l6), .val (.int j63_l7), .val (.ref b63), .val (.int (1 : Int32)), .val (.int v7), .val (.int (1 : Int32))] [(.int (1 : Int32)), (.int (own_b (w164_position = v7)))])) target
              refine XS.goto Xg275.here hx rfl (pc0 := 286) (pc' := 290) rfl (hb hby at_286) (by decide) (by decide) ?_
              exact kt
            exact ⟨_, ⟨(1 : Int32), rfl, (own_b1 c282).symm⟩, fun _ k => k⟩
          · refine own_st (B := Tg275.setTop (mkF m 290 #[.val (.int p0), .val (.int p1), .val (.int p2), .val (.int p3), .val (.int v7), .val (.ref b11), .val (.int j42_l6), .val (.int j63_l7), .val (.ref b63), .val (.int (1 : Int32)), .val (.int v7), .val (.int (1 : Int32))] [(.int (0 : Int32)), (.int (own_b (w164_position = v7)))])) (fun target kt => ?_) ?_
            · show Steps p.tables e below (Tg275.setTop (mkF m 282 #[.val (.int p0), .val (.int p1), .val (.int p2), .val (.int p3), .val (.int v7), .val (.ref b11), .val (.int j42_l6), .val (.int j63_l7), .val (.ref b63), .val (.int (1 : Int32)), .val (.int v7), .val (.int (1 : Int32))] [(.int v7), (.int (1 : Int32)), (.int (own_b (w164_position = v7)))])) target
              refine XS.icmpYes Xg275.here hx rfl (pc0 := 282) (pc' := 289) rfl (hb hby at_282) rfl (feq c282).2 (by decide) (by decide) ?_
              show Steps p.tables e below (Tg275.setTop (mkF m 289 #[.val (.int p0), .val (.int p1), .val (.int p2), .val (.int p3), .val (.int v7), .val (.ref b11), .val (.int j42_l6), .val (.int j63_l7), .val (.ref b63), .val (.int (1 : Int32)), .val (.int v7), .val (.int (1 : Int32))] [(.int (own_b (w164_position = v7)))])) target
              refine XS.iconst Xg275.here hx rfl (hb hby at_289) ?_
              exact kt
            exact ⟨_, ⟨(0 : Int32), rfl, (own_b0 c282).symm⟩, fun _ k => k⟩
        refine own_st st_M290 ?_
        have c290 : (w164_position = v7) ↔ ((1 : Int32) = v7) := by
          rw [hw164_position]
          exact Iff.rfl
        refine own_st (B := Tg275.setTop (mkF m 298 #[.val (.int p0), .val (.int p1), .val (.int p2), .val (.int p3), .val (.int v7), .val (.ref b11), .val (.int j42_l6), .val (.int j63_l7), .val (.ref b63), .val (.int (1 : Int32)), .val (.int v7), .val (.int (1 : Int32))] [(.int (1 : Int32))])) (fun target kt => ?_) ?_
        · show Steps p.tables e below (Tg275.setTop (mkF m 290 #[.val (.int p0), .val (.int p1), .val (.int p2), .val (.int p3), .val (.int v7), .val (.ref b11), .val (.int j42_l6), .val (.int j63_l7), .val (.ref b63), .val (.int (1 : Int32)), .val (.int v7), .val (.int (1 : Int32))] [(.int (own_b ((1 : Int32) = v7))), (.int (own_b (w164_position = v7)))])) target
          refine XS.icmpNo Xg275.here hx rfl (hb hby at_290) rfl (teq (own_bb rfl rfl c290)).2 ?_
          show Steps p.tables e below (Tg275.setTop (mkF m 293 #[.val (.int p0), .val (.int p1), .val (.int p2), .val (.int p3), .val (.int v7), .val (.ref b11), .val (.int j42_l6), .val (.int j63_l7), .val (.ref b63), .val (.int (1 : Int32)), .val (.int v7), .val (.int (1 : Int32))] [])) target
          refine XS.iconst Xg275.here hx rfl (hb hby at_293) ?_
          show Steps p.tables e below (Tg275.setTop (mkF m 294 #[.val (.int p0), .val (.int p1), .val (.int p2), .val (.int p3), .val (.int v7), .val (.ref b11), .val (.int j42_l6), .val (.int j63_l7), .val (.ref b63), .val (.int (1 : Int32)), .val (.int v7), .val (.int (1 : Int32))] [(.int (1 : Int32))])) target
          refine XS.goto Xg275.here hx rfl (pc0 := 294) (pc' := 298) rfl (hb hby at_294) (by decide) (by decide) ?_
          exact kt
        obtain ⟨fs, hr, hrun, hended, hW, hsame⟩ := Xg275.leave (v := some (.int (1 : Int32))) (fun h => by rw [Bd.returns] at h; cases h)
        have hend : Steps p.tables e below (Tg275.setTop (mkF m 298 #[.val (.int p0), .val (.int p1), .val (.int p2), .val (.int p3), .val (.int v7), .val (.ref b11), .val (.int j42_l6), .val (.int j63_l7), .val (.ref b63), .val (.int (1 : Int32)), .val (.int v7), .val (.int (1 : Int32))] [(.int (1 : Int32))])) (Tg275.setFrames fs) := by
          exact retN Xg275 hx (t := .boolean) Bd.returns (by simp) (hb hby at_298) hr
        refine own_fin hend ⟨_, hrun, hended, _, _, rfl, ?_, ⟨_, rfl⟩, hW, hsame.mono (by decide) (by decide)⟩
        show own_Q0 Z p0 p1 p2 p3 h0 n0 _ Tg275.heap _
        rw [eg275]
        exact ⟨rfl, Ng275⟩
set_option maxRecDepth 65536 in
set_option maxHeartbeats 40000000 in
theorem own_comes_1 {Post : Tables → Env → Array Value → State → Outcome → State → Prop} (hpost : ∀ tb e args s v u, (limb_1_1.after args s (.returned v) u = true ∧ limb_1_2.after args s (.returned v) u = true ∧ True) → FrameEnd s (.returned v) u (Jvm.fieldLocs frame_1_writes args s ++ Jvm.arrayLocs frame_1_arrays args s ++ Jvm.staticLocs frame_1_statics s) 16 128 → Post tb e args s (.returned v) u) :
    ArmFor flags0 classFile x code maxLocals ret World_1 tables_1 room_1 Calls_1 rest_1 Pre_1 Post := by
  intro l hfl _ _ p e ha hc hk s m args below hf hA hF happ hP
  obtain ⟨hcalls, hrest, hpre⟩ := hP
  obtain ⟨-, -, -, hnamed, -, -, -, hat⟩ := (Spec.applies_iff hf).mp happ
  obtain ⟨hg, hn⟩ := and_e (Cond.before_iff.mp (show (Jvm.Cond.and given_1 narrow_1).before args s = true from hpre))
  obtain ⟨g1, g2⟩ := and_e hg
  obtain ⟨g3, g4⟩ := and_e g2
  obtain ⟨g5, g6⟩ := and_e g4
  obtain ⟨g7, g8⟩ := and_e g6
  obtain ⟨w0, w1, w2, w3, rfl⟩ : ∃ w0 w1 w2 w3 : Value, args = #[w0, w1, w2, w3] := by
    have hs : args.size = 4 := by simpa [Cond.value, given_1] using g1
    obtain ⟨L⟩ := args
    match L, hs with
    | [w0, w1, w2, w3], _ => exact ⟨w0, w1, w2, w3, rfl⟩
  have hw := fun d (hd : d ∈ tables_1) => atoms_spec (ws := Jvm.Cond.code x code maxLocals ret :: tables_1) hat d (List.mem_cons_of_mem _ hd)
  obtain ⟨i0, ei0⟩ := is_v g3
  obtain rfl : w0 = (.int i0) := Option.some.inj ei0
  obtain ⟨i1, ei1⟩ := is_v g5
  obtain rfl : w1 = (.int i1) := Option.some.inj ei1
  obtain ⟨i2, ei2⟩ := is_v g7
  obtain rfl : w2 = (.int i2) := Option.some.inj ei2
  obtain ⟨i3, ei3⟩ := is_v g8
  obtain rfl : w3 = (.int i3) := Option.some.inj ei3
  obtain ⟨n, o, h1, h2, h3, _, L, rfl, ⟨rfl, N⟩, hq⟩ := own_rm0 l s _ hw tables_1 i0 i1 i2 i3 s.heap s.heap.size (Nat.le_refl _) p e ha hc hk s m _ below hf ((Spec.applies_iff_loose hf).mp happ).1 ⟨rfl, State.Warmed39.refl s, rfl⟩ trivial
  refine ⟨n, _, h1, h2, h3, hpost _ _ _ _ _ _ ⟨Cond.after_iff.mpr rfl, Cond.after_iff.mpr (eq_i res_at (Term.int_eval (1)) rfl), trivial⟩ ⟨hq.1, hq.2.1, (hq.2.2.sift fun y hy => Or.inr (N y hy)).mono (by decide) (by decide)⟩⟩
theorem main_1_1 : Claimed_1_1 := own_comes_1 fun _ _ _ _ _ _ h hF => ⟨h.1, hF⟩
theorem main_1_2 : Claimed_1_2 := own_comes_1 fun _ _ _ _ _ _ h hF => ⟨h.2.1, hF⟩
end Jvm.Pilot.@@N@@
namespace Jvm.Pilot.@@N@@
open Jvm Jvm.ClassFile Sem Op Lib Jvm.Free Jvm.Stand Jvm.Pilot.@@N@@.Jvm.D
/-! MADE BY PROGRAM (witnessworld.py) out of the Statement's table words and the real class files: 18 classes; the members and pool entries that the words name. The judged class is class 1, her method 1. -/
namespace start1
open Jvm.ClassFile
def u (s : String) : CpInfo := .utf8 (stringToUtf16 s)
/-- a pool by its gaps: so many unusable entries, then the entry; so many at the end -/
def gap : Nat → List CpInfo → List CpInfo
  | 0, r => r
  | n + 1, r => .unusable :: gap n r
def poolList (es : List (Nat × CpInfo)) (last : Nat) : List CpInfo := es.foldr (fun e r => gap e.1 (e.2 :: r)) (gap last [])
def pool (es : List (Nat × CpInfo)) (last : Nat) : Array CpInfo := ⟨poolList es last⟩
def fileOf (pool : Array CpInfo) (this : Nat) (attrs : Array Attribute := #[]) (ms : Array MethodInfo := #[]) (fl : Nat := 33) (sup : Nat := 0) (ifs : Array Nat := #[]) (fds : Array FieldInfo := #[]) : ClassFile where
  minorVersion := 0
  majorVersion := 65
  constantPool := pool
  accessFlags := fl
  thisClass := this
  superClass := sup
  interfaces := ifs
  fields := fds
  methods := ms
  attributes := attrs
def plain (name : String) (sup : Option ClassId) : Class where
  name := name
  kind := .ordinary
  loader := none
  accessFlags := 33
  super := sup
  interfaces := #[]
  cf := none
  fields := #[]
  methods := #[]
  instanceTypes := #[]
  staticTypes := #[]
  resolved := #[]
  callSites := []
  init := .initialized
  statics := none
  mirror := none

def pool0 : Array CpInfo := pool [(5, u "<init>"), (0, u "()V"), (1, .class_ 10), (1, u "java/lang/Object")] 113

def k0c0 : Code := { maxStack := 0, maxLocals := 1, code := object_method_1_code, exceptionTable := #[], attributes := #[] }
def k0m0 : Method := { name := "<init>", desc := "()V", sig := { parameters := [], returnType := none }, accessFlags := 1, code := some k0c0 }
/-- java/lang/Object -/
def k0 : Class := { plain "java/lang/Object" none with
  accessFlags := 33
  interfaces := #[]
  cf := some (fileOf pool0 8 #[] #[{ accessFlags := 1, nameIndex := 5, descriptorIndex := 6, attributes := #[] }] 33 0 #[] #[])
  fields := #[]
  methods := #[k0m0]
  instanceTypes := #[]
  staticTypes := #[]
  resolved := Array.replicate 124 none
  statics := none }

def pool1 : Array CpInfo := pool [(2, .class_ 4), (1, u "java/lang/Object"), (0, u "<init>"), (0, u "()V"), (0, .integer 2147483647), (0, .class_ 9), (0, u "com/example/wireform/wireform/wire/WireReader"), (0, .class_ 11), (0, u "com/example/wireform/wireform/wire/Nesting"), (0, .methodref 10 13), (0, .nameAndType 5 14), (0, u "(I)V"), (0, .methodref 8 16), (0, .nameAndType 5 17), (0, u "([BILcom/example/wireform/wireform/wire/Nesting;)V"), (0, .methodref 8 19), (0, .nameAndType 20 21), (0, u "isAtEnd"), (0, u "()Z"), (0, .methodref 8 23), (0, .nameAndType 24 25), (0, u "readBytes"), (0, u "()[B"), (0, .methodref 8 27), (0, .nameAndType 28 29), (0, u "beginLengthDelimited"), (0, u "()I"), (0, .methodref 8 31), (0, .nameAndType 32 14), (0, u "endLengthDelimited"), (0, .class_ 34), (0, u "com/example/wireform/wireform/wire/WireReaderIsAtEndPinLaw"), (2, u "law"), (0, u "(IIII)Z")] 5

def k1m0 : Method := { name := "<init>", desc := "()V", sig := { parameters := [], returnType := none }, accessFlags := 1, code := none }
def k1c1 : Code := { maxStack := 7, maxLocals := 12, code := code, exceptionTable := #[], attributes := #[] }
def k1m1 : Method := { name := "law", desc := "(IIII)Z", sig := { parameters := [.int, .int, .int, .int], returnType := some .boolean }, accessFlags := 9, code := some k1c1 }
/-- com/example/wireform/wireform/wire/WireReaderIsAtEndPinLaw -/
def k1 : Class := { plain "com/example/wireform/wireform/wire/WireReaderIsAtEndPinLaw" (some 0) with
  accessFlags := 49
  interfaces := #[]
  cf := some (fileOf pool1 33 #[] #[{ accessFlags := 1, nameIndex := 5, descriptorIndex := 6, attributes := #[] }, { accessFlags := 9, nameIndex := 37, descriptorIndex := 38, attributes := #[] }] 49 2 #[] #[])
  fields := #[]
  methods := #[k1m0, k1m1]
  instanceTypes := #[]
  staticTypes := #[]
  resolved := Array.replicate 44 none
  statics := none }

def pool2 : Array CpInfo := pool [(4, .class_ 6), (1, u "com/example/wireform/wireform/wire/WireReader"), (0, u "<init>"), (2, u "bytes"), (7, u "[B"), (2, u "(I)V"), (2, u "([BILcom/example/wireform/wireform/wire/Nesting;)V"), (0, .methodref 26 27), (0, .class_ 28), (0, .nameAndType 7 29), (0, u "java/lang/Object"), (0, u "()V"), (0, .fieldref 4 31), (0, .nameAndType 10 18), (0, .fieldref 4 33), (0, .nameAndType 34 35), (0, u "end"), (0, u "I"), (0, .fieldref 4 37), (0, .nameAndType 38 39), (0, u "nesting"), (0, u "Lcom/example/wireform/wireform/wire/Nesting;"), (0, .fieldref 4 41), (0, .nameAndType 42 35), (0, u "limit"), (0, .fieldref 4 44), (0, .nameAndType 45 35), (0, u "position"), (16, .methodref 4 63), (0, .nameAndType 64 65), (0, u "readVarint"), (0, u "()J"), (25, .class_ 93), (1, u "com/example/wireform/wireform/wire/WireReader$1"), (5, u "()I"), (0, .class_ 101), (0, u "java/lang/Long"), (6, .methodref 4 109), (0, .nameAndType 110 99), (0, u "readLength"), (13, u "INT_LITTLE_ENDIAN"), (0, u "Ljava/lang/invoke/VarHandle;"), (8, u "LONG_LITTLE_ENDIAN"), (21, .methodref 157 158), (0, .class_ 159), (0, .nameAndType 160 161), (0, u "java/util/Arrays"), (0, u "copyOfRange"), (0, u "([BII)[B"), (3, u "()Z"), (7, u "beginLengthDelimited"), (2, u "endLengthDelimited"), (41, .methodref 100 219), (0, .nameAndType 220 221), (0, u "compareUnsigned"), (0, u "(JJ)I"), (37, u "MAX_VARINT_BYTES"), (2, u "REPLACEMENT_CHARACTER"), (0, u "C"), (3, u "isAtEnd"), (5, u "readBytes"), (0, u "()[B")] 37

def k2c0 : Code := { maxStack := 2, maxLocals := 4, code := prog_71_method_3_code, exceptionTable := #[], attributes := #[] }
def k2m0 : Method := { name := "<init>", desc := "([BILcom/example/wireform/wireform/wire/Nesting;)V", sig := { parameters := [(.array .byte), .int, (.object "com/example/wireform/wireform/wire/Nesting")], returnType := none }, accessFlags := 0, code := some k2c0 }
def k2c1 : Code := { maxStack := 2, maxLocals := 1, code := prog_71_method_4_code, exceptionTable := #[], attributes := #[] }
def k2m1 : Method := { name := "isAtEnd", desc := "()Z", sig := { parameters := [], returnType := some .boolean }, accessFlags := 1, code := some k2c1 }
def k2c2 : Code := { maxStack := 6, maxLocals := 6, code := prog_71_method_5_code, exceptionTable := #[], attributes := #[] }
def k2m2 : Method := { name := "readVarint", desc := "()J", sig := { parameters := [], returnType := some .long }, accessFlags := 1, code := some k2c2 }
def k2c3 : Code := { maxStack := 4, maxLocals := 3, code := prog_71_method_11_code, exceptionTable := #[], attributes := #[] }
def k2m3 : Method := { name := "readBytes", desc := "()[B", sig := { parameters := [], returnType := some (.array .byte) }, accessFlags := 1, code := some k2c3 }
def k2c4 : Code := { maxStack := 3, maxLocals := 3, code := prog_71_method_12_code, exceptionTable := #[], attributes := #[] }
def k2m4 : Method := { name := "beginLengthDelimited", desc := "()I", sig := { parameters := [], returnType := some .int }, accessFlags := 1, code := some k2c4 }
def k2c5 : Code := { maxStack := 2, maxLocals := 2, code := prog_71_method_13_code, exceptionTable := #[], attributes := #[] }
def k2m5 : Method := { name := "endLengthDelimited", desc := "(I)V", sig := { parameters := [.int], returnType := none }, accessFlags := 1, code := some k2c5 }
def k2c6 : Code := { maxStack := 4, maxLocals := 4, code := prog_71_method_18_code, exceptionTable := #[], attributes := #[] }
def k2m6 : Method := { name := "readLength", desc := "()I", sig := { parameters := [], returnType := some .int }, accessFlags := 2, code := some k2c6 }
/-- com/example/wireform/wireform/wire/WireReader -/
def k2 : Class := { plain "com/example/wireform/wireform/wire/WireReader" (some 0) with
  accessFlags := 49
  interfaces := #[]
  cf := some (fileOf pool2 4 #[.nestMembers #[91]] #[{ accessFlags := 0, nameIndex := 7, descriptorIndex := 24, attributes := #[] }, { accessFlags := 1, nameIndex := 267, descriptorIndex := 165, attributes := #[] }, { accessFlags := 1, nameIndex := 64, descriptorIndex := 65, attributes := #[] }, { accessFlags := 1, nameIndex := 273, descriptorIndex := 274, attributes := #[] }, { accessFlags := 1, nameIndex := 173, descriptorIndex := 99, attributes := #[] }, { accessFlags := 1, nameIndex := 176, descriptorIndex := 21, attributes := #[] }, { accessFlags := 2, nameIndex := 110, descriptorIndex := 99, attributes := #[] }] 49 26 #[] #[{ accessFlags := 24, nameIndex := 259, descriptorIndex := 35, attributes := #[] }, { accessFlags := 26, nameIndex := 262, descriptorIndex := 263, attributes := #[] }, { accessFlags := 26, nameIndex := 124, descriptorIndex := 125, attributes := #[] }, { accessFlags := 26, nameIndex := 134, descriptorIndex := 125, attributes := #[] }, { accessFlags := 18, nameIndex := 10, descriptorIndex := 18, attributes := #[] }, { accessFlags := 18, nameIndex := 34, descriptorIndex := 35, attributes := #[] }, { accessFlags := 18, nameIndex := 38, descriptorIndex := 39, attributes := #[] }, { accessFlags := 2, nameIndex := 45, descriptorIndex := 35, attributes := #[] }, { accessFlags := 2, nameIndex := 42, descriptorIndex := 35, attributes := #[] }])
  fields := #[{ name := "MAX_VARINT_BYTES", type := .int, accessFlags := 24, slot := 0, constantValue := 0 }, { name := "REPLACEMENT_CHARACTER", type := .char, accessFlags := 26, slot := 1, constantValue := 0 }, { name := "INT_LITTLE_ENDIAN", type := (.object "java/lang/invoke/VarHandle"), accessFlags := 26, slot := 2, constantValue := 0 }, { name := "LONG_LITTLE_ENDIAN", type := (.object "java/lang/invoke/VarHandle"), accessFlags := 26, slot := 3, constantValue := 0 }, { name := "bytes", type := (.array .byte), accessFlags := 18, slot := 0, constantValue := 0 }, { name := "end", type := .int, accessFlags := 18, slot := 1, constantValue := 0 }, { name := "nesting", type := (.object "com/example/wireform/wireform/wire/Nesting"), accessFlags := 18, slot := 2, constantValue := 0 }, { name := "position", type := .int, accessFlags := 2, slot := 3, constantValue := 0 }, { name := "limit", type := .int, accessFlags := 2, slot := 4, constantValue := 0 }]
  methods := #[k2m0, k2m1, k2m2, k2m3, k2m4, k2m5, k2m6]
  instanceTypes := #[(.array .byte), .int, (.object "com/example/wireform/wireform/wire/Nesting"), .int, .int]
  staticTypes := #[.int, .char, (.object "java/lang/invoke/VarHandle"), (.object "java/lang/invoke/VarHandle")]
  resolved := Array.replicate 312 none
  statics := none }

def pool3 : Array CpInfo := pool [(1, .methodref 2 3), (0, .class_ 4), (0, .nameAndType 5 6), (0, u "java/lang/Object"), (0, u "<init>"), (0, u "()V"), (0, .class_ 8), (0, u "com/example/wireform/wireform/wire/Nesting"), (9, .fieldref 7 19), (0, .nameAndType 20 21), (0, u "limit"), (0, u "I"), (2, u "depth"), (0, u "DEFAULT_LIMIT"), (2, u "MAX_LIMIT"), (1, u "(I)V")] 24

def k3c0 : Code := { maxStack := 3, maxLocals := 2, code := prog_67_method_1_code, exceptionTable := #[], attributes := #[] }
def k3m0 : Method := { name := "<init>", desc := "(I)V", sig := { parameters := [.int], returnType := none }, accessFlags := 0, code := some k3c0 }
/-- com/example/wireform/wireform/wire/Nesting -/
def k3 : Class := { plain "com/example/wireform/wireform/wire/Nesting" (some 0) with
  accessFlags := 49
  interfaces := #[]
  cf := some (fileOf pool3 7 #[] #[{ accessFlags := 0, nameIndex := 5, descriptorIndex := 30, attributes := #[] }] 49 2 #[] #[{ accessFlags := 25, nameIndex := 25, descriptorIndex := 21, attributes := #[] }, { accessFlags := 24, nameIndex := 28, descriptorIndex := 21, attributes := #[] }, { accessFlags := 18, nameIndex := 20, descriptorIndex := 21, attributes := #[] }, { accessFlags := 2, nameIndex := 24, descriptorIndex := 21, attributes := #[] }])
  fields := #[{ name := "DEFAULT_LIMIT", type := .int, accessFlags := 25, slot := 0, constantValue := 0 }, { name := "MAX_LIMIT", type := .int, accessFlags := 24, slot := 1, constantValue := 0 }, { name := "limit", type := .int, accessFlags := 18, slot := 0, constantValue := 0 }, { name := "depth", type := .int, accessFlags := 2, slot := 1, constantValue := 0 }]
  methods := #[k3m0]
  instanceTypes := #[.int, .int]
  staticTypes := #[.int, .int]
  resolved := Array.replicate 55 none
  statics := none }

def pool4 : Array CpInfo := pool [(1, .class_ 2), (0, u "java/io/Serializable"), (0, .class_ 4), (0, u "java/lang/Object")] 2

/-- java/io/Serializable -/
def k4 : Class := { plain "java/io/Serializable" (some 0) with
  accessFlags := 1537
  interfaces := #[]
  cf := some (fileOf pool4 1 #[] #[] 1537 3 #[] #[])
  fields := #[]
  methods := #[]
  instanceTypes := #[]
  staticTypes := #[]
  resolved := Array.replicate 7 none
  statics := none }

def pool5 : Array CpInfo := pool [(2, .class_ 4), (1, u "java/lang/Object"), (0, u "<init>"), (0, u "()V"), (1, .class_ 10), (1, u "java/lang/Number"), (2, .class_ 14), (0, u "java/io/Serializable"), (0, u "serialVersionUID"), (0, u "J")] 20

def k5m0 : Method := { name := "<init>", desc := "()V", sig := { parameters := [], returnType := none }, accessFlags := 1, code := none }
/-- java/lang/Number -/
def k5 : Class := { plain "java/lang/Number" (some 0) with
  accessFlags := 1057
  interfaces := #[4]
  cf := some (fileOf pool5 8 #[] #[{ accessFlags := 1, nameIndex := 5, descriptorIndex := 6, attributes := #[] }] 1057 2 #[13] #[{ accessFlags := 26, nameIndex := 15, descriptorIndex := 16, attributes := #[] }])
  fields := #[{ name := "serialVersionUID", type := .long, accessFlags := 26, slot := 0, constantValue := 0 }]
  methods := #[k5m0]
  instanceTypes := #[]
  staticTypes := #[.long]
  resolved := Array.replicate 37 none
  statics := none }

def pool6 : Array CpInfo := pool [(1, .class_ 2), (0, u "java/lang/Comparable"), (0, .class_ 4), (0, u "java/lang/Object")] 7

/-- java/lang/Comparable -/
def k6 : Class := { plain "java/lang/Comparable" (some 0) with
  accessFlags := 1537
  interfaces := #[]
  cf := some (fileOf pool6 1 #[] #[] 1537 3 #[] #[])
  fields := #[]
  methods := #[]
  instanceTypes := #[]
  staticTypes := #[]
  resolved := Array.replicate 12 none
  statics := none }

def pool7 : Array CpInfo := pool [(1, .class_ 2), (0, u "java/lang/constant/Constable"), (0, .class_ 4), (0, u "java/lang/Object")] 6

/-- java/lang/constant/Constable -/
def k7 : Class := { plain "java/lang/constant/Constable" (some 0) with
  accessFlags := 1537
  interfaces := #[]
  cf := some (fileOf pool7 1 #[] #[] 1537 3 #[] #[])
  fields := #[]
  methods := #[]
  instanceTypes := #[]
  staticTypes := #[]
  resolved := Array.replicate 11 none
  statics := none }

def pool8 : Array CpInfo := pool [(1, .class_ 2), (0, u "java/lang/constant/ConstantDesc"), (0, .class_ 4), (0, u "java/lang/Object")] 32

/-- java/lang/constant/ConstantDesc -/
def k8 : Class := { plain "java/lang/constant/ConstantDesc" (some 0) with
  accessFlags := 1537
  interfaces := #[]
  cf := some (fileOf pool8 1 #[] #[] 1537 3 #[] #[])
  fields := #[]
  methods := #[]
  instanceTypes := #[]
  staticTypes := #[]
  resolved := Array.replicate 37 none
  statics := none }

def pool9 : Array CpInfo := pool [(1, .class_ 2), (0, u "java/lang/Long"), (165, .long 9223372036854775808), (66, .class_ 237), (1, u "java/lang/Long$LongCache"), (33, .class_ 272), (0, u "java/lang/Number"), (2, u "value"), (0, u "J"), (25, .methodref 1 303), (0, .nameAndType 304 305), (0, u "compare"), (0, u "(JJ)I"), (55, u "TYPE"), (0, u "Ljava/lang/Class;"), (0, .class_ 364), (0, u "java/lang/Comparable"), (0, .class_ 366), (0, u "java/lang/constant/Constable"), (0, .class_ 368), (0, u "java/lang/constant/ConstantDesc"), (0, u "MIN_VALUE"), (1, u "MAX_VALUE"), (4, u "SIZE"), (0, u "I"), (1, u "BYTES"), (1, u "serialVersionUID"), (87, u "compareUnsigned")] 54

def k9c0 : Code := { maxStack := 4, maxLocals := 4, code := jdk_35_method_42_code, exceptionTable := #[], attributes := #[] }
def k9m0 : Method := { name := "compare", desc := "(JJ)I", sig := { parameters := [.long, .long], returnType := some .int }, accessFlags := 9, code := some k9c0 }
def k9c1 : Code := { maxStack := 6, maxLocals := 4, code := jdk_35_method_43_code, exceptionTable := #[], attributes := #[] }
def k9m1 : Method := { name := "compareUnsigned", desc := "(JJ)I", sig := { parameters := [.long, .long], returnType := some .int }, accessFlags := 9, code := some k9c1 }
/-- java/lang/Long -/
def k9 : Class := { plain "java/lang/Long" (some 5) with
  accessFlags := 49
  interfaces := #[6, 7, 8]
  cf := some (fileOf pool9 1 #[.nestMembers #[235]] #[{ accessFlags := 9, nameIndex := 304, descriptorIndex := 305, attributes := #[] }, { accessFlags := 9, nameIndex := 469, descriptorIndex := 305, attributes := #[] }] 49 271 #[363, 365, 367] #[{ accessFlags := 25, nameIndex := 369, descriptorIndex := 276, attributes := #[] }, { accessFlags := 25, nameIndex := 371, descriptorIndex := 276, attributes := #[] }, { accessFlags := 25, nameIndex := 361, descriptorIndex := 362, attributes := #[] }, { accessFlags := 18, nameIndex := 275, descriptorIndex := 276, attributes := #[] }, { accessFlags := 25, nameIndex := 376, descriptorIndex := 377, attributes := #[] }, { accessFlags := 25, nameIndex := 379, descriptorIndex := 377, attributes := #[] }, { accessFlags := 26, nameIndex := 381, descriptorIndex := 276, attributes := #[] }])
  fields := #[{ name := "MIN_VALUE", type := .long, accessFlags := 25, slot := 0, constantValue := 0 }, { name := "MAX_VALUE", type := .long, accessFlags := 25, slot := 1, constantValue := 0 }, { name := "TYPE", type := (.object "java/lang/Class"), accessFlags := 25, slot := 2, constantValue := 0 }, { name := "value", type := .long, accessFlags := 18, slot := 0, constantValue := 0 }, { name := "SIZE", type := .int, accessFlags := 25, slot := 3, constantValue := 0 }, { name := "BYTES", type := .int, accessFlags := 25, slot := 4, constantValue := 0 }, { name := "serialVersionUID", type := .long, accessFlags := 26, slot := 5, constantValue := 0 }]
  methods := #[k9m0, k9m1]
  instanceTypes := #[.long]
  staticTypes := #[.long, .long, (.object "java/lang/Class"), .int, .int, .long]
  resolved := Array.replicate 524 none
  statics := none }

def pool10 : Array CpInfo := pool [(2, .class_ 4), (1, u "java/lang/Object"), (0, u "<init>"), (0, u "()V"), (7, .class_ 16), (1, u "java/util/Arrays"), (57, .class_ 76), (1, u "java/util/Arrays$NaturalOrder"), (36, .class_ 115), (1, u "java/util/Arrays$LegacyMergeSort"), (1, u "Z"), (21, u "copyOfRange"), (10, .methodref 151 152), (0, .class_ 153), (0, .nameAndType 154 155), (0, u "java/lang/System"), (0, u "arraycopy"), (0, u "(Ljava/lang/Object;ILjava/lang/Object;II)V"), (148, .methodref 305 306), (0, .class_ 307), (0, .nameAndType 308 309), (0, u "java/lang/Math"), (0, u "min"), (0, u "(II)I"), (29, .methodref 14 340), (0, .nameAndType 341 342), (0, u "copyOfRangeByte"), (0, u "([BII)[B"), (0, .methodref 14 344), (0, .nameAndType 345 346), (0, u "checkLength"), (0, u "(II)V"), (28, .class_ 376), (0, u "java/util/Arrays$ArrayList"), (68, u "$assertionsDisabled"), (269, u "MIN_ARRAY_SORT_GRAN"), (0, u "I"), (2, u "INSERTIONSORT_THRESHOLD"), (255, .class_ 976), (0, u "java/util/Arrays$ArrayItr")] 52

def k10m0 : Method := { name := "<init>", desc := "()V", sig := { parameters := [], returnType := none }, accessFlags := 2, code := none }
def k10c1 : Code := { maxStack := 4, maxLocals := 2, code := jdk_65_method_131_code, exceptionTable := #[], attributes := #[] }
def k10m1 : Method := { name := "checkLength", desc := "(II)V", sig := { parameters := [.int, .int], returnType := none }, accessFlags := 10, code := some k10c1 }
def k10c2 : Code := { maxStack := 3, maxLocals := 3, code := jdk_65_method_132_code, exceptionTable := #[], attributes := #[] }
def k10m2 : Method := { name := "copyOfRange", desc := "([BII)[B", sig := { parameters := [(.array .byte), .int, .int], returnType := some (.array .byte) }, accessFlags := 9, code := some k10c2 }
def k10c3 : Code := { maxStack := 6, maxLocals := 5, code := jdk_65_method_133_code, exceptionTable := #[], attributes := #[] }
def k10m3 : Method := { name := "copyOfRangeByte", desc := "([BII)[B", sig := { parameters := [(.array .byte), .int, .int], returnType := some (.array .byte) }, accessFlags := 10, code := some k10c3 }
/-- java/util/Arrays -/
def k10 : Class := { plain "java/util/Arrays" (some 0) with
  accessFlags := 49
  interfaces := #[]
  cf := some (fileOf pool10 14 #[.nestMembers #[975, 375, 113, 74]] #[{ accessFlags := 2, nameIndex := 5, descriptorIndex := 6, attributes := #[] }, { accessFlags := 10, nameIndex := 345, descriptorIndex := 346, attributes := #[] }, { accessFlags := 9, nameIndex := 139, descriptorIndex := 342, attributes := #[] }, { accessFlags := 10, nameIndex := 341, descriptorIndex := 342, attributes := #[] }] 49 2 #[] #[{ accessFlags := 26, nameIndex := 715, descriptorIndex := 716, attributes := #[] }, { accessFlags := 26, nameIndex := 719, descriptorIndex := 716, attributes := #[] }, { accessFlags := 4120, nameIndex := 445, descriptorIndex := 117, attributes := #[] }])
  fields := #[{ name := "MIN_ARRAY_SORT_GRAN", type := .int, accessFlags := 26, slot := 0, constantValue := 0 }, { name := "INSERTIONSORT_THRESHOLD", type := .int, accessFlags := 26, slot := 1, constantValue := 0 }, { name := "$assertionsDisabled", type := .boolean, accessFlags := 4120, slot := 2, constantValue := 0 }]
  methods := #[k10m0, k10m1, k10m2, k10m3]
  instanceTypes := #[]
  staticTypes := #[.int, .int, .boolean]
  resolved := Array.replicate 1029 none
  statics := none }

def pool11 : Array CpInfo := pool [(1, .class_ 2), (0, u "java/lang/Math"), (1, .class_ 6), (1, u "java/lang/Object"), (0, u "<init>"), (0, u "()V"), (89, .class_ 100), (1, u "java/lang/Math$RandomNumberGeneratorHolder"), (71, u "negativeZeroFloatBits"), (0, u "J"), (2, u "negativeZeroDoubleBits"), (24, u "min"), (43, u "$assertionsDisabled"), (0, u "Z"), (88, u "(II)I"), (2, u "twoToTheDoubleScaleDown"), (0, u "D"), (4, u "twoToTheDoubleScaleUp"), (9, u "E"), (3, u "PI"), (2, u "TAU"), (2, u "DEGREES_TO_RADIANS"), (0, u "RADIANS_TO_DEGREES")] 94

def k11m0 : Method := { name := "<init>", desc := "()V", sig := { parameters := [], returnType := none }, accessFlags := 2, code := none }
def k11c1 : Code := { maxStack := 2, maxLocals := 2, code := jdk_29_method_69_code, exceptionTable := #[], attributes := #[] }
def k11m1 : Method := { name := "min", desc := "(II)I", sig := { parameters := [.int, .int], returnType := some .int }, accessFlags := 9, code := some k11c1 }
/-- java/lang/Math -/
def k11 : Class := { plain "java/lang/Math" (some 0) with
  accessFlags := 49
  interfaces := #[]
  cf := some (fileOf pool11 1 #[.nestMembers #[98]] #[{ accessFlags := 2, nameIndex := 7, descriptorIndex := 8, attributes := #[] }, { accessFlags := 9, nameIndex := 201, descriptorIndex := 335, attributes := #[] }] 49 4 #[] #[{ accessFlags := 25, nameIndex := 354, descriptorIndex := 339, attributes := #[] }, { accessFlags := 25, nameIndex := 358, descriptorIndex := 339, attributes := #[] }, { accessFlags := 25, nameIndex := 361, descriptorIndex := 339, attributes := #[] }, { accessFlags := 26, nameIndex := 364, descriptorIndex := 339, attributes := #[] }, { accessFlags := 26, nameIndex := 365, descriptorIndex := 339, attributes := #[] }, { accessFlags := 26, nameIndex := 172, descriptorIndex := 173, attributes := #[] }, { accessFlags := 26, nameIndex := 176, descriptorIndex := 173, attributes := #[] }, { accessFlags := 8, nameIndex := 344, descriptorIndex := 339, attributes := #[] }, { accessFlags := 8, nameIndex := 338, descriptorIndex := 339, attributes := #[] }, { accessFlags := 4120, nameIndex := 245, descriptorIndex := 246, attributes := #[] }])
  fields := #[{ name := "E", type := .double, accessFlags := 25, slot := 0, constantValue := 0 }, { name := "PI", type := .double, accessFlags := 25, slot := 1, constantValue := 0 }, { name := "TAU", type := .double, accessFlags := 25, slot := 2, constantValue := 0 }, { name := "DEGREES_TO_RADIANS", type := .double, accessFlags := 26, slot := 3, constantValue := 0 }, { name := "RADIANS_TO_DEGREES", type := .double, accessFlags := 26, slot := 4, constantValue := 0 }, { name := "negativeZeroFloatBits", type := .long, accessFlags := 26, slot := 5, constantValue := 0 }, { name := "negativeZeroDoubleBits", type := .long, accessFlags := 26, slot := 6, constantValue := 0 }, { name := "twoToTheDoubleScaleUp", type := .double, accessFlags := 8, slot := 7, constantValue := 0 }, { name := "twoToTheDoubleScaleDown", type := .double, accessFlags := 8, slot := 8, constantValue := 0 }, { name := "$assertionsDisabled", type := .boolean, accessFlags := 4120, slot := 9, constantValue := 0 }]
  methods := #[k11m0, k11m1]
  instanceTypes := #[]
  staticTypes := #[.double, .double, .double, .double, .double, .long, .long, .double, .double, .boolean]
  resolved := Array.replicate 460 none
  statics := none }

def pool12 : Array CpInfo := pool [(2, .class_ 4), (1, u "java/lang/Object"), (0, u "<init>"), (0, u "()V"), (1, .class_ 10), (1, u "java/lang/System"), (0, u "allowSecurityManager"), (0, u "I"), (16, u "cons"), (0, u "Ljava/io/Console;"), (77, .class_ 110), (1, u "java/lang/System$CallersHolder"), (43, u "initialErrStream"), (0, u "Ljava/io/PrintStream;"), (19, u "security"), (0, u "Ljava/lang/SecurityManager;"), (31, .class_ 209), (0, u "java/lang/System$1"), (7, u "props"), (0, u "Ljava/util/Properties;"), (2, u "lineSeparator"), (0, u "Ljava/lang/String;"), (96, .class_ 321), (1, u "java/lang/System$LoggerFinder"), (5, .class_ 328), (0, u "java/lang/System$Logger"), (67, u "err"), (2, u "out"), (91, u "notSupportedJnuEncoding"), (15, u "in"), (17, u "initialIn"), (0, u "Ljava/io/InputStream;"), (35, u "bootLayer"), (0, u "Ljava/lang/ModuleLayer;"), (99, .class_ 664), (0, u "java/lang/System$2"), (9, u "NEVER"), (2, u "MAYBE"), (49, u "arraycopy"), (0, u "(Ljava/lang/Object;ILjava/lang/Object;II)V"), (72, .class_ 802), (0, u "java/lang/System$Logger$Level")] 31

def k12m0 : Method := { name := "<init>", desc := "()V", sig := { parameters := [], returnType := none }, accessFlags := 2, code := none }
def k12m1 : Method := { name := "arraycopy", desc := "(Ljava/lang/Object;ILjava/lang/Object;II)V", sig := { parameters := [(.object "java/lang/Object"), .int, (.object "java/lang/Object"), .int, .int], returnType := none }, accessFlags := 265, code := none }
/-- java/lang/System -/
def k12 : Class := { plain "java/lang/System" (some 0) with
  accessFlags := 49
  interfaces := #[]
  cf := some (fileOf pool12 8 #[.nestMembers #[319, 327, 801, 108, 663, 208]] #[{ accessFlags := 2, nameIndex := 5, descriptorIndex := 6, attributes := #[] }, { accessFlags := 265, nameIndex := 727, descriptorIndex := 728, attributes := #[] }] 49 2 #[] #[{ accessFlags := 25, nameIndex := 507, descriptorIndex := 526, attributes := #[] }, { accessFlags := 25, nameIndex := 399, descriptorIndex := 155, attributes := #[] }, { accessFlags := 25, nameIndex := 396, descriptorIndex := 155, attributes := #[] }, { accessFlags := 10, nameIndex := 525, descriptorIndex := 526, attributes := #[] }, { accessFlags := 26, nameIndex := 674, descriptorIndex := 12, attributes := #[] }, { accessFlags := 26, nameIndex := 677, descriptorIndex := 12, attributes := #[] }, { accessFlags := 10, nameIndex := 11, descriptorIndex := 12, attributes := #[] }, { accessFlags := 74, nameIndex := 175, descriptorIndex := 176, attributes := #[] }, { accessFlags := 10, nameIndex := 491, descriptorIndex := 222, attributes := #[] }, { accessFlags := 74, nameIndex := 29, descriptorIndex := 30, attributes := #[] }, { accessFlags := 74, nameIndex := 154, descriptorIndex := 155, attributes := #[] }, { accessFlags := 10, nameIndex := 217, descriptorIndex := 218, attributes := #[] }, { accessFlags := 10, nameIndex := 221, descriptorIndex := 222, attributes := #[] }, { accessFlags := 8, nameIndex := 562, descriptorIndex := 563, attributes := #[] }])
  fields := #[{ name := "in", type := (.object "java/io/InputStream"), accessFlags := 25, slot := 0, constantValue := 0 }, { name := "out", type := (.object "java/io/PrintStream"), accessFlags := 25, slot := 1, constantValue := 0 }, { name := "err", type := (.object "java/io/PrintStream"), accessFlags := 25, slot := 2, constantValue := 0 }, { name := "initialIn", type := (.object "java/io/InputStream"), accessFlags := 10, slot := 3, constantValue := 0 }, { name := "NEVER", type := .int, accessFlags := 26, slot := 4, constantValue := 0 }, { name := "MAYBE", type := .int, accessFlags := 26, slot := 5, constantValue := 0 }, { name := "allowSecurityManager", type := .int, accessFlags := 10, slot := 6, constantValue := 0 }, { name := "security", type := (.object "java/lang/SecurityManager"), accessFlags := 74, slot := 7, constantValue := 0 }, { name := "notSupportedJnuEncoding", type := (.object "java/lang/String"), accessFlags := 10, slot := 8, constantValue := 0 }, { name := "cons", type := (.object "java/io/Console"), accessFlags := 74, slot := 9, constantValue := 0 }, { name := "initialErrStream", type := (.object "java/io/PrintStream"), accessFlags := 74, slot := 10, constantValue := 0 }, { name := "props", type := (.object "java/util/Properties"), accessFlags := 10, slot := 11, constantValue := 0 }, { name := "lineSeparator", type := (.object "java/lang/String"), accessFlags := 10, slot := 12, constantValue := 0 }, { name := "bootLayer", type := (.object "java/lang/ModuleLayer"), accessFlags := 8, slot := 13, constantValue := 0 }]
  methods := #[k12m0, k12m1]
  instanceTypes := #[]
  staticTypes := #[(.object "java/io/InputStream"), (.object "java/io/PrintStream"), (.object "java/io/PrintStream"), (.object "java/io/InputStream"), .int, .int, .int, (.object "java/lang/SecurityManager"), (.object "java/lang/String"), (.object "java/io/Console"), (.object "java/io/PrintStream"), (.object "java/util/Properties"), (.object "java/lang/String"), (.object "java/lang/ModuleLayer")]
  resolved := Array.replicate 834 none
  statics := none }

def pool13 : Array CpInfo := pool [(1, u "java/lang/Cloneable"), (0, .class_ 1), (0, u "java/lang/Object"), (0, .class_ 3)] 3

/-- java/lang/Cloneable -/
def k13 : Class := { plain "java/lang/Cloneable" (some 0) with
  accessFlags := 1537
  interfaces := #[]
  cf := some (fileOf pool13 2 #[] #[] 1537 4 #[] #[])
  fields := #[]
  methods := #[]
  instanceTypes := #[]
  staticTypes := #[]
  resolved := Array.replicate 8 none
  statics := none }

/-- the primitive byte -/
def k14 : Class := { plain "byte" none with kind := .primitive 'B', accessFlags := 0x411 }
/-- [B -/
def k15 : Class := { plain "[B" (some 0) with kind := .array 14 .byte, interfaces := #[13, 4], accessFlags := 1041 }

/-- the primitive int -/
def k16 : Class := { plain "int" none with kind := .primitive 'I', accessFlags := 0x411 }
/-- [I -/
def k17 : Class := { plain "[I" (some 0) with kind := .array 16 .int, interfaces := #[13, 4], accessFlags := 1041 }

def heap : Heap := #[]
def classes : Array Class := #[k0, k1, k2, k3, k4, k5, k6, k7, k8, k9, k10, k11, k12, k13, k14, k15, k16, k17]
def interned : List (Array UInt16 × Addr) := []
def slotsUsed : Nat := 0
def theMethod : MethodId := ⟨1, 1⟩
def args0 : Array Value := #[.int 3, .int 4, .int 5, .int 6]
def aboutOver (below : List Frame) : State where
  vm := { classes := classes, interned := interned.toArray }
  heap := heap
  slotsUsed := slotsUsed
  threads := #[{ frames := .invoking theMethod args0 :: below }]
def below0 : List Frame := [.native { method := ⟨0, 0⟩, args := #[] }]
def about1 : State := aboutOver below0
def p0 : Program := .bare "" "" ""
def e0 : Env := launch0.env 0 0 0
theorem w_frames : about1.frames = Frame.invoking theMethod args0 :: below0 := rfl
set_option maxRecDepth 65536 in
theorem w_args : argsFit about1.vm theMethod args0 = true := by decide +kernel
set_option maxRecDepth 65536 in
theorem w_heap : heapFits about1 = true := by decide +kernel
set_option maxRecDepth 65536 in
theorem w_runnable : about1.curStatus? = some .runnable := by decide +kernel
set_option maxRecDepth 65536 in
theorem w_alone : about1.alone = true := by decide +kernel
set_option maxRecDepth 65536 in
theorem w_named : about1.methodNamed? x = some theMethod := by decide +kernel
set_option maxRecDepth 65536 in
theorem w_hears : about1.hears theMethod below0 = true := by decide +kernel
set_option maxRecDepth 65536 in
theorem w_ripe : about1.ripe theMethod args0 below0 = true := by decide +kernel
theorem w_running : about1.status = .running := rfl
set_option maxRecDepth 65536 in
theorem w_room : about1.hasRoom e0.platform room_1 = true :=
  launch0.hasRoom_least _ room_1 (by decide +kernel) (by decide +kernel) (by decide +kernel) (by decide +kernel) (by decide +kernel) (by decide +kernel)
theorem allAtoms_all (ts : List Jvm.Cond) (a : Array Jvm.Value) (st : Jvm.State) : (allAtoms ts).before a st = ts.all (fun c => c.before a st) := by
  induction ts with
  | nil => rfl
  | cons c t ih =>
    show (Jvm.Cond.and c (allAtoms t)).before a st = _
    rw [Jvm.Cond.before_and, ih, List.all_cons]
def words1 : List Jvm.Cond := Jvm.Cond.code x code maxLocals ret :: tables_1
/-- a 'code' word, met by the world's own term for the bytes: nothing is compared byte by byte -/
theorem code_word {y : MethodName} {bytes : ByteArray} {mx : Nat} {rt : Option FieldType} {a : Array Value} {s : State} {m : MethodId} {meth : Method} {c : Code} (h1 : s.methodNamed? y = some m) (h2 : s.vm.method? m = some meth) (h3 : meth.code = some c) (h4 : c.code = bytes)
    (h5 : (c.maxLocals == mx && c.exceptionTable.isEmpty && decide (c.maxStack ≤ mostOperands) && decide (meth.sig.returnType = rt) && !meth.locks && decide (parseMethodDescriptor y.desc = some meth.sig)) = true) : (Jvm.Cond.code y bytes mx rt).before a s = true := by
  simp only [Bool.and_eq_true, beq_iff_eq, Bool.not_eq_true', decide_eq_true_eq] at h5
  obtain ⟨⟨⟨⟨⟨g1, g2⟩, g3⟩, g4⟩, g5⟩, g6⟩ := h5
  simp [Cond.before, Cond.holds, Cond.value, h1, h2, h3, h4, g1, g2, g3, g4, g5, g6]
def isCode : Jvm.Cond → Bool
  | .code _ _ _ _ => true
  | _ => false
theorem all_split {L : List Jvm.Cond} {P : Jvm.Cond → Bool} (h1 : L.all (fun c => isCode c || P c) = true) (h2 : ∀ c ∈ L.filter isCode, P c = true) : L.all P = true := by
  refine List.all_eq_true.mpr fun c hc => ?_
  have h := List.all_eq_true.mp h1 c hc
  rcases Bool.eq_false_or_eq_true (isCode c) with hi | hi
  · exact h2 c (List.mem_filter.mpr ⟨hc, hi⟩)
  · simpa [hi] using h
set_option maxRecDepth 65536 in
theorem w_c0 : (Jvm.Cond.code x code maxLocals ret).before args0 about1 = true := code_word (m := ⟨1, 1⟩) (meth := k1m1) (c := k1c1) (by decide +kernel) rfl rfl rfl (by decide +kernel)
set_option maxRecDepth 65536 in
theorem w_c1 : (Jvm.Cond.code ({ cls := "com/example/wireform/wireform/wire/Nesting", name := "<init>", desc := "(I)V" } : Jvm.MethodName) prog_67_method_1_code (2 : Nat) (Option.none : Option Jvm.ClassFile.FieldType)).before args0 about1 = true := code_word (m := ⟨3, 0⟩) (meth := k3m0) (c := k3c0) (by decide +kernel) rfl rfl rfl (by decide +kernel)
set_option maxRecDepth 65536 in
theorem w_c2 : (Jvm.Cond.code ({ cls := "java/lang/Object", name := "<init>", desc := "()V" } : Jvm.MethodName) object_method_1_code (1 : Nat) (Option.none : Option Jvm.ClassFile.FieldType)).before args0 about1 = true := code_word (m := ⟨0, 0⟩) (meth := k0m0) (c := k0c0) (by decide +kernel) rfl rfl rfl (by decide +kernel)
set_option maxRecDepth 65536 in
theorem w_c3 : (Jvm.Cond.code ({ cls := "com/example/wireform/wireform/wire/WireReader", name := "<init>", desc := "([BILcom/example/wireform/wireform/wire/Nesting;)V" } : Jvm.MethodName) prog_71_method_3_code (4 : Nat) (Option.none : Option Jvm.ClassFile.FieldType)).before args0 about1 = true := code_word (m := ⟨2, 0⟩) (meth := k2m0) (c := k2c0) (by decide +kernel) rfl rfl rfl (by decide +kernel)
set_option maxRecDepth 65536 in
theorem w_c4 : (Jvm.Cond.code ({ cls := "com/example/wireform/wireform/wire/WireReader", name := "isAtEnd", desc := "()Z" } : Jvm.MethodName) prog_71_method_4_code (1 : Nat) (Option.some Jvm.ClassFile.FieldType.boolean)).before args0 about1 = true := code_word (m := ⟨2, 1⟩) (meth := k2m1) (c := k2c1) (by decide +kernel) rfl rfl rfl (by decide +kernel)
set_option maxRecDepth 65536 in
theorem w_c5 : (Jvm.Cond.code ({ cls := "com/example/wireform/wireform/wire/WireReader", name := "readBytes", desc := "()[B" } : Jvm.MethodName) prog_71_method_11_code (3 : Nat) (Option.some (Jvm.ClassFile.FieldType.array Jvm.ClassFile.FieldType.byte))).before args0 about1 = true := code_word (m := ⟨2, 3⟩) (meth := k2m3) (c := k2c3) (by decide +kernel) rfl rfl rfl (by decide +kernel)
set_option maxRecDepth 65536 in
theorem w_c6 : (Jvm.Cond.code ({ cls := "com/example/wireform/wireform/wire/WireReader", name := "readLength", desc := "()I" } : Jvm.MethodName) prog_71_method_18_code (4 : Nat) (Option.some Jvm.ClassFile.FieldType.int)).before args0 about1 = true := code_word (m := ⟨2, 6⟩) (meth := k2m6) (c := k2c6) (by decide +kernel) rfl rfl rfl (by decide +kernel)
set_option maxRecDepth 65536 in
theorem w_c7 : (Jvm.Cond.code ({ cls := "com/example/wireform/wireform/wire/WireReader", name := "readVarint", desc := "()J" } : Jvm.MethodName) prog_71_method_5_code (6 : Nat) (Option.some Jvm.ClassFile.FieldType.long)).before args0 about1 = true := code_word (m := ⟨2, 2⟩) (meth := k2m2) (c := k2c2) (by decide +kernel) rfl rfl rfl (by decide +kernel)
set_option maxRecDepth 65536 in
theorem w_c8 : (Jvm.Cond.code ({ cls := "java/lang/Long", name := "compareUnsigned", desc := "(JJ)I" } : Jvm.MethodName) jdk_35_method_43_code (4 : Nat) (Option.some Jvm.ClassFile.FieldType.int)).before args0 about1 = true := code_word (m := ⟨9, 1⟩) (meth := k9m1) (c := k9c1) (by decide +kernel) rfl rfl rfl (by decide +kernel)
set_option maxRecDepth 65536 in
theorem w_c9 : (Jvm.Cond.code ({ cls := "java/lang/Long", name := "compare", desc := "(JJ)I" } : Jvm.MethodName) jdk_35_method_42_code (4 : Nat) (Option.some Jvm.ClassFile.FieldType.int)).before args0 about1 = true := code_word (m := ⟨9, 0⟩) (meth := k9m0) (c := k9c0) (by decide +kernel) rfl rfl rfl (by decide +kernel)
set_option maxRecDepth 65536 in
theorem w_c10 : (Jvm.Cond.code ({ cls := "java/util/Arrays", name := "copyOfRange", desc := "([BII)[B" } : Jvm.MethodName) jdk_65_method_132_code (3 : Nat) (Option.some (Jvm.ClassFile.FieldType.array Jvm.ClassFile.FieldType.byte))).before args0 about1 = true := code_word (m := ⟨10, 2⟩) (meth := k10m2) (c := k10c2) (by decide +kernel) rfl rfl rfl (by decide +kernel)
set_option maxRecDepth 65536 in
theorem w_c11 : (Jvm.Cond.code ({ cls := "java/util/Arrays", name := "copyOfRangeByte", desc := "([BII)[B" } : Jvm.MethodName) jdk_65_method_133_code (5 : Nat) (Option.some (Jvm.ClassFile.FieldType.array Jvm.ClassFile.FieldType.byte))).before args0 about1 = true := code_word (m := ⟨10, 3⟩) (meth := k10m3) (c := k10c3) (by decide +kernel) rfl rfl rfl (by decide +kernel)
set_option maxRecDepth 65536 in
theorem w_c12 : (Jvm.Cond.code ({ cls := "java/util/Arrays", name := "checkLength", desc := "(II)V" } : Jvm.MethodName) jdk_65_method_131_code (2 : Nat) (Option.none : Option Jvm.ClassFile.FieldType)).before args0 about1 = true := code_word (m := ⟨10, 1⟩) (meth := k10m1) (c := k10c1) (by decide +kernel) rfl rfl rfl (by decide +kernel)
set_option maxRecDepth 65536 in
theorem w_c13 : (Jvm.Cond.code ({ cls := "java/lang/Math", name := "min", desc := "(II)I" } : Jvm.MethodName) jdk_29_method_69_code (2 : Nat) (Option.some Jvm.ClassFile.FieldType.int)).before args0 about1 = true := code_word (m := ⟨11, 1⟩) (meth := k11m1) (c := k11c1) (by decide +kernel) rfl rfl rfl (by decide +kernel)
set_option maxRecDepth 65536 in
theorem w_c14 : (Jvm.Cond.code ({ cls := "com/example/wireform/wireform/wire/WireReader", name := "beginLengthDelimited", desc := "()I" } : Jvm.MethodName) prog_71_method_12_code (3 : Nat) (Option.some Jvm.ClassFile.FieldType.int)).before args0 about1 = true := code_word (m := ⟨2, 4⟩) (meth := k2m4) (c := k2c4) (by decide +kernel) rfl rfl rfl (by decide +kernel)
set_option maxRecDepth 65536 in
theorem w_c15 : (Jvm.Cond.code ({ cls := "com/example/wireform/wireform/wire/WireReader", name := "endLengthDelimited", desc := "(I)V" } : Jvm.MethodName) prog_71_method_13_code (2 : Nat) (Option.none : Option Jvm.ClassFile.FieldType)).before args0 about1 = true := code_word (m := ⟨2, 5⟩) (meth := k2m5) (c := k2c5) (by decide +kernel) rfl rfl rfl (by decide +kernel)
def codes1 : List Jvm.Cond := [Jvm.Cond.code x code maxLocals ret, Jvm.Cond.code ({ cls := "com/example/wireform/wireform/wire/Nesting", name := "<init>", desc := "(I)V" } : Jvm.MethodName) prog_67_method_1_code (2 : Nat) (Option.none : Option Jvm.ClassFile.FieldType), Jvm.Cond.code ({ cls := "java/lang/Object", name := "<init>", desc := "()V" } : Jvm.MethodName) object_method_1_code (1 : Nat) (Option.none : Option Jvm.ClassFile.FieldType), Jvm.Cond.code ({ cls := "com/example/wireform/wireform/wire/WireReader", name := "<init>", desc := "([BILcom/example/wireform/wireform/wire/Nesting;)V" } : Jvm.MethodName) prog_71_method_3_code (4 : Nat) (Option.none : Option Jvm.ClassFile.FieldType), Jvm.Cond.code ({ cls := "com/example/wireform/wireform/wire/WireReader", name := "isAtEnd", desc := "()Z" } : Jvm.MethodName) prog_71_method_4_code (1 : Nat) (Option.some Jvm.ClassFile.FieldType.boolean), Jvm.Cond.code ({ cls := "com/example/wireform/wireform/wire/WireReader", name := "readBytes", desc := "()[B" } : Jvm.MethodName) prog_71_method_11_code (3 : Nat) (Option.some (Jvm.ClassFile.FieldType.array Jvm.ClassFile.FieldType.byte)), Jvm.Cond.code ({ cls := "com/example/wireform/wireform/wire/WireReader", name := "readLength", desc := "()I" } : Jvm.MethodName) prog_71_method_18_code (4 : Nat) (Option.some Jvm.ClassFile.FieldType.int), Jvm.Cond.code ({ cls := "com/example/wireform/wireform/wire/WireReader", name := "readVarint", desc := "()J" } : Jvm.MethodName) prog_71_method_5_code (6 : Nat) (Option.some Jvm.ClassFile.FieldType.long), Jvm.Cond.code ({ cls := "java/lang/Long", name := "compareUnsigned", desc := "(JJ)I" } : Jvm.MethodName) jdk_35_method_43_code (4 : Nat) (Option.some Jvm.ClassFile.FieldType.int), Jvm.Cond.code ({ cls := "java/lang/Long", name := "compare", desc := "(JJ)I" } : Jvm.MethodName) jdk_35_method_42_code (4 : Nat) (Option.some Jvm.ClassFile.FieldType.int), Jvm.Cond.code ({ cls := "java/util/Arrays", name := "copyOfRange", desc := "([BII)[B" } : Jvm.MethodName) jdk_65_method_132_code (3 : Nat) (Option.some (Jvm.ClassFile.FieldType.array Jvm.ClassFile.FieldType.byte)), Jvm.Cond.code ({ cls := "java/util/Arrays", name := "copyOfRangeByte", desc := "([BII)[B" } : Jvm.MethodName) jdk_65_method_133_code (5 : Nat) (Option.some (Jvm.ClassFile.FieldType.array Jvm.ClassFile.FieldType.byte)), Jvm.Cond.code ({ cls := "java/util/Arrays", name := "checkLength", desc := "(II)V" } : Jvm.MethodName) jdk_65_method_131_code (2 : Nat) (Option.none : Option Jvm.ClassFile.FieldType), Jvm.Cond.code ({ cls := "java/lang/Math", name := "min", desc := "(II)I" } : Jvm.MethodName) jdk_29_method_69_code (2 : Nat) (Option.some Jvm.ClassFile.FieldType.int), Jvm.Cond.code ({ cls := "com/example/wireform/wireform/wire/WireReader", name := "beginLengthDelimited", desc := "()I" } : Jvm.MethodName) prog_71_method_12_code (3 : Nat) (Option.some Jvm.ClassFile.FieldType.int), Jvm.Cond.code ({ cls := "com/example/wireform/wireform/wire/WireReader", name := "endLengthDelimited", desc := "(I)V" } : Jvm.MethodName) prog_71_method_13_code (2 : Nat) (Option.none : Option Jvm.ClassFile.FieldType)]
set_option maxRecDepth 65536 in
theorem codes_eq : words1.filter isCode = codes1 := rfl
theorem w_codes : ∀ c ∈ words1.filter isCode, c.before args0 about1 = true := by
  rw [codes_eq]
  intro c hc
  simp only [codes1, List.mem_cons, List.not_mem_nil, or_false] at hc
  rcases hc with rfl | rfl | rfl | rfl | rfl | rfl | rfl | rfl | rfl | rfl | rfl | rfl | rfl | rfl | rfl | rfl
  · exact w_c0
  · exact w_c1
  · exact w_c2
  · exact w_c3
  · exact w_c4
  · exact w_c5
  · exact w_c6
  · exact w_c7
  · exact w_c8
  · exact w_c9
  · exact w_c10
  · exact w_c11
  · exact w_c12
  · exact w_c13
  · exact w_c14
  · exact w_c15
set_option maxRecDepth 65536 in
theorem w_t1 : (words1.take 24).all (fun c => isCode c || c.before args0 about1) = true := by decide +kernel
set_option maxRecDepth 65536 in
theorem w_t2 : ((words1.drop 24).take 24).all (fun c => isCode c || c.before args0 about1) = true := by decide +kernel
set_option maxRecDepth 65536 in
theorem w_t3 : (((words1.drop 24).drop 24).take 24).all (fun c => isCode c || c.before args0 about1) = true := by decide +kernel
set_option maxRecDepth 65536 in
theorem w_t4 : (((words1.drop 24).drop 24).drop 24).all (fun c => isCode c || c.before args0 about1) = true := by decide +kernel
theorem w_tables : (allAtoms (Jvm.Cond.code x code maxLocals ret :: tables_1)).before args0 about1 = true := by
  rw [allAtoms_all]
  show words1.all (fun c => c.before args0 about1) = true
  refine all_split ?_ w_codes
  rw [← List.take_append_drop 24 words1, List.all_append, w_t1, ← List.take_append_drop 24 (words1.drop 24), List.all_append, w_t2, ← List.take_append_drop 24 ((words1.drop 24).drop 24), List.all_append, w_t3, w_t4]
  rfl
set_option maxRecDepth 65536 in
theorem w_case : (Jvm.Cond.and given_1 narrow_1).before args0 about1 = true := by decide +kernel
theorem w_applies : (headSpec (Jvm.Cond.code x code maxLocals ret :: tables_1) room_1).applies x e0.platform about1 = true :=
  (Spec.applies_iff w_frames).mpr ⟨w_running, w_runnable, w_alone, w_named, w_hears, w_ripe, w_room, w_tables⟩
theorem atStart : AtStart classFile x code maxLocals ret World_1 tables_1 room_1 Calls_1 rest_1 Pre_1 launch0 p0 e0 about1 theMethod args0 below0 :=
  ⟨lists_1, trivial, launch0.admits_env _ _ _, launch0.least_env, fairChoices_fair.cas, fairChoices_fair.clock, w_frames, w_args, w_heap, w_applies, trivial, trivial, w_case⟩
end start1
theorem witness_1 : WitnessClaimed_1 := ⟨start1.p0, start1.e0, start1.about1, start1.theMethod, start1.args0, start1.below0, start1.atStart⟩
end Jvm.Pilot.@@N@@
