import JvmDerived
import JvmDerived.Pilot.@@N@@Statement
import JvmDerived.Pilot.@@N@@Code
set_option linter.unusedVariables false
set_option linter.unusedSimpArgs false
namespace Jvm.RoadKit
open Sem ClassFile Op Lib Jvm.Stand Jvm.Free Jvm.LawKit
section New
variable {p : Program} {l : Launch} {e : Env} {R : Room} {s : State} {m : MethodId} {args : Array Value} {below : List Frame} {meth : Method} {c : Code} {T : State} {locs : List Loc} {cells slots : Nat}
theorem retI (X : Stand p l e R s m args below meth c T locs cells slots) (hx : p.tables.exec = Jvm.exec) {pc : Nat} {Ls : Array Slot} {z : Int32} {rest : List Value} (hret : meth.sig.returnType = some .int) (hd : decode c.code pc = .ok (.ireturn, 1)) {fs : List Frame}
    (hl : ∀ (f : JFrame) (acts : List Action), f.method = m → f.locked = none → f.entered = [] → (doReturn e (T.setTop f) acts (some (.int z))).1 = T.setFrames fs) : Steps p.tables e below (T.setTop (mkF m pc Ls (.int z :: rest))) (T.setFrames fs) := by
  have hm' : T.vm.method? m = some meth := X.method'
  have hn : narrow .int (.int z) = .int z := rfl
  show Steps p.tables e below (T.setTop { method := m, pc := pc, locals := Ls, stack := _ :: rest, locked := none }) _
  jvm_step X.here [X.here.top, hx, hd, hm', hret, hn]
  first | (intro acts; rw [hl _ acts rfl rfl rfl]) | rw [hl _ _ rfl rfl rfl]
  exact Steps.refl _
theorem own_retJ (X : Stand p l e R s m args below meth c T locs cells slots) (hx : p.tables.exec = Jvm.exec) {pc : Nat} {Ls : Array Slot} {z : Int64} {rest : List Value} (hret : meth.sig.returnType = some .long) (hd : decode c.code pc = .ok (.lreturn, 1)) {fs : List Frame}
    (hl : ∀ (f : JFrame) (acts : List Action), f.method = m → f.locked = none → f.entered = [] → (doReturn e (T.setTop f) acts (some (.long z))).1 = T.setFrames fs) : Steps p.tables e below (T.setTop (mkF m pc Ls (.long z :: rest))) (T.setFrames fs) := by
  have hm' : T.vm.method? m = some meth := X.method'
  have hn : narrow .long (.long z) = .long z := rfl
  show Steps p.tables e below (T.setTop { method := m, pc := pc, locals := Ls, stack := _ :: rest, locked := none }) _
  jvm_step X.here [X.here.top, hx, hd, hm', hret, hn]
  first | (intro acts; rw [hl _ acts rfl rfl rfl]) | rw [hl _ _ rfl rfl rfl]
  exact Steps.refl _
end New
/-- from the state A the run comes to a state that P describes -/
def own_Lead (tb : Tables) (e : Env) (below : List Frame) (A : State) (P : State → Prop) : Prop := ∃ B, P B ∧ ∀ t, Steps tb e below B t → Steps tb e below A t
theorem own_st {tb : Tables} {e : Env} {below : List Frame} {A B : State} {P : State → Prop} (st : ∀ t, Steps tb e below B t → Steps tb e below A t) (h : own_Lead tb e below B P) : own_Lead tb e below A P := by
  obtain ⟨C, hp, hs⟩ := h
  exact ⟨C, hp, fun t k => st t (hs t k)⟩
theorem own_fin {tb : Tables} {e : Env} {below : List Frame} {A B : State} {P : State → Prop} (st : Steps tb e below A B) (h : P B) : own_Lead tb e below A P := ⟨B, h, fun t k => st.trans k⟩
theorem own_run {tb : Tables} {e : Env} {below : List Frame} {A : State} {K : State → Outcome → Prop} (h : own_Lead tb e below A (fun B => ∃ o, K B o)) : ∃ s₂ o, Steps tb e below A s₂ ∧ K s₂ o := by
  obtain ⟨B, ⟨o, hk⟩, st⟩ := h
  exact ⟨B, o, st B (Steps.refl _), hk⟩
/-- a boolean as an int -/
def own_b (P : Prop) [Decidable P] : Int32 := if P then 1 else 0
theorem own_b1 {P : Prop} [Decidable P] (h : P) : own_b P = 1 := if_pos h
theorem own_b0 {P : Prop} [Decidable P] (h : ¬ P) : own_b P = 0 := if_neg h
theorem own_bi {P Q : Prop} [Decidable P] [Decidable Q] (h : P ↔ Q) : own_b P = own_b Q := by
  by_cases hp : P
  · rw [own_b1 hp, own_b1 (h.mp hp)]
  · rw [own_b0 hp, own_b0 (fun q => hp (h.mpr q))]
theorem own_bj {P Q : Prop} [Decidable P] [Decidable Q] {x : Int32} (hx : x = own_b Q) (h1 : Q → P) (h2 : ¬ Q → ¬ P) : x = own_b P := by
  rw [hx]
  by_cases hq : Q
  · rw [own_b1 hq, own_b1 (h1 hq)]
  · rw [own_b0 hq, own_b0 (h2 hq)]
theorem own_bn0 {P : Prop} [Decidable P] {x : Int32} (hx : x = own_b P) (h : P) : ¬ x = 0 := by rw [hx, own_b1 h]; decide
theorem own_b00 {P : Prop} [Decidable P] {x : Int32} (hx : x = own_b P) (h : ¬ P) : x = 0 := by rw [hx, own_b0 h]
theorem own_bb {P Q : Prop} [Decidable P] [Decidable Q] {x y : Int32} (hx : x = own_b P) (hy : y = own_b Q) (h : P ↔ Q) : x = y := by rw [hx, hy, own_bi h]
theorem own_bbn {P Q : Prop} [Decidable P] [Decidable Q] {x y : Int32} (hx : x = own_b P) (hy : y = own_b Q) (h : ¬ (P ↔ Q)) : ¬ x = y := by
  rw [hx, hy]
  intro e
  apply h
  by_cases hp : P <;> by_cases hq : Q
  · exact ⟨fun _ => hq, fun _ => hp⟩
  · rw [own_b1 hp, own_b0 hq] at e; exact absurd e (by decide)
  · rw [own_b0 hp, own_b1 hq] at e; exact absurd e (by decide)
  · exact ⟨fun q => absurd q hp, fun q => absurd q hq⟩
theorem own_bnar {P : Prop} [Decidable P] : nar .boolean (own_b P) = own_b P := by
  by_cases hp : P
  · rw [own_b1 hp]; decide
  · rw [own_b0 hp]; decide
theorem own_nar {P : Prop} [Decidable P] {x : Int32} (hx : x = own_b P) : nar .boolean x = own_b P := by rw [hx]; exact own_bnar
/-- the array at a has n places, the i-th holds g i -/
def own_RayB (Z : State) (h : Heap) (a : Addr) (n : Nat) (g : Nat → Int32) : Prop := ∃ c : Cell, Arr Z h a c .byte ∧ c.slots.size = n ∧ ∀ i, i < n → c.slots[i]? = some (Value.int (g i)) ∧ fits .byte (.int (g i)) = true
theorem own_RayB.ext {Z : State} {h h' : Heap} {a : Addr} {n : Nat} {g : Nat → Int32} (F : own_RayB Z h a n g) (E : Ext h h') : own_RayB Z h' a n g := by obtain ⟨c, A, r⟩ := F; exact ⟨c, A.ext E, r⟩
theorem own_RayB.other {Z : State} {h h' : Heap} {a b : Addr} {n sl : Nat} {v : Value} {g : Nat → Int32} (F : own_RayB Z h b n g) (W : Wr h h' a sl v) (q : b ≠ a) : own_RayB Z h' b n g := by obtain ⟨c, A, r⟩ := F; exact ⟨c, A.other W q, r⟩
theorem own_RayB.keep {Z : State} {h h' : Heap} {a : Addr} {n : Nat} {ws : List Addr} {g : Nat → Int32} (F : own_RayB Z h a n g) (K : Keep h h' ws) (q : a ∉ ws) : own_RayB Z h' a n g := by obtain ⟨c, A, r⟩ := F; exact ⟨c, ⟨K.2.1 a c A.1 q, A.2⟩, r⟩
theorem own_RayB.lt {Z : State} {h : Heap} {a : Addr} {n : Nat} {g : Nat → Int32} (F : own_RayB Z h a n g) : a < h.size := by obtain ⟨c, A, r⟩ := F; exact A.lt
theorem own_RayB.cast {Z : State} {h : Heap} {a : Addr} {n : Nat} {g g' : Nat → Int32} (e : g = g') (F : own_RayB Z h a n g) : own_RayB Z h a n g' := e ▸ F
theorem own_RayB_nth {c : Cell} {n : Nat} {g : Nat → Int32} {j : Int32} (H : ∀ i, i < n → c.slots[i]? = some (Value.int (g i)) ∧ fits .byte (.int (g i)) = true) (S : c.slots.size = n) (hin : ¬ (j < 0 ∨ c.slots.size ≤ j.toNatClampNeg)) : c.slots[j.toNatClampNeg]? = some (Value.int (g j.toNatClampNeg)) :=
  (H _ (S ▸ Nat.lt_of_not_le fun q => hin (Or.inr q))).1
/-- a byte[] of n places, whatever it holds -/
def own_RayL (Z : State) (h : Heap) (a : Addr) (n : Nat) (_ : Unit) : Prop := ∃ g, own_RayB Z h a n g
theorem own_RayL.of {Z : State} {h : Heap} {a : Addr} {n : Nat} {g : Nat → Int32} (F : own_RayB Z h a n g) : own_RayL Z h a n () := ⟨g, F⟩
theorem own_RayL.ext {Z : State} {h h' : Heap} {a : Addr} {n : Nat} {u : Unit} (F : own_RayL Z h a n u) (E : Ext h h') : own_RayL Z h' a n u := by obtain ⟨g, r⟩ := F; exact ⟨g, r.ext E⟩
theorem own_RayL.other {Z : State} {h h' : Heap} {a b : Addr} {n sl : Nat} {v : Value} {u : Unit} (F : own_RayL Z h b n u) (W : Wr h h' a sl v) (q : b ≠ a) : own_RayL Z h' b n u := by obtain ⟨g, r⟩ := F; exact ⟨g, r.other W q⟩
theorem own_RayL.keep {Z : State} {h h' : Heap} {a : Addr} {n : Nat} {ws : List Addr} {u : Unit} (F : own_RayL Z h a n u) (K : Keep h h' ws) (q : a ∉ ws) : own_RayL Z h' a n u := by obtain ⟨g, r⟩ := F; exact ⟨g, r.keep K q⟩
theorem own_RayL.lt {Z : State} {h : Heap} {a : Addr} {n : Nat} {u : Unit} (F : own_RayL Z h a n u) : a < h.size := by obtain ⟨g, r⟩ := F; exact r.lt
theorem own_RayL.len {Z : State} {h : Heap} {a : Addr} {n : Nat} {u : Unit} (F : own_RayL Z h a n u) : ∃ c : Cell, Arr Z h a c .byte ∧ c.slots.size = n ∧ True := by obtain ⟨g, c, A, S, -⟩ := F; exact ⟨c, A, S, trivial⟩
theorem own_RayL.arv {Z : State} {h : Heap} {a : Addr} {n : Nat} {u : Unit} (F : own_RayL Z h a n u) (hn : n < 2 ^ 31) : ∃ (k : ClassId) (z : Int32) (vs : List Value), z.toNatClampNeg = n ∧ vs.length = n ∧ Arv Z h a k .byte z vs (.int 0) := by
  obtain ⟨g, c, A, S, H⟩ := F
  have hz : (Int32.ofNat n).toInt = n := by
    have := Int32.toInt_ofNat_small hn
    exact this
  have hc : (Int32.ofNat n).toNatClampNeg = n := by
    show (Int32.ofNat n).toInt.toNat = n
    rw [hz]
    omega
  refine ⟨c.cls, Int32.ofNat n, (List.range n).map (fun i => Value.int (g i)), hc, by simp, c, A, rfl, by rw [S, hc], ?_, ?_, ?_⟩
  · rw [Int32.lt_iff_toInt_lt, hz]
    have e0 : (0 : Int32).toInt = 0 := by decide
    omega
  · intro k hk
    rw [S] at hk
    rw [(H k hk).1]
    simp [List.getD_eq_getElem?_getD, hk]
  · intro i hi
    rw [S] at hi
    have := (H i hi).2
    simpa [List.getD_eq_getElem?_getD, hi] using this
def own_iv (v : Value) : Int32 := match v with | .int x => x | _ => 0
theorem own_RayL.back {Z : State} {h : Heap} {a : Addr} {n : Nat} {k : ClassId} {z : Int32} {vs : List Value} {d : Value} (F : Arv Z h a k .byte z vs d) (e : z.toNatClampNeg = n) : own_RayL Z h a n () := by
  obtain ⟨c, A, -, S, -, H, G⟩ := F
  refine ⟨fun i => own_iv (vs.getD i d), c, A, S.trans e, fun i hi => ?_⟩
  have h1 := H i (by rw [S, e]; exact hi)
  have h2 := G i (by rw [S, e]; exact hi)
  show c.slots[i]? = some (Value.int (own_iv (vs.getD i d))) ∧ fits .byte (.int (own_iv (vs.getD i d))) = true
  generalize vs.getD i d = w at h1 h2 ⊢
  cases w with
  | int x => exact ⟨h1, h2⟩
  | _ => exact absurd h2 (by simp [fits])
section Copy
variable {p : Program} {l : Launch} {e : Env} {R : Room} {s : State} {m : MethodId} {args : Array Value} {below : List Frame} {meth : Method} {c : Code} {T : State} {locs : List Loc} {cells slots : Nat} {Z : State} {h : Heap} {a b : Addr}
end Copy
theorem own_inb {c : Cell} {n : Nat} {j : Int32} (S : c.slots.size = n) (q : ¬ j < 0 ∧ j.toNatClampNeg < n) : ¬ (j < 0 ∨ c.slots.size ≤ j.toNatClampNeg) := fun w => w.elim q.1 fun z => absurd q.2 (Nat.not_lt.mpr (S ▸ z))
section Cold
variable {p : Program} {l : Launch} {e : Env} {R : Room} {s : State} {vm0 : Vm} {m : MethodId} {args : Array Value} {below : List Frame} {meth : Method} {c : Code} {T : State} {locs : List Loc} {cells slots : Nat} {Z : State} {a0 : Array Value} {h : Heap}
theorem own_sta0 {Z : State} {h h' : Heap} {C n d : String} {v : Value} (F : Sta Z h C n d v) (K : Keep h h' []) : Sta Z h' C n d v := by
  obtain ⟨cf, i, k, f, st, cell, h1, h2, h3, h4, h5, r⟩ := F
  exact ⟨cf, i, k, f, st, cell, h1, h2, h3, h4, K.2.1 st cell h5 nin0, r⟩
theorem own_neB {Z : State} {h : Heap} {a0 : Array Value} {x b : Addr} {C : String} {n k : Nat} {g : Nat → Int32} (E : Exa Z h x C) (F : own_RayB Z h b n g) (hn : n < 2 ^ 31) (w : (Cond.instantiable C k).before a0 Z = true) : x ≠ b := by
  obtain ⟨k, z, vs, -, -, A⟩ := (own_RayL.of F).arv hn
  exact Exa.neArv E A w
/-- a String constant, whatever it holds: the kit's law over the re-based start, folded -/
theorem own_ldcS (X : Stand p l e R (s.setVm vm0) m args below meth c T locs cells slots) (hx : p.tables.exec = Jvm.exec) (hZ : Z.Warmed39 (s.setVm vm0).vm) {own text : String} {index : Nat} (hown : (s.setVm vm0).vm.findClass own = some m.cls) (w : (Cond.stringLink own index text).before a0 Z = true) (wS : ∀ a ∈ Bundle.stringAtoms, a.before a0 Z = true)
    (eT : T.heap = h) {k0 : Nat} (hS : s.Since vm0 k0) (hk : k0 ≤ h.size) {g : JFrame} (hg : g.method = m) (hd : decode c.code g.pc = .ok (.ldc index, 2)) {n : Nat} (hn : 4 * text.toList.length ≤ n) (hbig : n ≤ 536870912) (hc : cells + 2 ≤ R.cells) (hl : slots + (n + 4) ≤ R.slots) :
    ∃ (a : Addr) (T' : State) (h' : Heap), Stand p l e R (s.setVm T'.vm) m args below meth c T' locs (cells + 2) (slots + (n + 4)) ∧ T'.heap = h' ∧ Ext h h' ∧ s.Since T'.vm h'.size ∧ Z.Warmed39 (s.setVm T'.vm).vm ∧ (s.setVm T'.vm).vm.findClass own = some m.cls ∧ (s.setVm vm0).Warmed39 T'.vm ∧
      ∀ target, Steps p.tables e below (T'.setTop { g with pc := g.pc + 2, stack := .ref a :: g.stack }) target → Steps p.tables e below (T.setTop g) target := by
  obtain ⟨a, T', h', k1, X', e', E, h2, hk1, hZ', hown', st⟩ := ldcS (s := s.setVm vm0) (vm0 := vm0) X hx hZ hown w wS eT ((State.WarmedH.refl (s.setVm vm0)).since h.size) (Nat.le_refl _) hg hd hn hbig hc hl
  have h2' : (s.setVm vm0).Since T'.vm h'.size := ⟨h2.1, fun j q hj hq => ⟨(h2.2 j q hj hq).1, Nat.lt_of_lt_of_le (h2.2 j q hj hq).2 hk1⟩⟩
  exact ⟨a, T', h', X', e', E, hS.trans h2' (Nat.le_trans hk E.1), hZ', hown', h2.1, st⟩
/-- the String constant "n", its text read -/
theorem own_ldcT (X : Stand p l e R (s.setVm vm0) m args below meth c T locs cells slots) (hx : p.tables.exec = Jvm.exec) (hZ : Z.Warmed39 (s.setVm vm0).vm) {own : String} {index : Nat} (hown : (s.setVm vm0).vm.findClass own = some m.cls) (w : (Cond.stringLink own index "n").before a0 Z = true) (wS : ∀ a ∈ Bundle.stringAtoms, a.before a0 Z = true)
    (eT : T.heap = h) {k0 : Nat} (hS : s.Since vm0 k0) (hk : k0 ≤ h.size) (N : Fr s.heap.size locs) (hkeep : ∀ (b : Addr) (cl : Cell), Z.heap[b]? = some cl → s.heap[b]? = some cl) (I : IB Z vm0 []) (hh : Jvm.Lit.constHeld Z own index) (hcw : Jvm.Lit.compactW.before a0 Z = true)
    {g : JFrame} (hg : g.method = m) (hd : decode c.code g.pc = .ok (.ldc index, 2)) {n : Nat} (hn : 4 * "n".toList.length ≤ n) (hbig : n ≤ 536870912) (hc : cells + 2 ≤ R.cells) (hl : slots + (n + 4) ≤ R.slots) :
    ∃ (a : Addr) (T' : State) (h' : Heap), Stand p l e R (s.setVm T'.vm) m args below meth c T' locs (cells + 2) (slots + (n + 4)) ∧ T'.heap = h' ∧ Ext h h' ∧ s.Since T'.vm h'.size ∧ Z.Warmed39 (s.setVm T'.vm).vm ∧ (s.setVm T'.vm).vm.findClass own = some m.cls ∧
      Exa Z h' a "java/lang/String" ∧ Fld Z h' a "java/lang/String" "coder" "B" (.int 0) ∧ ∃ b : Addr, Fld Z h' a "java/lang/String" "value" "[B" (.ref b) ∧ own_RayB Z h' b 1 (fun _ => (110 : Int32)) ∧ Lit (s.setVm T'.vm) own index a ∧
      ∀ target, Steps p.tables e below (T'.setTop { g with pc := g.pc + 2, stack := .ref a :: g.stack }) target → Steps p.tables e below (T.setTop g) target := by
  obtain ⟨a, T', h', k1, b, k, X', e', E, hS', hk1, hZ', hown', FE, FC, FV, FA, -, -, -, L, st⟩ := ldcSVL X hx hZ hown w wS eT hS hk N hkeep I (by simp) hh hcw (vs := [Value.int 110]) (z := 1)
    ⟨by first | (simp; done) | decide +kernel, by first | rfl | decide +kernel | (simp [Jvm.Lit.byteI]; done)⟩ (by decide) (by decide) hg hd hn hbig hc hl
  refine ⟨a, T', h', X', e', E, ⟨hS'.1, fun j q hj hq => ⟨(hS'.2 j q hj hq).1, Nat.lt_of_lt_of_le (hS'.2 j q hj hq).2 hk1⟩⟩, hZ', hown', FE, FC, b, FV, ?_, L, st⟩
  obtain ⟨cc, A, -, S, -, H, -⟩ := FA
  refine ⟨cc, A, S.trans (by decide), fun i hi => ?_⟩
  have hi' : i < cc.slots.size := by rw [S.trans (by decide : (1 : Int32).toNatClampNeg = 1)]; exact hi
  have e1 := H i hi'
  obtain rfl : i = 0 := by omega
  exact ⟨e1, rfl⟩
end Cold
end Jvm.RoadKit
namespace Jvm.Pilot.@@N@@
open Jvm Jvm.ClassFile Sem Op Lib Jvm.Free Jvm.Stand Jvm.LawKit Jvm.RoadKit Bundle Jvm.Pilot.@@N@@.Jvm.D
theorem own_sa {a0 : Array Value} {Z : State} (hw : ∀ d ∈ tables_1, d.before a0 Z = true) : ∀ a ∈ Bundle.stringAtoms, a.before a0 Z = true := fun d hd => hw d ((by decide +kernel : ∀ d ∈ Bundle.stringAtoms, d ∈ tables_1) d hd)
theorem own_pn0 : plainName "java/lang/Record" = true := by first | (simp [plainName, overriddenIn]; done) | decide +kernel
theorem own_d3_0 : decode jdk_30_method_1_code 0 = .ok (.aload_n 0, 1) := by decide +kernel
theorem own_d3_1 : decode jdk_30_method_1_code 1 = .ok (.invokespecial 1, 3) := by decide +kernel
theorem own_d3_4 : decode jdk_30_method_1_code 4 = .ok (.return_, 1) := by decide +kernel
theorem own_ef3 (m : MethodId) (r0 : Addr) : entryFrame m #[(.ref r0)] 1 = mkF m 0 #[.val (.ref r0)] [] := by first | (simp [entryFrame, mkF, argsToLocals, Value.category]; done) | rfl
def own_Q3 (Z : State) (r0 : Addr) (h0 : Heap) (n0 : Nat) (v : Option Value) (h : Heap) (L : List Loc) : Prop := (v = none) ∧ (Fr n0 L) ∧ (h = h0)
set_option maxRecDepth 65536 in
set_option maxHeartbeats 40000000 in
theorem own_rm3 (l : Launch) (Z : State) (a0 : Array Value) (hw : ∀ d ∈ tables_1, d.before a0 Z = true) (ws : List Jvm.Cond) (r0 : Addr) (h0 : Heap) (n0 : Nat) (Z0 : n0 ≤ h0.size) :
    MetFree l (⟨"java/lang/Record", "<init>", "()V"⟩ : MethodName) (head1 (Jvm.Cond.code (⟨"java/lang/Record", "<init>", "()V"⟩ : MethodName) jdk_30_method_1_code 1 none :: ws) ({ frames := 1, cells := 0, slots := 0, locals := 12 } : Room)) (fun a U => a = #[(.ref r0)] ∧ Z.Warmed39 U.vm ∧ U.heap = h0) (fun _ _ _ _ _ => True) (fun _ U o U' => ∃ v L, o = .returned v ∧ own_Q3 Z r0 h0 n0 v U'.heap L ∧ FrameEnd U o U' L ({ frames := 1, cells := 0, slots := 0, locals := 12 } : Room).cells ({ frames := 1, cells := 0, slots := 0, locals := 12 } : Room).slots) := by
  refine MetFree.of_bodySF (plainFor_of_name own_pn0) hisR ?_
  intro p e s m args below meth c s₁ Bd hml0 hP hK
  obtain ⟨rfl, hZ, hh⟩ := hP
  have hx := Bd.exec
  have hby := Bd.bytes
  have hml : c.maxLocals = 1 := hml0
  have hown : s.vm.findClass "java/lang/Record" = some m.cls := findClass_of_methodNamed Bd.named
  have hnm := (name_of_methodNamed Bd.named Bd.method).1
  have X0 : Stand p l e ({ frames := 1, cells := 0, slots := 0, locals := 12 } : Room) s m #[(.ref r0)] below meth c s₁ [] 0 0 := Stand.of_body Bd
  have e0 : s₁.heap = h0 := by rw [← hh, Bd.state]; rfl
  have N0 := Fr.nil n0
  have pre0 : ∀ t, Steps p.tables e below (s₁.setTop (mkF m 0 #[.val (.ref r0)] [])) t → Steps p.tables e below (s₁.setTop (entryFrame m #[(.ref r0)] 1)) t := fun t k => castTop (own_ef3 m r0) k
  refine own_run (own_st pre0 ?_)
  refine own_st (B := s₁.setTop (mkF m 1 #[.val (.ref r0)] [(.ref r0)])) (fun target kt => ?_) ?_
  · show Steps p.tables e below (s₁.setTop (mkF m 0 #[.val (.ref r0)] [])) target
    refine XS.aloadN X0.here hx rfl (hb hby own_d3_0) rfl rfl ?_
    exact kt
  obtain ⟨Tg1, Xg1, eg1, stg1⟩ := initO X0 hx hZ hown (hw _ (List.mem_of_getElem? (i := 25) rfl)) (hw _ (List.mem_of_getElem? (i := 26) rfl)) (hw _ (List.mem_of_getElem? (i := 27) rfl)) e0 (g := (mkF m 1 #[.val (.ref r0)] [(.ref r0)])) rfl (by rw [hml]; rfl) rfl (hb hby own_d3_1) (by decide) (W := 0) (by show 2 * 0 + _ ≤ _; exact Nat.le_of_eq rfl) (by decide)
  refine own_st stg1 ?_
  obtain ⟨fs, hr, hrun, hended, hW, hsame⟩ := Xg1.leave (v := none) (fun _ => rfl)
  have hend : Steps p.tables e below (Tg1.setTop (mkF m 4 #[.val (.ref r0)] [])) (Tg1.setFrames fs) := by
    exact Xg1.returnOut hx Bd.returns (hb hby own_d3_4) hr
  refine own_fin hend ⟨_, hrun, hended, _, _, rfl, ?_, ⟨_, rfl⟩, hW, hsame.mono (by decide) (by decide)⟩
  show own_Q3 Z r0 h0 n0 _ Tg1.heap _
  rw [eg1]
  exact ⟨rfl, N0, rfl⟩
theorem own_pn1 : plainName "java/util/Objects" = true := by first | (simp [plainName, overriddenIn]; done) | decide +kernel
theorem own_d6_0 : decode jdk_31_method_11_code 0 = .ok (.aload_n 0, 1) := by decide +kernel
theorem own_d6_1 : decode jdk_31_method_11_code 1 = .ok (.ifnonnull 12, 3) := by decide +kernel
theorem own_d6_13 : decode jdk_31_method_11_code 13 = .ok (.aload_n 0, 1) := by decide +kernel
theorem own_d6_14 : decode jdk_31_method_11_code 14 = .ok (.areturn, 1) := by decide +kernel
theorem own_ef6 (m : MethodId) (r0 : Addr) (r1 : Addr) : entryFrame m #[(.ref r0), (.ref r1)] 2 = mkF m 0 #[.val (.ref r0), .val (.ref r1)] [] := by first | (simp [entryFrame, mkF, argsToLocals, Value.category]; done) | rfl
def own_Q6 (Z : State) (r0 : Addr) (r1 : Addr) (h0 : Heap) (n0 : Nat) (v : Option Value) (h : Heap) (L : List Loc) : Prop := (v = some (.ref r0)) ∧ (Fr n0 L) ∧ (h = h0)
set_option maxRecDepth 65536 in
set_option maxHeartbeats 40000000 in
theorem own_rm6 (l : Launch) (Z : State) (a0 : Array Value) (hw : ∀ d ∈ tables_1, d.before a0 Z = true) (ws : List Jvm.Cond) (r0 : Addr) (r1 : Addr) (h0 : Heap) (n0 : Nat) (Z0 : n0 ≤ h0.size) :
    MetFree l (⟨"java/util/Objects", "requireNonNull", "(Ljava/lang/Object;Ljava/lang/String;)Ljava/lang/Object;"⟩ : MethodName) (head1 (Jvm.Cond.code (⟨"java/util/Objects", "requireNonNull", "(Ljava/lang/Object;Ljava/lang/String;)Ljava/lang/Object;"⟩ : MethodName) jdk_31_method_11_code 2 (some (.object "java/lang/Object")) :: ws) ({ frames := 0, cells := 0, slots := 0, locals := 0 } : Room)) (fun a U => a = #[(.ref r0), (.ref r1)] ∧ Z.Warmed39 U.vm ∧ U.heap = h0) (fun _ _ _ _ _ => True) (fun _ U o U' => ∃ v L, o = .returned v ∧ own_Q6 Z r0 r1 h0 n0 v U'.heap L ∧ FrameEnd U o U' L ({ frames := 0, cells := 0, slots := 0, locals := 0 } : Room).cells ({ frames := 0, cells := 0, slots := 0, locals := 0 } : Room).slots) := by
  refine MetFree.of_bodySF (plainFor_of_name own_pn1) hisR ?_
  intro p e s m args below meth c s₁ Bd hml0 hP hK
  obtain ⟨rfl, hZ, hh⟩ := hP
  have hx := Bd.exec
  have hby := Bd.bytes
  have hml : c.maxLocals = 2 := hml0
  have hown : s.vm.findClass "java/util/Objects" = some m.cls := findClass_of_methodNamed Bd.named
  have hnm := (name_of_methodNamed Bd.named Bd.method).1
  have X0 : Stand p l e ({ frames := 0, cells := 0, slots := 0, locals := 0 } : Room) s m #[(.ref r0), (.ref r1)] below meth c s₁ [] 0 0 := Stand.of_body Bd
  have e0 : s₁.heap = h0 := by rw [← hh, Bd.state]; rfl
  have N0 := Fr.nil n0
  have pre0 : ∀ t, Steps p.tables e below (s₁.setTop (mkF m 0 #[.val (.ref r0), .val (.ref r1)] [])) t → Steps p.tables e below (s₁.setTop (entryFrame m #[(.ref r0), (.ref r1)] 2)) t := fun t k => castTop (own_ef6 m r0 r1) k
  refine own_run (own_st pre0 ?_)
  refine own_st (B := s₁.setTop (mkF m 14 #[.val (.ref r0), .val (.ref r1)] [(.ref r0)])) (fun target kt => ?_) ?_
  · show Steps p.tables e below (s₁.setTop (mkF m 0 #[.val (.ref r0), .val (.ref r1)] [])) target
    refine XS.aloadN X0.here hx rfl (hb hby own_d6_0) rfl rfl ?_
    show Steps p.tables e below (s₁.setTop (mkF m 1 #[.val (.ref r0), .val (.ref r1)] [(.ref r0)])) target
    refine XS.ifnonnullYes X0.here hx rfl (pc0 := 1) (pc' := 13) rfl (hb hby own_d6_1) rfl (by decide) (by decide) ?_
    show Steps p.tables e below (s₁.setTop (mkF m 13 #[.val (.ref r0), .val (.ref r1)] [])) target
    refine XS.aloadN X0.here hx rfl (hb hby own_d6_13) rfl rfl ?_
    exact kt
  obtain ⟨fs, hr, hrun, hended, hW, hsame⟩ := X0.leave (v := some (.ref r0)) (fun h => by rw [Bd.returns] at h; cases h)
  have hend : Steps p.tables e below (s₁.setTop (mkF m 14 #[.val (.ref r0), .val (.ref r1)] [(.ref r0)])) (s₁.setFrames fs) := by
    jvm_step X0.here [X0.here.top, hx, (hb hby own_d6_14), X0.method', Bd.returns, Value.isRef, FieldType.isReference]
    first | (intro acts; rw [hr _ acts rfl rfl rfl]) | rw [hr _ _ rfl rfl rfl]
    exact Steps.refl _
  refine own_fin hend ⟨_, hrun, hended, _, _, rfl, ?_, ⟨_, rfl⟩, hW, hsame.mono (by decide) (by decide)⟩
  show own_Q6 Z r0 r1 h0 n0 _ s₁.heap _
  rw [e0]
  exact ⟨rfl, N0, rfl⟩
theorem own_pn2 : plainName "java/lang/String" = true := by first | (simp [plainName, overriddenIn]; done) | decide +kernel
theorem own_d7_0 : decode jdk_42_method_55_code 0 = .ok (.aload_n 0, 1) := by decide +kernel
theorem own_d7_1 : decode jdk_42_method_55_code 1 = .ok (.getfield 9, 3) := by decide +kernel
theorem own_d7_4 : decode jdk_42_method_55_code 4 = .ok (.arraylength, 1) := by decide +kernel
theorem own_d7_5 : decode jdk_42_method_55_code 5 = .ok (.ifCond .ne 7, 3) := by decide +kernel
theorem own_d7_12 : decode jdk_42_method_55_code 12 = .ok (.iconst 0, 1) := by decide +kernel
theorem own_d7_13 : decode jdk_42_method_55_code 13 = .ok (.ireturn, 1) := by decide +kernel
theorem own_ef7 (m : MethodId) (r0 : Addr) : entryFrame m #[(.ref r0)] 1 = mkF m 0 #[.val (.ref r0)] [] := by first | (simp [entryFrame, mkF, argsToLocals, Value.category]; done) | rfl
def own_Q7 (Z : State) (r0 : Addr) (rb : Addr) (h0 : Heap) (n0 : Nat) (v : Option Value) (h : Heap) (L : List Loc) : Prop := (v = some (.int (0 : Int32))) ∧ (Fr n0 L) ∧ (h = h0)
set_option maxRecDepth 65536 in
set_option maxHeartbeats 40000000 in
theorem own_rm7 (l : Launch) (Z : State) (a0 : Array Value) (hw : ∀ d ∈ tables_1, d.before a0 Z = true) (ws : List Jvm.Cond) (r0 : Addr) (rb : Addr) (h0 : Heap) (n0 : Nat) (Z0 : n0 ≤ h0.size) (E_r0 : Exa Z h0 r0 "java/lang/String") (F_r0_value : Fld Z h0 r0 "java/lang/String" "value" "[B" (.ref rb)) (F_r0_coder : Fld Z h0 r0 "java/lang/String" "coder" "B" (.int (0 : Int32))) (R_rb : own_RayB Z h0 rb 1 (fun _ => (110 : Int32))) :
    MetFree l (⟨"java/lang/String", "isEmpty", "()Z"⟩ : MethodName) (head1 (Jvm.Cond.code (⟨"java/lang/String", "isEmpty", "()Z"⟩ : MethodName) jdk_42_method_55_code 1 (some .boolean) :: ws) ({ frames := 0, cells := 0, slots := 0, locals := 0 } : Room)) (fun a U => a = #[(.ref r0)] ∧ Z.Warmed39 U.vm ∧ U.heap = h0) (fun _ _ _ _ _ => True) (fun _ U o U' => ∃ v L, o = .returned v ∧ own_Q7 Z r0 rb h0 n0 v U'.heap L ∧ FrameEnd U o U' L ({ frames := 0, cells := 0, slots := 0, locals := 0 } : Room).cells ({ frames := 0, cells := 0, slots := 0, locals := 0 } : Room).slots) := by
  refine MetFree.of_bodySF (plainFor_of_name own_pn2) hisR ?_
  intro p e s m args below meth c s₁ Bd hml0 hP hK
  obtain ⟨rfl, hZ, hh⟩ := hP
  have hx := Bd.exec
  have hby := Bd.bytes
  have hml : c.maxLocals = 1 := hml0
  have hown : s.vm.findClass "java/lang/String" = some m.cls := findClass_of_methodNamed Bd.named
  have hnm := (name_of_methodNamed Bd.named Bd.method).1
  have X0 : Stand p l e ({ frames := 0, cells := 0, slots := 0, locals := 0 } : Room) s m #[(.ref r0)] below meth c s₁ [] 0 0 := Stand.of_body Bd
  have e0 : s₁.heap = h0 := by rw [← hh, Bd.state]; rfl
  have N0 := Fr.nil n0
  have pre0 : ∀ t, Steps p.tables e below (s₁.setTop (mkF m 0 #[.val (.ref r0)] [])) t → Steps p.tables e below (s₁.setTop (entryFrame m #[(.ref r0)] 1)) t := fun t k => castTop (own_ef7 m r0) k
  refine own_run (own_st pre0 ?_)
  refine own_st (B := s₁.setTop (mkF m 1 #[.val (.ref r0)] [(.ref r0)])) (fun target kt => ?_) ?_
  · show Steps p.tables e below (s₁.setTop (mkF m 0 #[.val (.ref r0)] [])) target
    refine XS.aloadN X0.here hx rfl (hb hby own_d7_0) rfl rfl ?_
    exact kt
  obtain ⟨Tg1, Xg1, eg1, stg1⟩ := getF X0 hx hZ hown (host := "") (Or.inl (hw _ (List.mem_of_getElem? (i := 42) rfl))) Via.refl e0 F_r0_value (g := (mkF m 1 #[.val (.ref r0)] [(.ref r0)])) rfl rfl (hb hby own_d7_1)
  refine own_st stg1 ?_
  obtain ⟨clg4, Arg4, Szg4, -⟩ := id R_rb
  refine own_st (B := Tg1.setTop (mkF m 5 #[.val (.ref r0)] [(.int (1 : Int32))])) (fun target kt => ?_) ?_
  · refine Xg1.arraylength hx (by first | exact Arg4.1 | (rw [eg1]; exact Arg4.1)) (State.isArrayOf_alike hZ.alike Arg4.2.1) (g := (mkF m 4 #[.val (.ref r0)] [(.ref rb)])) rfl rfl (hb hby own_d7_4) _ ?_
    rw [Szg4]
    exact kt
  refine own_st (B := Tg1.setTop (mkF m 13 #[.val (.ref r0)] [(.int (0 : Int32))])) (fun target kt => ?_) ?_
  · show Steps p.tables e below (Tg1.setTop (mkF m 5 #[.val (.ref r0)] [(.int (1 : Int32))])) target
    refine XS.ifYes Xg1.here hx rfl (pc0 := 5) (pc' := 12) rfl (hb hby own_d7_5) rfl ((if0 _ _).trans (feq (by decide : ¬ ((1 : Int32) = (0 : Int32)))).2) (by decide) (by decide) ?_
    show Steps p.tables e below (Tg1.setTop (mkF m 12 #[.val (.ref r0)] [])) target
    refine XS.iconst Xg1.here hx rfl (hb hby own_d7_12) ?_
    exact kt
  obtain ⟨fs, hr, hrun, hended, hW, hsame⟩ := Xg1.leave (v := some (.int (0 : Int32))) (fun h => by rw [Bd.returns] at h; cases h)
  have hend : Steps p.tables e below (Tg1.setTop (mkF m 13 #[.val (.ref r0)] [(.int (0 : Int32))])) (Tg1.setFrames fs) := by
    exact retN Xg1 hx (t := .boolean) Bd.returns (by simp) (hb hby own_d7_13) hr
  refine own_fin hend ⟨_, hrun, hended, _, _, rfl, ?_, ⟨_, rfl⟩, hW, hsame.mono (by decide) (by decide)⟩
  show own_Q7 Z r0 rb h0 n0 _ Tg1.heap _
  rw [eg1]
  exact ⟨(congrArg (fun z => some (Value.int z)) (by rfl)), N0, rfl⟩
theorem own_d9_0 : decode jdk_42_method_152_code 0 = .ok (.getstatic 38, 3) := by decide +kernel
theorem own_d9_3 : decode jdk_42_method_152_code 3 = .ok (.ifCond .eq 10, 3) := by decide +kernel
theorem own_d9_6 : decode jdk_42_method_152_code 6 = .ok (.aload_n 0, 1) := by decide +kernel
theorem own_d9_7 : decode jdk_42_method_152_code 7 = .ok (.getfield 15, 3) := by decide +kernel
theorem own_d9_10 : decode jdk_42_method_152_code 10 = .ok (.goto 4, 3) := by decide +kernel
theorem own_d9_14 : decode jdk_42_method_152_code 14 = .ok (.ireturn, 1) := by decide +kernel
theorem own_ef9 (m : MethodId) (r0 : Addr) : entryFrame m #[(.ref r0)] 1 = mkF m 0 #[.val (.ref r0)] [] := by first | (simp [entryFrame, mkF, argsToLocals, Value.category]; done) | rfl
def own_Q9 (Z : State) (r0 : Addr) (cs : Int32) (h0 : Heap) (n0 : Nat) (v : Option Value) (h : Heap) (L : List Loc) : Prop := (v = some (.int (0 : Int32))) ∧ (Fr n0 L) ∧ (h = h0)
set_option maxRecDepth 65536 in
set_option maxHeartbeats 40000000 in
theorem own_rm9 (l : Launch) (Z : State) (a0 : Array Value) (hw : ∀ d ∈ tables_1, d.before a0 Z = true) (ws : List Jvm.Cond) (r0 : Addr) (cs : Int32) (h0 : Heap) (n0 : Nat) (Z0 : n0 ≤ h0.size) (E_r0 : Exa Z h0 r0 "java/lang/String") (F_r0_coder : Fld Z h0 r0 "java/lang/String" "coder" "B" (.int (0 : Int32))) (hcs : Sta Z h0 "java/lang/String" "COMPACT_STRINGS" "Z" (.int cs)) (hcs0 : ¬ cs = 0) :
    MetFree l (⟨"java/lang/String", "coder", "()B"⟩ : MethodName) (head1 (Jvm.Cond.code (⟨"java/lang/String", "coder", "()B"⟩ : MethodName) jdk_42_method_152_code 1 (some .byte) :: ws) ({ frames := 0, cells := 0, slots := 0, locals := 0 } : Room)) (fun a U => a = #[(.ref r0)] ∧ Z.Warmed39 U.vm ∧ U.heap = h0) (fun _ _ _ _ _ => True) (fun _ U o U' => ∃ v L, o = .returned v ∧ own_Q9 Z r0 cs h0 n0 v U'.heap L ∧ FrameEnd U o U' L ({ frames := 0, cells := 0, slots := 0, locals := 0 } : Room).cells ({ frames := 0, cells := 0, slots := 0, locals := 0 } : Room).slots) := by
  refine MetFree.of_bodySF (plainFor_of_name own_pn2) hisR ?_
  intro p e s m args below meth c s₁ Bd hml0 hP hK
  obtain ⟨rfl, hZ, hh⟩ := hP
  have hx := Bd.exec
  have hby := Bd.bytes
  have hml : c.maxLocals = 1 := hml0
  have hown : s.vm.findClass "java/lang/String" = some m.cls := findClass_of_methodNamed Bd.named
  have hnm := (name_of_methodNamed Bd.named Bd.method).1
  have X0 : Stand p l e ({ frames := 0, cells := 0, slots := 0, locals := 0 } : Room) s m #[(.ref r0)] below meth c s₁ [] 0 0 := Stand.of_body Bd
  have e0 : s₁.heap = h0 := by rw [← hh, Bd.state]; rfl
  have N0 := Fr.nil n0
  have pre0 : ∀ t, Steps p.tables e below (s₁.setTop (mkF m 0 #[.val (.ref r0)] [])) t → Steps p.tables e below (s₁.setTop (entryFrame m #[(.ref r0)] 1)) t := fun t k => castTop (own_ef9 m r0) k
  refine own_run (own_st pre0 ?_)
  obtain ⟨Tg0, Xg0, eg0, stg0⟩ := getS2 X0 hx hZ hown (host := "") (Or.inl (hw _ (List.mem_of_getElem? (i := 53) rfl))) Via.refl e0 hcs (g := (mkF m 0 #[.val (.ref r0)] [])) rfl (hb hby own_d9_0)
  refine own_st stg0 ?_
  have c3 : ¬ (cs = (0 : Int32)) := by
    exact hcs0
  refine own_st (B := Tg0.setTop (mkF m 7 #[.val (.ref r0)] [(.ref r0)])) (fun target kt => ?_) ?_
  · show Steps p.tables e below (Tg0.setTop (mkF m 3 #[.val (.ref r0)] [(.int cs)])) target
    refine XS.ifNo Xg0.here hx rfl (hb hby own_d9_3) rfl ((if0 _ _).trans (feq c3).1) ?_
    show Steps p.tables e below (Tg0.setTop (mkF m 6 #[.val (.ref r0)] [])) target
    refine XS.aloadN Xg0.here hx rfl (hb hby own_d9_6) rfl rfl ?_
    exact kt
  obtain ⟨Tg7, Xg7, eg7, stg7⟩ := getF Xg0 hx hZ hown (host := "") (Or.inl (hw _ (List.mem_of_getElem? (i := 54) rfl))) Via.refl eg0 F_r0_coder (g := (mkF m 7 #[.val (.ref r0)] [(.ref r0)])) rfl rfl (hb hby own_d9_7)
  refine own_st stg7 ?_
  refine own_st (B := Tg7.setTop (mkF m 14 #[.val (.ref r0)] [(.int (0 : Int32))])) (fun target kt => ?_) ?_
  · show Steps p.tables e below (Tg7.setTop (mkF m 10 #[.val (.ref r0)] [(.int (0 : Int32))])) target
    refine XS.goto Xg7.here hx rfl (pc0 := 10) (pc' := 14) rfl (hb hby own_d9_10) (by decide) (by decide) ?_
    exact kt
  obtain ⟨fs, hr, hrun, hended, hW, hsame⟩ := Xg7.leave (v := some (.int (0 : Int32))) (fun h => by rw [Bd.returns] at h; cases h)
  have hend : Steps p.tables e below (Tg7.setTop (mkF m 14 #[.val (.ref r0)] [(.int (0 : Int32))])) (Tg7.setFrames fs) := by
    exact retN Xg7 hx (t := .byte) Bd.returns (by simp) (hb hby own_d9_14) hr
  refine own_fin hend ⟨_, hrun, hended, _, _, rfl, ?_, ⟨_, rfl⟩, hW, hsame.mono (by decide) (by decide)⟩
  show own_Q9 Z r0 cs h0 n0 _ Tg7.heap _
  rw [eg7]
  exact ⟨(congrArg (fun z => some (Value.int z)) rfl), N0, rfl⟩
theorem own_d11_0 : decode jdk_42_method_154_code 0 = .ok (.getstatic 38, 3) := by decide +kernel
theorem own_d11_3 : decode jdk_42_method_154_code 3 = .ok (.ifCond .eq 14, 3) := by decide +kernel
theorem own_d11_6 : decode jdk_42_method_154_code 6 = .ok (.aload_n 0, 1) := by decide +kernel
theorem own_d11_7 : decode jdk_42_method_154_code 7 = .ok (.getfield 15, 3) := by decide +kernel
theorem own_d11_10 : decode jdk_42_method_154_code 10 = .ok (.ifCond .ne 7, 3) := by decide +kernel
theorem own_d11_13 : decode jdk_42_method_154_code 13 = .ok (.iconst 1, 1) := by decide +kernel
theorem own_d11_14 : decode jdk_42_method_154_code 14 = .ok (.goto 4, 3) := by decide +kernel
theorem own_d11_18 : decode jdk_42_method_154_code 18 = .ok (.ireturn, 1) := by decide +kernel
theorem own_ef11 (m : MethodId) (r0 : Addr) : entryFrame m #[(.ref r0)] 1 = mkF m 0 #[.val (.ref r0)] [] := by first | (simp [entryFrame, mkF, argsToLocals, Value.category]; done) | rfl
def own_Q11 (Z : State) (r0 : Addr) (cs : Int32) (h0 : Heap) (n0 : Nat) (v : Option Value) (h : Heap) (L : List Loc) : Prop := (v = some (.int (1 : Int32))) ∧ (Fr n0 L) ∧ (h = h0)
set_option maxRecDepth 65536 in
set_option maxHeartbeats 40000000 in
theorem own_rm11 (l : Launch) (Z : State) (a0 : Array Value) (hw : ∀ d ∈ tables_1, d.before a0 Z = true) (ws : List Jvm.Cond) (r0 : Addr) (cs : Int32) (h0 : Heap) (n0 : Nat) (Z0 : n0 ≤ h0.size) (E_r0 : Exa Z h0 r0 "java/lang/String") (F_r0_coder : Fld Z h0 r0 "java/lang/String" "coder" "B" (.int (0 : Int32))) (hcs : Sta Z h0 "java/lang/String" "COMPACT_STRINGS" "Z" (.int cs)) (hcs0 : ¬ cs = 0) :
    MetFree l (⟨"java/lang/String", "isLatin1", "()Z"⟩ : MethodName) (head1 (Jvm.Cond.code (⟨"java/lang/String", "isLatin1", "()Z"⟩ : MethodName) jdk_42_method_154_code 1 (some .boolean) :: ws) ({ frames := 0, cells := 0, slots := 0, locals := 0 } : Room)) (fun a U => a = #[(.ref r0)] ∧ Z.Warmed39 U.vm ∧ U.heap = h0) (fun _ _ _ _ _ => True) (fun _ U o U' => ∃ v L, o = .returned v ∧ own_Q11 Z r0 cs h0 n0 v U'.heap L ∧ FrameEnd U o U' L ({ frames := 0, cells := 0, slots := 0, locals := 0 } : Room).cells ({ frames := 0, cells := 0, slots := 0, locals := 0 } : Room).slots) := by
  refine MetFree.of_bodySF (plainFor_of_name own_pn2) hisR ?_
  intro p e s m args below meth c s₁ Bd hml0 hP hK
  obtain ⟨rfl, hZ, hh⟩ := hP
  have hx := Bd.exec
  have hby := Bd.bytes
  have hml : c.maxLocals = 1 := hml0
  have hown : s.vm.findClass "java/lang/String" = some m.cls := findClass_of_methodNamed Bd.named
  have hnm := (name_of_methodNamed Bd.named Bd.method).1
  have X0 : Stand p l e ({ frames := 0, cells := 0, slots := 0, locals := 0 } : Room) s m #[(.ref r0)] below meth c s₁ [] 0 0 := Stand.of_body Bd
  have e0 : s₁.heap = h0 := by rw [← hh, Bd.state]; rfl
  have N0 := Fr.nil n0
  have pre0 : ∀ t, Steps p.tables e below (s₁.setTop (mkF m 0 #[.val (.ref r0)] [])) t → Steps p.tables e below (s₁.setTop (entryFrame m #[(.ref r0)] 1)) t := fun t k => castTop (own_ef11 m r0) k
  refine own_run (own_st pre0 ?_)
  obtain ⟨Tg0, Xg0, eg0, stg0⟩ := getS2 X0 hx hZ hown (host := "") (Or.inl (hw _ (List.mem_of_getElem? (i := 53) rfl))) Via.refl e0 hcs (g := (mkF m 0 #[.val (.ref r0)] [])) rfl (hb hby own_d11_0)
  refine own_st stg0 ?_
  have c3 : ¬ (cs = (0 : Int32)) := by
    exact hcs0
  refine own_st (B := Tg0.setTop (mkF m 7 #[.val (.ref r0)] [(.ref r0)])) (fun target kt => ?_) ?_
  · show Steps p.tables e below (Tg0.setTop (mkF m 3 #[.val (.ref r0)] [(.int cs)])) target
    refine XS.ifNo Xg0.here hx rfl (hb hby own_d11_3) rfl ((if0 _ _).trans (feq c3).1) ?_
    show Steps p.tables e below (Tg0.setTop (mkF m 6 #[.val (.ref r0)] [])) target
    refine XS.aloadN Xg0.here hx rfl (hb hby own_d11_6) rfl rfl ?_
    exact kt
  obtain ⟨Tg7, Xg7, eg7, stg7⟩ := getF Xg0 hx hZ hown (host := "") (Or.inl (hw _ (List.mem_of_getElem? (i := 54) rfl))) Via.refl eg0 F_r0_coder (g := (mkF m 7 #[.val (.ref r0)] [(.ref r0)])) rfl rfl (hb hby own_d11_7)
  refine own_st stg7 ?_
  refine own_st (B := Tg7.setTop (mkF m 18 #[.val (.ref r0)] [(.int (1 : Int32))])) (fun target kt => ?_) ?_
  · show Steps p.tables e below (Tg7.setTop (mkF m 10 #[.val (.ref r0)] [(.int (0 : Int32))])) target
    refine XS.ifNo Xg7.here hx rfl (hb hby own_d11_10) rfl ((if0 _ _).trans (teq (by decide : (0 : Int32) = (0 : Int32))).2) ?_
    show Steps p.tables e below (Tg7.setTop (mkF m 13 #[.val (.ref r0)] [])) target
    refine XS.iconst Xg7.here hx rfl (hb hby own_d11_13) ?_
    show Steps p.tables e below (Tg7.setTop (mkF m 14 #[.val (.ref r0)] [(.int (1 : Int32))])) target
    refine XS.goto Xg7.here hx rfl (pc0 := 14) (pc' := 18) rfl (hb hby own_d11_14) (by decide) (by decide) ?_
    exact kt
  obtain ⟨fs, hr, hrun, hended, hW, hsame⟩ := Xg7.leave (v := some (.int (1 : Int32))) (fun h => by rw [Bd.returns] at h; cases h)
  have hend : Steps p.tables e below (Tg7.setTop (mkF m 18 #[.val (.ref r0)] [(.int (1 : Int32))])) (Tg7.setFrames fs) := by
    exact retN Xg7 hx (t := .boolean) Bd.returns (by simp) (hb hby own_d11_18) hr
  refine own_fin hend ⟨_, hrun, hended, _, _, rfl, ?_, ⟨_, rfl⟩, hW, hsame.mono (by decide) (by decide)⟩
  show own_Q11 Z r0 cs h0 n0 _ Tg7.heap _
  rw [eg7]
  exact ⟨(congrArg (fun z => some (Value.int z)) (by rfl)), N0, rfl⟩
theorem own_pd0 : parseMethodDescriptor "()B" = some ⟨[], some .byte⟩ := by decide +kernel
theorem own_d8_0 : decode jdk_42_method_54_code 0 = .ok (.aload_n 0, 1) := by decide +kernel
theorem own_d8_1 : decode jdk_42_method_54_code 1 = .ok (.getfield 9, 3) := by decide +kernel
theorem own_d8_4 : decode jdk_42_method_54_code 4 = .ok (.arraylength, 1) := by decide +kernel
theorem own_d8_5 : decode jdk_42_method_54_code 5 = .ok (.aload_n 0, 1) := by decide +kernel
theorem own_d8_6 : decode jdk_42_method_54_code 6 = .ok (.invokevirtual 335, 3) := by decide +kernel
theorem own_d8_9 : decode jdk_42_method_54_code 9 = .ok (.ishr, 1) := by decide +kernel
theorem own_d8_10 : decode jdk_42_method_54_code 10 = .ok (.ireturn, 1) := by decide +kernel
theorem own_ef8 (m : MethodId) (r0 : Addr) : entryFrame m #[(.ref r0)] 1 = mkF m 0 #[.val (.ref r0)] [] := by first | (simp [entryFrame, mkF, argsToLocals, Value.category]; done) | rfl
def own_Q8 (Z : State) (r0 : Addr) (cs : Int32) (rb : Addr) (h0 : Heap) (n0 : Nat) (v : Option Value) (h : Heap) (L : List Loc) : Prop := (v = some (.int (1 : Int32))) ∧ (Fr n0 L) ∧ (h = h0)
set_option maxRecDepth 65536 in
set_option maxHeartbeats 40000000 in
theorem own_rm8 (l : Launch) (Z : State) (a0 : Array Value) (hw : ∀ d ∈ tables_1, d.before a0 Z = true) (ws : List Jvm.Cond) (r0 : Addr) (cs : Int32) (rb : Addr) (h0 : Heap) (n0 : Nat) (Z0 : n0 ≤ h0.size) (E_r0 : Exa Z h0 r0 "java/lang/String") (F_r0_value : Fld Z h0 r0 "java/lang/String" "value" "[B" (.ref rb)) (F_r0_coder : Fld Z h0 r0 "java/lang/String" "coder" "B" (.int (0 : Int32))) (R_rb : own_RayB Z h0 rb 1 (fun _ => (110 : Int32))) (hcs : Sta Z h0 "java/lang/String" "COMPACT_STRINGS" "Z" (.int cs)) (hcs0 : ¬ cs = 0) :
    MetFree l (⟨"java/lang/String", "length", "()I"⟩ : MethodName) (head1 (Jvm.Cond.code (⟨"java/lang/String", "length", "()I"⟩ : MethodName) jdk_42_method_54_code 1 (some .int) :: ws) ({ frames := 1, cells := 0, slots := 0, locals := 13 } : Room)) (fun a U => a = #[(.ref r0)] ∧ Z.Warmed39 U.vm ∧ U.heap = h0) (fun _ _ _ _ _ => True) (fun _ U o U' => ∃ v L, o = .returned v ∧ own_Q8 Z r0 cs rb h0 n0 v U'.heap L ∧ FrameEnd U o U' L ({ frames := 1, cells := 0, slots := 0, locals := 13 } : Room).cells ({ frames := 1, cells := 0, slots := 0, locals := 13 } : Room).slots) := by
  refine MetFree.of_bodySF (plainFor_of_name own_pn2) hisR ?_
  intro p e s m args below meth c s₁ Bd hml0 hP hK
  obtain ⟨rfl, hZ, hh⟩ := hP
  have hx := Bd.exec
  have hby := Bd.bytes
  have hml : c.maxLocals = 1 := hml0
  have hown : s.vm.findClass "java/lang/String" = some m.cls := findClass_of_methodNamed Bd.named
  have hnm := (name_of_methodNamed Bd.named Bd.method).1
  have X0 : Stand p l e ({ frames := 1, cells := 0, slots := 0, locals := 13 } : Room) s m #[(.ref r0)] below meth c s₁ [] 0 0 := Stand.of_body Bd
  have e0 : s₁.heap = h0 := by rw [← hh, Bd.state]; rfl
  have N0 := Fr.nil n0
  have pre0 : ∀ t, Steps p.tables e below (s₁.setTop (mkF m 0 #[.val (.ref r0)] [])) t → Steps p.tables e below (s₁.setTop (entryFrame m #[(.ref r0)] 1)) t := fun t k => castTop (own_ef8 m r0) k
  refine own_run (own_st pre0 ?_)
  refine own_st (B := s₁.setTop (mkF m 1 #[.val (.ref r0)] [(.ref r0)])) (fun target kt => ?_) ?_
  · show Steps p.tables e below (s₁.setTop (mkF m 0 #[.val (.ref r0)] [])) target
    refine XS.aloadN X0.here hx rfl (hb hby own_d8_0) rfl rfl ?_
    exact kt
  obtain ⟨Tg1, Xg1, eg1, stg1⟩ := getF X0 hx hZ hown (host := "") (Or.inl (hw _ (List.mem_of_getElem? (i := 42) rfl))) Via.refl e0 F_r0_value (g := (mkF m 1 #[.val (.ref r0)] [(.ref r0)])) rfl rfl (hb hby own_d8_1)
  refine own_st stg1 ?_
  obtain ⟨clg4, Arg4, Szg4, -⟩ := id R_rb
  refine own_st (B := Tg1.setTop (mkF m 5 #[.val (.ref r0)] [(.int (1 : Int32))])) (fun target kt => ?_) ?_
  · refine Xg1.arraylength hx (by first | exact Arg4.1 | (rw [eg1]; exact Arg4.1)) (State.isArrayOf_alike hZ.alike Arg4.2.1) (g := (mkF m 4 #[.val (.ref r0)] [(.ref rb)])) rfl rfl (hb hby own_d8_4) _ ?_
    rw [Szg4]
    exact kt
  refine own_st (B := Tg1.setTop (mkF m 6 #[.val (.ref r0)] [(.ref r0), (.int (1 : Int32))])) (fun target kt => ?_) ?_
  · show Steps p.tables e below (Tg1.setTop (mkF m 5 #[.val (.ref r0)] [(.int (1 : Int32))])) target
    refine XS.aloadN Xg1.here hx rfl (hb hby own_d8_5) rfl rfl ?_
    exact kt
  obtain ⟨cqg6, kqg6, qg6a, qg6b, qg6c⟩ := isOf hZ eg1 E_r0
  obtain ⟨_, _, ⟨Tg6, Lg6, kg6, ng6⟩, -, Xg6, ⟨Lcg6, hQg6, lg6, yg6, zg6⟩, stg6⟩ := Xg1.virtualBack hx (y := (⟨"java/lang/String", "coder", "()B"⟩ : MethodName)) (z := (⟨"java/lang/String", "coder", "()B"⟩ : MethodName)) hown (mvT hZ (hw _ (List.mem_of_getElem? (i := 48) rfl))) (mvT hZ (hw _ (List.mem_of_getElem? (i := 49) rfl))) (notFace_of_selects (args := #[]) (mvT hZ (hw _ (List.mem_of_getElem? (i := 51) rfl)))) (mvT hZ (hw _ (List.mem_of_getElem? (i := 51) rfl))) (mvT hZ (hw _ (List.mem_of_getElem? (i := 50) rfl))) (by decide) (backOf (W := 1) (own_rm9 l Z a0 hw [] r0 cs h0 n0 Z0 E_r0 F_r0_coder (show Sta Z h0 "java/lang/String" "COMPACT_STRINGS" "Z" (.int cs) from hcs) (show ¬ cs = 0 from hcs0)) hZ (hw _ (List.mem_of_getElem? (i := 52) rfl)) (hw _ (List.mem_of_getElem? (i := 9) rfl)) (by decide) (by decide)) qg6a qg6c (g := (mkF m 6 #[.val (.ref r0)] [(.ref r0), (.int (1 : Int32))])) rfl (by rw [hml]; rfl) (Steps.refl _) (argsL := []) (rest := [(.int (1 : Int32))]) (lenOf own_pd0 rfl) rfl (by show 2 * 0 + _ ≤ _; exact Nat.le_of_eq rfl) (hb hby own_d8_6) (fun _ _ => ⟨rfl, eg1, (by decide : 0 + 0 ≤ _), (by decide : 0 + 0 ≤ _)⟩)
  dsimp only [Pt.U, Pt.locs, Pt.cells, Pt.slots] at Xg6 lg6 yg6 zg6 stg6 hQg6
  subst lg6 yg6 zg6
  obtain ⟨rfl, Ng6q, eg6⟩ := hQg6
  have Ng6 := Fr.app N0 Ng6q
  refine own_st (fun _ k => stg6.trans k) ?_
  refine own_st (B := Tg6.setTop (mkF m 10 #[.val (.ref r0)] [(.int ((1 : Int32) >>> ((0 : Int32) &&& 31)))])) (fun target kt => ?_) ?_
  · show Steps p.tables e below (Tg6.setTop (mkF m 9 #[.val (.ref r0)] [(.int (0 : Int32)), (.int (1 : Int32))])) target
    refine XS.ishr Xg6.here hx rfl (hb hby own_d8_9) rfl ?_
    exact kt
  obtain ⟨fs, hr, hrun, hended, hW, hsame⟩ := Xg6.leave (v := some (.int ((1 : Int32) >>> ((0 : Int32) &&& 31)))) (fun h => by rw [Bd.returns] at h; cases h)
  have hend : Steps p.tables e below (Tg6.setTop (mkF m 10 #[.val (.ref r0)] [(.int ((1 : Int32) >>> ((0 : Int32) &&& 31)))])) (Tg6.setFrames fs) := by
    exact retI Xg6 hx Bd.returns (hb hby own_d8_10) hr
  refine own_fin hend ⟨_, hrun, hended, _, _, rfl, ?_, ⟨_, rfl⟩, hW, hsame.mono (by decide) (by decide)⟩
  show own_Q8 Z r0 cs rb h0 n0 _ Tg6.heap _
  rw [eg6]
  exact ⟨(congrArg (fun z => some (Value.int z)) (by decide)), Ng6, rfl⟩
theorem own_pn3 : plainName "jdk/internal/util/Preconditions" = true := by first | (simp [plainName, overriddenIn]; done) | decide +kernel
theorem own_d14_0 : decode jdk_41_method_11_code 0 = .ok (.iload_n 0, 1) := by decide +kernel
theorem own_d14_1 : decode jdk_41_method_11_code 1 = .ok (.ifCond .lt 8, 3) := by decide +kernel
theorem own_d14_4 : decode jdk_41_method_11_code 4 = .ok (.iload_n 0, 1) := by decide +kernel
theorem own_d14_5 : decode jdk_41_method_11_code 5 = .ok (.iload_n 1, 1) := by decide +kernel
theorem own_d14_6 : decode jdk_41_method_11_code 6 = .ok (.if_icmp .lt 10, 3) := by decide +kernel
theorem own_d14_16 : decode jdk_41_method_11_code 16 = .ok (.iload_n 0, 1) := by decide +kernel
theorem own_d14_17 : decode jdk_41_method_11_code 17 = .ok (.ireturn, 1) := by decide +kernel
theorem own_ef14_n (m : MethodId)  : entryFrame m #[(.int (0 : Int32)), (.int (1 : Int32)), .null] 3 = mkF m 0 #[.val (.int (0 : Int32)), .val (.int (1 : Int32)), .val .null] [] := by first | (simp [entryFrame, mkF, argsToLocals, Value.category]; done) | rfl
def own_Q14_n (Z : State)  (h0 : Heap) (n0 : Nat) (v : Option Value) (h : Heap) (L : List Loc) : Prop := (v = some (.int (0 : Int32))) ∧ (Fr n0 L) ∧ (h = h0)
set_option maxRecDepth 65536 in
set_option maxHeartbeats 40000000 in
theorem own_rm14_n (l : Launch) (Z : State) (a0 : Array Value) (hw : ∀ d ∈ tables_1, d.before a0 Z = true) (ws : List Jvm.Cond)  (h0 : Heap) (n0 : Nat) (Z0 : n0 ≤ h0.size) :
    MetFree l (⟨"jdk/internal/util/Preconditions", "checkIndex", "(IILjava/util/function/BiFunction;)I"⟩ : MethodName) (head1 (Jvm.Cond.code (⟨"jdk/internal/util/Preconditions", "checkIndex", "(IILjava/util/function/BiFunction;)I"⟩ : MethodName) jdk_41_method_11_code 3 (some .int) :: ws) ({ frames := 0, cells := 0, slots := 0, locals := 0 } : Room)) (fun a U => a = #[(.int (0 : Int32)), (.int (1 : Int32)), .null] ∧ Z.Warmed39 U.vm ∧ U.heap = h0) (fun _ _ _ _ _ => True) (fun _ U o U' => ∃ v L, o = .returned v ∧ own_Q14_n Z  h0 n0 v U'.heap L ∧ FrameEnd U o U' L ({ frames := 0, cells := 0, slots := 0, locals := 0 } : Room).cells ({ frames := 0, cells := 0, slots := 0, locals := 0 } : Room).slots) := by
  refine MetFree.of_bodySF (plainFor_of_name own_pn3) hisR ?_
  intro p e s m args below meth c s₁ Bd hml0 hP hK
  obtain ⟨rfl, hZ, hh⟩ := hP
  have hx := Bd.exec
  have hby := Bd.bytes
  have hml : c.maxLocals = 3 := hml0
  have hown : s.vm.findClass "jdk/internal/util/Preconditions" = some m.cls := findClass_of_methodNamed Bd.named
  have hnm := (name_of_methodNamed Bd.named Bd.method).1
  have X0 : Stand p l e ({ frames := 0, cells := 0, slots := 0, locals := 0 } : Room) s m #[(.int (0 : Int32)), (.int (1 : Int32)), .null] below meth c s₁ [] 0 0 := Stand.of_body Bd
  have e0 : s₁.heap = h0 := by rw [← hh, Bd.state]; rfl
  have N0 := Fr.nil n0
  have pre0 : ∀ t, Steps p.tables e below (s₁.setTop (mkF m 0 #[.val (.int (0 : Int32)), .val (.int (1 : Int32)), .val .null] [])) t → Steps p.tables e below (s₁.setTop (entryFrame m #[(.int (0 : Int32)), (.int (1 : Int32)), .null] 3)) t := fun t k => castTop (own_ef14_n m ) k
  refine own_run (own_st pre0 ?_)
  refine own_st (B := s₁.setTop (mkF m 17 #[.val (.int (0 : Int32)), .val (.int (1 : Int32)), .val .null] [(.int (0 : Int32))])) (fun target kt => ?_) ?_
  · show Steps p.tables e below (s₁.setTop (mkF m 0 #[.val (.int (0 : Int32)), .val (.int (1 : Int32)), .val .null] [])) target
    refine XS.iloadN X0.here hx rfl (hb hby own_d14_0) rfl ?_
    show Steps p.tables e below (s₁.setTop (mkF m 1 #[.val (.int (0 : Int32)), .val (.int (1 : Int32)), .val .null] [(.int (0 : Int32))])) target
    refine XS.ifNo X0.here hx rfl (hb hby own_d14_1) rfl ((if0 _ _).trans (flt (by decide : ¬ ((0 : Int32) < (0 : Int32)))).1) ?_
    show Steps p.tables e below (s₁.setTop (mkF m 4 #[.val (.int (0 : Int32)), .val (.int (1 : Int32)), .val .null] [])) target
    refine XS.iloadN X0.here hx rfl (hb hby own_d14_4) rfl ?_
    show Steps p.tables e below (s₁.setTop (mkF m 5 #[.val (.int (0 : Int32)), .val (.int (1 : Int32)), .val .null] [(.int (0 : Int32))])) target
    refine XS.iloadN X0.here hx rfl (hb hby own_d14_5) rfl ?_
    show Steps p.tables e below (s₁.setTop (mkF m 6 #[.val (.int (0 : Int32)), .val (.int (1 : Int32)), .val .null] [(.int (1 : Int32)), (.int (0 : Int32))])) target
    refine XS.icmpYes X0.here hx rfl (pc0 := 6) (pc' := 16) rfl (hb hby own_d14_6) rfl (tlt (by decide : (0 : Int32) < (1 : Int32))).1 (by decide) (by decide) ?_
    show Steps p.tables e below (s₁.setTop (mkF m 16 #[.val (.int (0 : Int32)), .val (.int (1 : Int32)), .val .null] [])) target
    refine XS.iloadN X0.here hx rfl (hb hby own_d14_16) rfl ?_
    exact kt
  obtain ⟨fs, hr, hrun, hended, hW, hsame⟩ := X0.leave (v := some (.int (0 : Int32))) (fun h => by rw [Bd.returns] at h; cases h)
  have hend : Steps p.tables e below (s₁.setTop (mkF m 17 #[.val (.int (0 : Int32)), .val (.int (1 : Int32)), .val .null] [(.int (0 : Int32))])) (s₁.setFrames fs) := by
    exact retI X0 hx Bd.returns (hb hby own_d14_17) hr
  refine own_fin hend ⟨_, hrun, hended, _, _, rfl, ?_, ⟨_, rfl⟩, hW, hsame.mono (by decide) (by decide)⟩
  show own_Q14_n Z  h0 n0 _ s₁.heap _
  rw [e0]
  exact ⟨(congrArg (fun z => some (Value.int z)) rfl), N0, rfl⟩
theorem own_ef14_r (m : MethodId) (r2 : Addr) : entryFrame m #[(.int (0 : Int32)), (.int (1 : Int32)), (.ref r2)] 3 = mkF m 0 #[.val (.int (0 : Int32)), .val (.int (1 : Int32)), .val (.ref r2)] [] := by first | (simp [entryFrame, mkF, argsToLocals, Value.category]; done) | rfl
def own_Q14_r (Z : State) (r2 : Addr) (h0 : Heap) (n0 : Nat) (v : Option Value) (h : Heap) (L : List Loc) : Prop := (v = some (.int (0 : Int32))) ∧ (Fr n0 L) ∧ (h = h0)
set_option maxRecDepth 65536 in
set_option maxHeartbeats 40000000 in
theorem own_rm14_r (l : Launch) (Z : State) (a0 : Array Value) (hw : ∀ d ∈ tables_1, d.before a0 Z = true) (ws : List Jvm.Cond) (r2 : Addr) (h0 : Heap) (n0 : Nat) (Z0 : n0 ≤ h0.size) :
    MetFree l (⟨"jdk/internal/util/Preconditions", "checkIndex", "(IILjava/util/function/BiFunction;)I"⟩ : MethodName) (head1 (Jvm.Cond.code (⟨"jdk/internal/util/Preconditions", "checkIndex", "(IILjava/util/function/BiFunction;)I"⟩ : MethodName) jdk_41_method_11_code 3 (some .int) :: ws) ({ frames := 0, cells := 0, slots := 0, locals := 0 } : Room)) (fun a U => a = #[(.int (0 : Int32)), (.int (1 : Int32)), (.ref r2)] ∧ Z.Warmed39 U.vm ∧ U.heap = h0) (fun _ _ _ _ _ => True) (fun _ U o U' => ∃ v L, o = .returned v ∧ own_Q14_r Z r2 h0 n0 v U'.heap L ∧ FrameEnd U o U' L ({ frames := 0, cells := 0, slots := 0, locals := 0 } : Room).cells ({ frames := 0, cells := 0, slots := 0, locals := 0 } : Room).slots) := by
  refine MetFree.of_bodySF (plainFor_of_name own_pn3) hisR ?_
  intro p e s m args below meth c s₁ Bd hml0 hP hK
  obtain ⟨rfl, hZ, hh⟩ := hP
  have hx := Bd.exec
  have hby := Bd.bytes
  have hml : c.maxLocals = 3 := hml0
  have hown : s.vm.findClass "jdk/internal/util/Preconditions" = some m.cls := findClass_of_methodNamed Bd.named
  have hnm := (name_of_methodNamed Bd.named Bd.method).1
  have X0 : Stand p l e ({ frames := 0, cells := 0, slots := 0, locals := 0 } : Room) s m #[(.int (0 : Int32)), (.int (1 : Int32)), (.ref r2)] below meth c s₁ [] 0 0 := Stand.of_body Bd
  have e0 : s₁.heap = h0 := by rw [← hh, Bd.state]; rfl
  have N0 := Fr.nil n0
  have pre0 : ∀ t, Steps p.tables e below (s₁.setTop (mkF m 0 #[.val (.int (0 : Int32)), .val (.int (1 : Int32)), .val (.ref r2)] [])) t → Steps p.tables e below (s₁.setTop (entryFrame m #[(.int (0 : Int32)), (.int (1 : Int32)), (.ref r2)] 3)) t := fun t k => castTop (own_ef14_r m r2) k
  refine own_run (own_st pre0 ?_)
  refine own_st (B := s₁.setTop (mkF m 17 #[.val (.int (0 : Int32)), .val (.int (1 : Int32)), .val (.ref r2)] [(.int (0 : Int32))])) (fun target kt => ?_) ?_
  · show Steps p.tables e below (s₁.setTop (mkF m 0 #[.val (.int (0 : Int32)), .val (.int (1 : Int32)), .val (.ref r2)] [])) target
    refine XS.iloadN X0.here hx rfl (hb hby own_d14_0) rfl ?_
    show Steps p.tables e below (s₁.setTop (mkF m 1 #[.val (.int (0 : Int32)), .val (.int (1 : Int32)), .val (.ref r2)] [(.int (0 : Int32))])) target
    refine XS.ifNo X0.here hx rfl (hb hby own_d14_1) rfl ((if0 _ _).trans (flt (by decide : ¬ ((0 : Int32) < (0 : Int32)))).1) ?_
    show Steps p.tables e below (s₁.setTop (mkF m 4 #[.val (.int (0 : Int32)), .val (.int (1 : Int32)), .val (.ref r2)] [])) target
    refine XS.iloadN X0.here hx rfl (hb hby own_d14_4) rfl ?_
    show Steps p.tables e below (s₁.setTop (mkF m 5 #[.val (.int (0 : Int32)), .val (.int (1 : Int32)), .val (.ref r2)] [(.int (0 : Int32))])) target
    refine XS.iloadN X0.here hx rfl (hb hby own_d14_5) rfl ?_
    show Steps p.tables e below (s₁.setTop (mkF m 6 #[.val (.int (0 : Int32)), .val (.int (1 : Int32)), .val (.ref r2)] [(.int (1 : Int32)), (.int (0 : Int32))])) target
    refine XS.icmpYes X0.here hx rfl (pc0 := 6) (pc' := 16) rfl (hb hby own_d14_6) rfl (tlt (by decide : (0 : Int32) < (1 : Int32))).1 (by decide) (by decide) ?_
    show Steps p.tables e below (s₁.setTop (mkF m 16 #[.val (.int (0 : Int32)), .val (.int (1 : Int32)), .val (.ref r2)] [])) target
    refine XS.iloadN X0.here hx rfl (hb hby own_d14_16) rfl ?_
    exact kt
  obtain ⟨fs, hr, hrun, hended, hW, hsame⟩ := X0.leave (v := some (.int (0 : Int32))) (fun h => by rw [Bd.returns] at h; cases h)
  have hend : Steps p.tables e below (s₁.setTop (mkF m 17 #[.val (.int (0 : Int32)), .val (.int (1 : Int32)), .val (.ref r2)] [(.int (0 : Int32))])) (s₁.setFrames fs) := by
    exact retI X0 hx Bd.returns (hb hby own_d14_17) hr
  refine own_fin hend ⟨_, hrun, hended, _, _, rfl, ?_, ⟨_, rfl⟩, hW, hsame.mono (by decide) (by decide)⟩
  show own_Q14_r Z r2 h0 n0 _ s₁.heap _
  rw [e0]
  exact ⟨(congrArg (fun z => some (Value.int z)) rfl), N0, rfl⟩
theorem own_pd1 : parseMethodDescriptor "(IILjava/util/function/BiFunction;)I" = some ⟨[.int, .int, (.object "java/util/function/BiFunction")], some .int⟩ := by decide +kernel
theorem own_d13_0 : decode jdk_42_method_155_code 0 = .ok (.iload_n 0, 1) := by decide +kernel
theorem own_d13_1 : decode jdk_42_method_155_code 1 = .ok (.iload_n 1, 1) := by decide +kernel
theorem own_d13_2 : decode jdk_42_method_155_code 2 = .ok (.getstatic 1053, 3) := by decide +kernel
theorem own_d13_5 : decode jdk_42_method_155_code 5 = .ok (.invokestatic 1059, 3) := by decide +kernel
theorem own_d13_8 : decode jdk_42_method_155_code 8 = .ok (.pop, 1) := by decide +kernel
theorem own_d13_9 : decode jdk_42_method_155_code 9 = .ok (.return_, 1) := by decide +kernel
theorem own_ef13_n (m : MethodId)  : entryFrame m #[(.int (0 : Int32)), (.int (1 : Int32))] 2 = mkF m 0 #[.val (.int (0 : Int32)), .val (.int (1 : Int32))] [] := by first | (simp [entryFrame, mkF, argsToLocals, Value.category]; done) | rfl
def own_Q13_n (Z : State)  (h0 : Heap) (n0 : Nat) (v : Option Value) (h : Heap) (L : List Loc) : Prop := (v = none) ∧ (Fr n0 L) ∧ (h = h0)
set_option maxRecDepth 65536 in
set_option maxHeartbeats 40000000 in
theorem own_rm13_n (l : Launch) (Z : State) (a0 : Array Value) (hw : ∀ d ∈ tables_1, d.before a0 Z = true) (ws : List Jvm.Cond)  (h0 : Heap) (n0 : Nat) (Z0 : n0 ≤ h0.size) (hsf : Sta Z h0 "jdk/internal/util/Preconditions" "SIOOBE_FORMATTER" "Ljava/util/function/BiFunction;" .null) :
    MetFree l (⟨"java/lang/String", "checkIndex", "(II)V"⟩ : MethodName) (head1 (Jvm.Cond.code (⟨"java/lang/String", "checkIndex", "(II)V"⟩ : MethodName) jdk_42_method_155_code 2 none :: ws) ({ frames := 1, cells := 0, slots := 0, locals := 14 } : Room)) (fun a U => a = #[(.int (0 : Int32)), (.int (1 : Int32))] ∧ Z.Warmed39 U.vm ∧ U.heap = h0) (fun _ _ _ _ _ => True) (fun _ U o U' => ∃ v L, o = .returned v ∧ own_Q13_n Z  h0 n0 v U'.heap L ∧ FrameEnd U o U' L ({ frames := 1, cells := 0, slots := 0, locals := 14 } : Room).cells ({ frames := 1, cells := 0, slots := 0, locals := 14 } : Room).slots) := by
  refine MetFree.of_bodySF (plainFor_of_name own_pn2) hisR ?_
  intro p e s m args below meth c s₁ Bd hml0 hP hK
  obtain ⟨rfl, hZ, hh⟩ := hP
  have hx := Bd.exec
  have hby := Bd.bytes
  have hml : c.maxLocals = 2 := hml0
  have hown : s.vm.findClass "java/lang/String" = some m.cls := findClass_of_methodNamed Bd.named
  have hnm := (name_of_methodNamed Bd.named Bd.method).1
  have X0 : Stand p l e ({ frames := 1, cells := 0, slots := 0, locals := 14 } : Room) s m #[(.int (0 : Int32)), (.int (1 : Int32))] below meth c s₁ [] 0 0 := Stand.of_body Bd
  have e0 : s₁.heap = h0 := by rw [← hh, Bd.state]; rfl
  have N0 := Fr.nil n0
  have pre0 : ∀ t, Steps p.tables e below (s₁.setTop (mkF m 0 #[.val (.int (0 : Int32)), .val (.int (1 : Int32))] [])) t → Steps p.tables e below (s₁.setTop (entryFrame m #[(.int (0 : Int32)), (.int (1 : Int32))] 2)) t := fun t k => castTop (own_ef13_n m ) k
  refine own_run (own_st pre0 ?_)
  refine own_st (B := s₁.setTop (mkF m 2 #[.val (.int (0 : Int32)), .val (.int (1 : Int32))] [(.int (1 : Int32)), (.int (0 : Int32))])) (fun target kt => ?_) ?_
  · show Steps p.tables e below (s₁.setTop (mkF m 0 #[.val (.int (0 : Int32)), .val (.int (1 : Int32))] [])) target
    refine XS.iloadN X0.here hx rfl (hb hby own_d13_0) rfl ?_
    show Steps p.tables e below (s₁.setTop (mkF m 1 #[.val (.int (0 : Int32)), .val (.int (1 : Int32))] [(.int (0 : Int32))])) target
    refine XS.iloadN X0.here hx rfl (hb hby own_d13_1) rfl ?_
    exact kt
  obtain ⟨Tg2, Xg2, eg2, stg2⟩ := getS2 X0 hx hZ hown (host := "") (Or.inl (hw _ (List.mem_of_getElem? (i := 72) rfl))) Via.refl e0 hsf (g := (mkF m 2 #[.val (.int (0 : Int32)), .val (.int (1 : Int32))] [(.int (1 : Int32)), (.int (0 : Int32))])) rfl (hb hby own_d13_2)
  refine own_st stg2 ?_
  obtain ⟨_, _, ⟨Tg5, Lg5, kg5, ng5⟩, -, Xg5, ⟨Lcg5, hQg5, lg5, yg5, zg5⟩, stg5⟩ := Jvm.LawKit.callS Xg2 hx (y := (⟨"jdk/internal/util/Preconditions", "checkIndex", "(IILjava/util/function/BiFunction;)I"⟩ : MethodName)) hown (mvT hZ (hw _ (List.mem_of_getElem? (i := 74) rfl))) (mvT hZ (hw _ (List.mem_of_getElem? (i := 75) rfl))) (mvT hZ (hw _ (List.mem_of_getElem? (i := 73) rfl))) (mvT hZ (hw _ (List.mem_of_getElem? (i := 76) rfl))) (by decide) (backOf (W := 0) (own_rm14_n l Z a0 hw []  h0 n0 Z0) hZ (hw _ (List.mem_of_getElem? (i := 76) rfl)) (hw _ (List.mem_of_getElem? (i := 73) rfl)) (by decide) (by decide)) (g := (mkF m 5 #[.val (.int (0 : Int32)), .val (.int (1 : Int32))] [.null, (.int (1 : Int32)), (.int (0 : Int32))])) rfl (by rw [hml]; rfl) (argsL := [(.int (0 : Int32)), (.int (1 : Int32)), .null]) (rest := []) (lenOf own_pd1 rfl) rfl (by show 2 * 0 + _ ≤ _; exact Nat.le_of_eq rfl) (hb hby own_d13_5) (fun _ _ => ⟨rfl, eg2, (by decide : 0 + 0 ≤ _), (by decide : 0 + 0 ≤ _)⟩)
  dsimp only [Pt.U, Pt.locs, Pt.cells, Pt.slots] at Xg5 lg5 yg5 zg5 stg5 hQg5
  subst lg5 yg5 zg5
  obtain ⟨rfl, Ng5q, eg5⟩ := hQg5
  have Ng5 := Fr.app N0 Ng5q
  refine own_st (stg5) ?_
  refine own_st (B := Tg5.setTop (mkF m 9 #[.val (.int (0 : Int32)), .val (.int (1 : Int32))] [])) (fun target kt => ?_) ?_
  · show Steps p.tables e below (Tg5.setTop (mkF m 8 #[.val (.int (0 : Int32)), .val (.int (1 : Int32))] [(.int (0 : Int32))])) target
    refine XS.pop Xg5.here hx rfl (hb hby own_d13_8) rfl rfl ?_
    exact kt
  obtain ⟨fs, hr, hrun, hended, hW, hsame⟩ := Xg5.leave (v := none) (fun _ => rfl)
  have hend : Steps p.tables e below (Tg5.setTop (mkF m 9 #[.val (.int (0 : Int32)), .val (.int (1 : Int32))] [])) (Tg5.setFrames fs) := by
    exact Xg5.returnOut hx Bd.returns (hb hby own_d13_9) hr
  refine own_fin hend ⟨_, hrun, hended, _, _, rfl, ?_, ⟨_, rfl⟩, hW, hsame.mono (by decide) (by decide)⟩
  show own_Q13_n Z  h0 n0 _ Tg5.heap _
  rw [eg5]
  exact ⟨rfl, Ng5, rfl⟩
theorem own_ef13_r (m : MethodId)  : entryFrame m #[(.int (0 : Int32)), (.int (1 : Int32))] 2 = mkF m 0 #[.val (.int (0 : Int32)), .val (.int (1 : Int32))] [] := by first | (simp [entryFrame, mkF, argsToLocals, Value.category]; done) | rfl
def own_Q13_r (Z : State) (fa : Addr) (h0 : Heap) (n0 : Nat) (v : Option Value) (h : Heap) (L : List Loc) : Prop := (v = none) ∧ (Fr n0 L) ∧ (h = h0)
set_option maxRecDepth 65536 in
set_option maxHeartbeats 40000000 in
theorem own_rm13_r (l : Launch) (Z : State) (a0 : Array Value) (hw : ∀ d ∈ tables_1, d.before a0 Z = true) (ws : List Jvm.Cond) (fa : Addr) (h0 : Heap) (n0 : Nat) (Z0 : n0 ≤ h0.size) (hsf : Sta Z h0 "jdk/internal/util/Preconditions" "SIOOBE_FORMATTER" "Ljava/util/function/BiFunction;" (.ref fa)) :
    MetFree l (⟨"java/lang/String", "checkIndex", "(II)V"⟩ : MethodName) (head1 (Jvm.Cond.code (⟨"java/lang/String", "checkIndex", "(II)V"⟩ : MethodName) jdk_42_method_155_code 2 none :: ws) ({ frames := 1, cells := 0, slots := 0, locals := 14 } : Room)) (fun a U => a = #[(.int (0 : Int32)), (.int (1 : Int32))] ∧ Z.Warmed39 U.vm ∧ U.heap = h0) (fun _ _ _ _ _ => True) (fun _ U o U' => ∃ v L, o = .returned v ∧ own_Q13_r Z fa h0 n0 v U'.heap L ∧ FrameEnd U o U' L ({ frames := 1, cells := 0, slots := 0, locals := 14 } : Room).cells ({ frames := 1, cells := 0, slots := 0, locals := 14 } : Room).slots) := by
  refine MetFree.of_bodySF (plainFor_of_name own_pn2) hisR ?_
  intro p e s m args below meth c s₁ Bd hml0 hP hK
  obtain ⟨rfl, hZ, hh⟩ := hP
  have hx := Bd.exec
  have hby := Bd.bytes
  have hml : c.maxLocals = 2 := hml0
  have hown : s.vm.findClass "java/lang/String" = some m.cls := findClass_of_methodNamed Bd.named
  have hnm := (name_of_methodNamed Bd.named Bd.method).1
  have X0 : Stand p l e ({ frames := 1, cells := 0, slots := 0, locals := 14 } : Room) s m #[(.int (0 : Int32)), (.int (1 : Int32))] below meth c s₁ [] 0 0 := Stand.of_body Bd
  have e0 : s₁.heap = h0 := by rw [← hh, Bd.state]; rfl
  have N0 := Fr.nil n0
  have pre0 : ∀ t, Steps p.tables e below (s₁.setTop (mkF m 0 #[.val (.int (0 : Int32)), .val (.int (1 : Int32))] [])) t → Steps p.tables e below (s₁.setTop (entryFrame m #[(.int (0 : Int32)), (.int (1 : Int32))] 2)) t := fun t k => castTop (own_ef13_r m ) k
  refine own_run (own_st pre0 ?_)
  refine own_st (B := s₁.setTop (mkF m 2 #[.val (.int (0 : Int32)), .val (.int (1 : Int32))] [(.int (1 : Int32)), (.int (0 : Int32))])) (fun target kt => ?_) ?_
  · show Steps p.tables e below (s₁.setTop (mkF m 0 #[.val (.int (0 : Int32)), .val (.int (1 : Int32))] [])) target
    refine XS.iloadN X0.here hx rfl (hb hby own_d13_0) rfl ?_
    show Steps p.tables e below (s₁.setTop (mkF m 1 #[.val (.int (0 : Int32)), .val (.int (1 : Int32))] [(.int (0 : Int32))])) target
    refine XS.iloadN X0.here hx rfl (hb hby own_d13_1) rfl ?_
    exact kt
  obtain ⟨Tg2, Xg2, eg2, stg2⟩ := getS2 X0 hx hZ hown (host := "") (Or.inl (hw _ (List.mem_of_getElem? (i := 72) rfl))) Via.refl e0 hsf (g := (mkF m 2 #[.val (.int (0 : Int32)), .val (.int (1 : Int32))] [(.int (1 : Int32)), (.int (0 : Int32))])) rfl (hb hby own_d13_2)
  refine own_st stg2 ?_
  obtain ⟨_, _, ⟨Tg5, Lg5, kg5, ng5⟩, -, Xg5, ⟨Lcg5, hQg5, lg5, yg5, zg5⟩, stg5⟩ := Jvm.LawKit.callS Xg2 hx (y := (⟨"jdk/internal/util/Preconditions", "checkIndex", "(IILjava/util/function/BiFunction;)I"⟩ : MethodName)) hown (mvT hZ (hw _ (List.mem_of_getElem? (i := 74) rfl))) (mvT hZ (hw _ (List.mem_of_getElem? (i := 75) rfl))) (mvT hZ (hw _ (List.mem_of_getElem? (i := 73) rfl))) (mvT hZ (hw _ (List.mem_of_getElem? (i := 76) rfl))) (by decide) (backOf (W := 0) (own_rm14_r l Z a0 hw [] fa h0 n0 Z0) hZ (hw _ (List.mem_of_getElem? (i := 76) rfl)) (hw _ (List.mem_of_getElem? (i := 73) rfl)) (by decide) (by decide)) (g := (mkF m 5 #[.val (.int (0 : Int32)), .val (.int (1 : Int32))] [(.ref fa), (.int (1 : Int32)), (.int (0 : Int32))])) rfl (by rw [hml]; rfl) (argsL := [(.int (0 : Int32)), (.int (1 : Int32)), (.ref fa)]) (rest := []) (lenOf own_pd1 rfl) rfl (by show 2 * 0 + _ ≤ _; exact Nat.le_of_eq rfl) (hb hby own_d13_5) (fun _ _ => ⟨rfl, eg2, (by decide : 0 + 0 ≤ _), (by decide : 0 + 0 ≤ _)⟩)
  dsimp only [Pt.U, Pt.locs, Pt.cells, Pt.slots] at Xg5 lg5 yg5 zg5 stg5 hQg5
  subst lg5 yg5 zg5
  obtain ⟨rfl, Ng5q, eg5⟩ := hQg5
  have Ng5 := Fr.app N0 Ng5q
  refine own_st (stg5) ?_
  refine own_st (B := Tg5.setTop (mkF m 9 #[.val (.int (0 : Int32)), .val (.int (1 : Int32))] [])) (fun target kt => ?_) ?_
  · show Steps p.tables e below (Tg5.setTop (mkF m 8 #[.val (.int (0 : Int32)), .val (.int (1 : Int32))] [(.int (0 : Int32))])) target
    refine XS.pop Xg5.here hx rfl (hb hby own_d13_8) rfl rfl ?_
    exact kt
  obtain ⟨fs, hr, hrun, hended, hW, hsame⟩ := Xg5.leave (v := none) (fun _ => rfl)
  have hend : Steps p.tables e below (Tg5.setTop (mkF m 9 #[.val (.int (0 : Int32)), .val (.int (1 : Int32))] [])) (Tg5.setFrames fs) := by
    exact Xg5.returnOut hx Bd.returns (hb hby own_d13_9) hr
  refine own_fin hend ⟨_, hrun, hended, _, _, rfl, ?_, ⟨_, rfl⟩, hW, hsame.mono (by decide) (by decide)⟩
  show own_Q13_r Z fa h0 n0 _ Tg5.heap _
  rw [eg5]
  exact ⟨rfl, Ng5, rfl⟩
theorem own_rm13 (l : Launch) (Z : State) (a0 : Array Value) (hw : ∀ d ∈ tables_1, d.before a0 Z = true) (ws : List Jvm.Cond)  (vf : Value) (h0 : Heap) (n0 : Nat) (Z0 : n0 ≤ h0.size) (hsf : Sta Z h0 "jdk/internal/util/Preconditions" "SIOOBE_FORMATTER" "Ljava/util/function/BiFunction;" vf) (hvf : vf.isRef = true) :
    MetFree l (⟨"java/lang/String", "checkIndex", "(II)V"⟩ : MethodName) (head1 (Jvm.Cond.code (⟨"java/lang/String", "checkIndex", "(II)V"⟩ : MethodName) jdk_42_method_155_code 2 none :: ws) ({ frames := 1, cells := 0, slots := 0, locals := 14 } : Room)) (fun a U => a = #[(.int (0 : Int32)), (.int (1 : Int32))] ∧ Z.Warmed39 U.vm ∧ U.heap = h0) (fun _ _ _ _ _ => True) (fun _ U o U' => ∃ v L, o = .returned v ∧ own_Q13_n Z  h0 n0 v U'.heap L ∧ FrameEnd U o U' L ({ frames := 1, cells := 0, slots := 0, locals := 14 } : Room).cells ({ frames := 1, cells := 0, slots := 0, locals := 14 } : Room).slots) := by
  cases vf with
  | null => exact own_rm13_n l Z a0 hw ws h0 n0 Z0 hsf
  | ref fa => exact own_rm13_r l Z a0 hw ws fa h0 n0 Z0 hsf
  | _ => exact absurd hvf (by simp [Value.isRef])
theorem own_pd2 : parseMethodDescriptor "(II)V" = some ⟨[.int, .int], none⟩ := by decide +kernel
theorem own_pn4 : plainName "java/lang/StringLatin1" = true := by first | (simp [plainName, overriddenIn]; done) | decide +kernel
theorem own_d12_0 : decode jdk_43_method_2_code 0 = .ok (.iload_n 1, 1) := by decide +kernel
theorem own_d12_1 : decode jdk_43_method_2_code 1 = .ok (.aload_n 0, 1) := by decide +kernel
theorem own_d12_2 : decode jdk_43_method_2_code 2 = .ok (.arraylength, 1) := by decide +kernel
theorem own_d12_3 : decode jdk_43_method_2_code 3 = .ok (.invokestatic 9, 3) := by decide +kernel
theorem own_d12_6 : decode jdk_43_method_2_code 6 = .ok (.aload_n 0, 1) := by decide +kernel
theorem own_d12_7 : decode jdk_43_method_2_code 7 = .ok (.iload_n 1, 1) := by decide +kernel
theorem own_d12_8 : decode jdk_43_method_2_code 8 = .ok (.baload, 1) := by decide +kernel
theorem own_d12_9 : decode jdk_43_method_2_code 9 = .ok (.sipush 255, 3) := by decide +kernel
theorem own_d12_12 : decode jdk_43_method_2_code 12 = .ok (.iand, 1) := by decide +kernel
theorem own_d12_13 : decode jdk_43_method_2_code 13 = .ok (.i2c, 1) := by decide +kernel
theorem own_d12_14 : decode jdk_43_method_2_code 14 = .ok (.ireturn, 1) := by decide +kernel
theorem own_ef12 (m : MethodId) (r0 : Addr) : entryFrame m #[(.ref r0), (.int (0 : Int32))] 2 = mkF m 0 #[.val (.ref r0), .val (.int (0 : Int32))] [] := by first | (simp [entryFrame, mkF, argsToLocals, Value.category]; done) | rfl
def own_Q12 (Z : State) (r0 : Addr) (vf : Value) (h0 : Heap) (n0 : Nat) (v : Option Value) (h : Heap) (L : List Loc) : Prop := (v = some (.int (110 : Int32))) ∧ (Fr n0 L) ∧ (h = h0)
set_option maxRecDepth 65536 in
set_option maxHeartbeats 40000000 in
theorem own_rm12 (l : Launch) (Z : State) (a0 : Array Value) (hw : ∀ d ∈ tables_1, d.before a0 Z = true) (ws : List Jvm.Cond) (r0 : Addr) (vf : Value) (h0 : Heap) (n0 : Nat) (Z0 : n0 ≤ h0.size) (R_r0 : own_RayB Z h0 r0 1 (fun _ => (110 : Int32))) (hsf : Sta Z h0 "jdk/internal/util/Preconditions" "SIOOBE_FORMATTER" "Ljava/util/function/BiFunction;" vf) (hvf : vf.isRef = true) :
    MetFree l (⟨"java/lang/StringLatin1", "charAt", "([BI)C"⟩ : MethodName) (head1 (Jvm.Cond.code (⟨"java/lang/StringLatin1", "charAt", "([BI)C"⟩ : MethodName) jdk_43_method_2_code 2 (some .char) :: ws) ({ frames := 2, cells := 0, slots := 0, locals := 27 } : Room)) (fun a U => a = #[(.ref r0), (.int (0 : Int32))] ∧ Z.Warmed39 U.vm ∧ U.heap = h0) (fun _ _ _ _ _ => True) (fun _ U o U' => ∃ v L, o = .returned v ∧ own_Q12 Z r0 vf h0 n0 v U'.heap L ∧ FrameEnd U o U' L ({ frames := 2, cells := 0, slots := 0, locals := 27 } : Room).cells ({ frames := 2, cells := 0, slots := 0, locals := 27 } : Room).slots) := by
  refine MetFree.of_bodySF (plainFor_of_name own_pn4) hisR ?_
  intro p e s m args below meth c s₁ Bd hml0 hP hK
  obtain ⟨rfl, hZ, hh⟩ := hP
  have hx := Bd.exec
  have hby := Bd.bytes
  have hml : c.maxLocals = 2 := hml0
  have hown : s.vm.findClass "java/lang/StringLatin1" = some m.cls := findClass_of_methodNamed Bd.named
  have hnm := (name_of_methodNamed Bd.named Bd.method).1
  have X0 : Stand p l e ({ frames := 2, cells := 0, slots := 0, locals := 27 } : Room) s m #[(.ref r0), (.int (0 : Int32))] below meth c s₁ [] 0 0 := Stand.of_body Bd
  have e0 : s₁.heap = h0 := by rw [← hh, Bd.state]; rfl
  have N0 := Fr.nil n0
  have pre0 : ∀ t, Steps p.tables e below (s₁.setTop (mkF m 0 #[.val (.ref r0), .val (.int (0 : Int32))] [])) t → Steps p.tables e below (s₁.setTop (entryFrame m #[(.ref r0), (.int (0 : Int32))] 2)) t := fun t k => castTop (own_ef12 m r0) k
  refine own_run (own_st pre0 ?_)
  refine own_st (B := s₁.setTop (mkF m 2 #[.val (.ref r0), .val (.int (0 : Int32))] [(.ref r0), (.int (0 : Int32))])) (fun target kt => ?_) ?_
  · show Steps p.tables e below (s₁.setTop (mkF m 0 #[.val (.ref r0), .val (.int (0 : Int32))] [])) target
    refine XS.iloadN X0.here hx rfl (hb hby own_d12_0) rfl ?_
    show Steps p.tables e below (s₁.setTop (mkF m 1 #[.val (.ref r0), .val (.int (0 : Int32))] [(.int (0 : Int32))])) target
    refine XS.aloadN X0.here hx rfl (hb hby own_d12_1) rfl rfl ?_
    exact kt
  obtain ⟨clg2, Arg2, Szg2, -⟩ := id R_r0
  refine own_st (B := s₁.setTop (mkF m 3 #[.val (.ref r0), .val (.int (0 : Int32))] [(.int (1 : Int32)), (.int (0 : Int32))])) (fun target kt => ?_) ?_
  · refine X0.arraylength hx (by first | exact Arg2.1 | (rw [e0]; exact Arg2.1)) (State.isArrayOf_alike hZ.alike Arg2.2.1) (g := (mkF m 2 #[.val (.ref r0), .val (.int (0 : Int32))] [(.ref r0), (.int (0 : Int32))])) rfl rfl (hb hby own_d12_2) _ ?_
    rw [Szg2]
    exact kt
  obtain ⟨_, _, ⟨Tg3, Lg3, kg3, ng3⟩, -, Xg3, ⟨Lcg3, hQg3, lg3, yg3, zg3⟩, stg3⟩ := Jvm.LawKit.callS X0 hx (y := (⟨"java/lang/String", "checkIndex", "(II)V"⟩ : MethodName)) hown (mvT hZ (hw _ (List.mem_of_getElem? (i := 69) rfl))) (mvT hZ (hw _ (List.mem_of_getElem? (i := 70) rfl))) (mvT hZ (hw _ (List.mem_of_getElem? (i := 9) rfl))) (mvT hZ (hw _ (List.mem_of_getElem? (i := 71) rfl))) (by decide) (backOf (W := 0) (own_rm13 l Z a0 hw [] vf h0 n0 Z0 (show Sta Z h0 "jdk/internal/util/Preconditions" "SIOOBE_FORMATTER" "Ljava/util/function/BiFunction;" vf from hsf) (show vf.isRef = true from hvf)) hZ (hw _ (List.mem_of_getElem? (i := 71) rfl)) (hw _ (List.mem_of_getElem? (i := 9) rfl)) (by decide) (by decide)) (g := (mkF m 3 #[.val (.ref r0), .val (.int (0 : Int32))] [(.int (1 : Int32)), (.int (0 : Int32))])) rfl (by rw [hml]; rfl) (argsL := [(.int (0 : Int32)), (.int (1 : Int32))]) (rest := []) (lenOf own_pd2 rfl) rfl (by show 2 * 0 + _ ≤ _; exact Nat.le_of_eq rfl) (hb hby own_d12_3) (fun _ _ => ⟨rfl, e0, (by decide : 0 + 0 ≤ _), (by decide : 0 + 0 ≤ _)⟩)
  dsimp only [Pt.U, Pt.locs, Pt.cells, Pt.slots] at Xg3 lg3 yg3 zg3 stg3 hQg3
  subst lg3 yg3 zg3
  obtain ⟨rfl, Ng3q, eg3⟩ := hQg3
  have Ng3 := Fr.app N0 Ng3q
  refine own_st (stg3) ?_
  refine own_st (B := Tg3.setTop (mkF m 8 #[.val (.ref r0), .val (.int (0 : Int32))] [(.int (0 : Int32)), (.ref r0)])) (fun target kt => ?_) ?_
  · show Steps p.tables e below (Tg3.setTop (mkF m 6 #[.val (.ref r0), .val (.int (0 : Int32))] [])) target
    refine XS.aloadN Xg3.here hx rfl (hb hby own_d12_6) rfl rfl ?_
    show Steps p.tables e below (Tg3.setTop (mkF m 7 #[.val (.ref r0), .val (.int (0 : Int32))] [(.ref r0)])) target
    refine XS.iloadN Xg3.here hx rfl (hb hby own_d12_7) rfl ?_
    exact kt
  obtain ⟨clg8, Arg8, Szg8, Atg8⟩ := id R_r0
  have hing8 : ¬ ((0 : Int32) < 0 ∨ clg8.slots.size ≤ ((0 : Int32)).toNatClampNeg) := own_inb Szg8 (by decide)
  have hatg8 : clg8.slots[((0 : Int32)).toNatClampNeg]? = some (.int ((fun _ => (110 : Int32)) ((0 : Int32)).toNatClampNeg)) := own_RayB_nth Atg8 Szg8 hing8
  refine own_st (B := Tg3.setTop (mkF m 9 #[.val (.ref r0), .val (.int (0 : Int32))] [(.int ((fun _ => (110 : Int32)) 0))])) (fun target kt => ?_) ?_
  · refine Xg3.baloadBytes hx (j := (0 : Int32)) (v := (.int ((fun _ => (110 : Int32)) ((0 : Int32)).toNatClampNeg))) (by first | exact Arg8.1 | (rw [eg3]; exact Arg8.1)) (State.isArrayOf_alike hZ.alike Arg8.2.1) Arg8.2.2 hing8 hatg8 (g := (mkF m 8 #[.val (.ref r0), .val (.int (0 : Int32))] [(.int (0 : Int32)), (.ref r0)])) rfl rfl (hb hby own_d12_8) _ ?_
    exact kt
  refine own_st (B := Tg3.setTop (mkF m 14 #[.val (.ref r0), .val (.int (0 : Int32))] [(.int ((((fun _ => (110 : Int32)) 0) &&& (255 : Int32)).toUInt32.toUInt16.toUInt32.toInt32))])) (fun target kt => ?_) ?_
  · show Steps p.tables e below (Tg3.setTop (mkF m 9 #[.val (.ref r0), .val (.int (0 : Int32))] [(.int ((fun _ => (110 : Int32)) 0))])) target
    refine XS.sipush Xg3.here hx rfl (hb hby own_d12_9) ?_
    show Steps p.tables e below (Tg3.setTop (mkF m 12 #[.val (.ref r0), .val (.int (0 : Int32))] [(.int (255 : Int32)), (.int ((fun _ => (110 : Int32)) 0))])) target
    refine XS.iand Xg3.here hx rfl (hb hby own_d12_12) rfl ?_
    show Steps p.tables e below (Tg3.setTop (mkF m 13 #[.val (.ref r0), .val (.int (0 : Int32))] [(.int (((fun _ => (110 : Int32)) 0) &&& (255 : Int32)))])) target
    refine XS.i2c Xg3.here hx rfl (hb hby own_d12_13) rfl ?_
    exact kt
  obtain ⟨fs, hr, hrun, hended, hW, hsame⟩ := Xg3.leave (v := some (.int (nar .char ((((fun _ => (110 : Int32)) 0) &&& (255 : Int32)).toUInt32.toUInt16.toUInt32.toInt32)))) (fun h => by rw [Bd.returns] at h; cases h)
  have hend : Steps p.tables e below (Tg3.setTop (mkF m 14 #[.val (.ref r0), .val (.int (0 : Int32))] [(.int ((((fun _ => (110 : Int32)) 0) &&& (255 : Int32)).toUInt32.toUInt16.toUInt32.toInt32))])) (Tg3.setFrames fs) := by
    exact retN Xg3 hx (t := .char) Bd.returns (by simp) (hb hby own_d12_14) hr
  refine own_fin hend ⟨_, hrun, hended, _, _, rfl, ?_, ⟨_, rfl⟩, hW, hsame.mono (by decide) (by decide)⟩
  show own_Q12 Z r0 vf h0 n0 _ Tg3.heap _
  rw [eg3]
  exact ⟨(congrArg (fun z => some (Value.int z)) (by decide)), Ng3, rfl⟩
theorem own_pd3 : parseMethodDescriptor "()Z" = some ⟨[], some .boolean⟩ := by decide +kernel
theorem own_pd4 : parseMethodDescriptor "([BI)C" = some ⟨[(.array .byte), .int], some .char⟩ := by decide +kernel
theorem own_d10_0 : decode jdk_42_method_56_code 0 = .ok (.aload_n 0, 1) := by decide +kernel
theorem own_d10_1 : decode jdk_42_method_56_code 1 = .ok (.invokevirtual 492, 3) := by decide +kernel
theorem own_d10_4 : decode jdk_42_method_56_code 4 = .ok (.ifCond .eq 12, 3) := by decide +kernel
theorem own_d10_7 : decode jdk_42_method_56_code 7 = .ok (.aload_n 0, 1) := by decide +kernel
theorem own_d10_8 : decode jdk_42_method_56_code 8 = .ok (.getfield 9, 3) := by decide +kernel
theorem own_d10_11 : decode jdk_42_method_56_code 11 = .ok (.iload_n 1, 1) := by decide +kernel
theorem own_d10_12 : decode jdk_42_method_56_code 12 = .ok (.invokestatic 495, 3) := by decide +kernel
theorem own_d10_15 : decode jdk_42_method_56_code 15 = .ok (.ireturn, 1) := by decide +kernel
theorem own_ef10 (m : MethodId) (r0 : Addr) : entryFrame m #[(.ref r0), (.int (0 : Int32))] 2 = mkF m 0 #[.val (.ref r0), .val (.int (0 : Int32))] [] := by first | (simp [entryFrame, mkF, argsToLocals, Value.category]; done) | rfl
def own_Q10 (Z : State) (r0 : Addr) (cs : Int32) (vf : Value) (rb : Addr) (h0 : Heap) (n0 : Nat) (v : Option Value) (h : Heap) (L : List Loc) : Prop := (v = some (.int (110 : Int32))) ∧ (Fr n0 L) ∧ (h = h0)
set_option maxRecDepth 65536 in
set_option maxHeartbeats 40000000 in
theorem own_rm10 (l : Launch) (Z : State) (a0 : Array Value) (hw : ∀ d ∈ tables_1, d.before a0 Z = true) (ws : List Jvm.Cond) (r0 : Addr) (cs : Int32) (vf : Value) (rb : Addr) (h0 : Heap) (n0 : Nat) (Z0 : n0 ≤ h0.size) (E_r0 : Exa Z h0 r0 "java/lang/String") (F_r0_value : Fld Z h0 r0 "java/lang/String" "value" "[B" (.ref rb)) (F_r0_coder : Fld Z h0 r0 "java/lang/String" "coder" "B" (.int (0 : Int32))) (R_rb : own_RayB Z h0 rb 1 (fun _ => (110 : Int32))) (hcs : Sta Z h0 "java/lang/String" "COMPACT_STRINGS" "Z" (.int cs)) (hcs0 : ¬ cs = 0) (hsf : Sta Z h0 "jdk/internal/util/Preconditions" "SIOOBE_FORMATTER" "Ljava/util/function/BiFunction;" vf) (hvf : vf.isRef = true) :
    MetFree l (⟨"java/lang/String", "charAt", "(I)C"⟩ : MethodName) (head1 (Jvm.Cond.code (⟨"java/lang/String", "charAt", "(I)C"⟩ : MethodName) jdk_42_method_56_code 2 (some .char) :: ws) ({ frames := 3, cells := 0, slots := 0, locals := 40 } : Room)) (fun a U => a = #[(.ref r0), (.int (0 : Int32))] ∧ Z.Warmed39 U.vm ∧ U.heap = h0) (fun _ _ _ _ _ => True) (fun _ U o U' => ∃ v L, o = .returned v ∧ own_Q10 Z r0 cs vf rb h0 n0 v U'.heap L ∧ FrameEnd U o U' L ({ frames := 3, cells := 0, slots := 0, locals := 40 } : Room).cells ({ frames := 3, cells := 0, slots := 0, locals := 40 } : Room).slots) := by
  refine MetFree.of_bodySF (plainFor_of_name own_pn2) hisR ?_
  intro p e s m args below meth c s₁ Bd hml0 hP hK
  obtain ⟨rfl, hZ, hh⟩ := hP
  have hx := Bd.exec
  have hby := Bd.bytes
  have hml : c.maxLocals = 2 := hml0
  have hown : s.vm.findClass "java/lang/String" = some m.cls := findClass_of_methodNamed Bd.named
  have hnm := (name_of_methodNamed Bd.named Bd.method).1
  have X0 : Stand p l e ({ frames := 3, cells := 0, slots := 0, locals := 40 } : Room) s m #[(.ref r0), (.int (0 : Int32))] below meth c s₁ [] 0 0 := Stand.of_body Bd
  have e0 : s₁.heap = h0 := by rw [← hh, Bd.state]; rfl
  have N0 := Fr.nil n0
  have pre0 : ∀ t, Steps p.tables e below (s₁.setTop (mkF m 0 #[.val (.ref r0), .val (.int (0 : Int32))] [])) t → Steps p.tables e below (s₁.setTop (entryFrame m #[(.ref r0), (.int (0 : Int32))] 2)) t := fun t k => castTop (own_ef10 m r0) k
  refine own_run (own_st pre0 ?_)
  refine own_st (B := s₁.setTop (mkF m 1 #[.val (.ref r0), .val (.int (0 : Int32))] [(.ref r0)])) (fun target kt => ?_) ?_
  · show Steps p.tables e below (s₁.setTop (mkF m 0 #[.val (.ref r0), .val (.int (0 : Int32))] [])) target
    refine XS.aloadN X0.here hx rfl (hb hby own_d10_0) rfl rfl ?_
    exact kt
  obtain ⟨cqg1, kqg1, qg1a, qg1b, qg1c⟩ := isOf hZ e0 E_r0
  obtain ⟨_, _, ⟨Tg1, Lg1, kg1, ng1⟩, -, Xg1, ⟨Lcg1, hQg1, lg1, yg1, zg1⟩, stg1⟩ := X0.virtualBack hx (y := (⟨"java/lang/String", "isLatin1", "()Z"⟩ : MethodName)) (z := (⟨"java/lang/String", "isLatin1", "()Z"⟩ : MethodName)) hown (mvT hZ (hw _ (List.mem_of_getElem? (i := 60) rfl))) (mvT hZ (hw _ (List.mem_of_getElem? (i := 61) rfl))) (notFace_of_selects (args := #[]) (mvT hZ (hw _ (List.mem_of_getElem? (i := 63) rfl)))) (mvT hZ (hw _ (List.mem_of_getElem? (i := 63) rfl))) (mvT hZ (hw _ (List.mem_of_getElem? (i := 62) rfl))) (by decide) (backOf (W := 0) (own_rm11 l Z a0 hw [] r0 cs h0 n0 Z0 E_r0 F_r0_coder (show Sta Z h0 "java/lang/String" "COMPACT_STRINGS" "Z" (.int cs) from hcs) (show ¬ cs = 0 from hcs0)) hZ (hw _ (List.mem_of_getElem? (i := 64) rfl)) (hw _ (List.mem_of_getElem? (i := 9) rfl)) (by decide) (by decide)) qg1a qg1c (g := (mkF m 1 #[.val (.ref r0), .val (.int (0 : Int32))] [(.ref r0)])) rfl (by rw [hml]; rfl) (Steps.refl _) (argsL := []) (rest := []) (lenOf own_pd3 rfl) rfl (by show 2 * 0 + _ ≤ _; exact Nat.le_of_eq rfl) (hb hby own_d10_1) (fun _ _ => ⟨rfl, e0, (by decide : 0 + 0 ≤ _), (by decide : 0 + 0 ≤ _)⟩)
  dsimp only [Pt.U, Pt.locs, Pt.cells, Pt.slots] at Xg1 lg1 yg1 zg1 stg1 hQg1
  subst lg1 yg1 zg1
  obtain ⟨rfl, Ng1q, eg1⟩ := hQg1
  have Ng1 := Fr.app N0 Ng1q
  refine own_st (fun _ k => stg1.trans k) ?_
  refine own_st (B := Tg1.setTop (mkF m 8 #[.val (.ref r0), .val (.int (0 : Int32))] [(.ref r0)])) (fun target kt => ?_) ?_
  · show Steps p.tables e below (Tg1.setTop (mkF m 4 #[.val (.ref r0), .val (.int (0 : Int32))] [(.int (1 : Int32))])) target
    refine XS.ifNo Xg1.here hx rfl (hb hby own_d10_4) rfl ((if0 _ _).trans (feq (by decide : ¬ ((1 : Int32) = (0 : Int32)))).1) ?_
    show Steps p.tables e below (Tg1.setTop (mkF m 7 #[.val (.ref r0), .val (.int (0 : Int32))] [])) target
    refine XS.aloadN Xg1.here hx rfl (hb hby own_d10_7) rfl rfl ?_
    exact kt
  obtain ⟨Tg8, Xg8, eg8, stg8⟩ := getF Xg1 hx hZ hown (host := "") (Or.inl (hw _ (List.mem_of_getElem? (i := 42) rfl))) Via.refl eg1 F_r0_value (g := (mkF m 8 #[.val (.ref r0), .val (.int (0 : Int32))] [(.ref r0)])) rfl rfl (hb hby own_d10_8)
  refine own_st stg8 ?_
  refine own_st (B := Tg8.setTop (mkF m 12 #[.val (.ref r0), .val (.int (0 : Int32))] [(.int (0 : Int32)), (.ref rb)])) (fun target kt => ?_) ?_
  · show Steps p.tables e below (Tg8.setTop (mkF m 11 #[.val (.ref r0), .val (.int (0 : Int32))] [(.ref rb)])) target
    refine XS.iloadN Xg8.here hx rfl (hb hby own_d10_11) rfl ?_
    exact kt
  obtain ⟨_, _, ⟨Tg12, Lg12, kg12, ng12⟩, -, Xg12, ⟨Lcg12, hQg12, lg12, yg12, zg12⟩, stg12⟩ := Jvm.LawKit.callS Xg8 hx (y := (⟨"java/lang/StringLatin1", "charAt", "([BI)C"⟩ : MethodName)) hown (mvT hZ (hw _ (List.mem_of_getElem? (i := 65) rfl))) (mvT hZ (hw _ (List.mem_of_getElem? (i := 66) rfl))) (mvT hZ (hw _ (List.mem_of_getElem? (i := 67) rfl))) (mvT hZ (hw _ (List.mem_of_getElem? (i := 68) rfl))) (by decide) (backOf (W := 0) (own_rm12 l Z a0 hw [] rb vf h0 n0 Z0 R_rb (show Sta Z h0 "jdk/internal/util/Preconditions" "SIOOBE_FORMATTER" "Ljava/util/function/BiFunction;" vf from hsf) (show vf.isRef = true from hvf)) hZ (hw _ (List.mem_of_getElem? (i := 68) rfl)) (hw _ (List.mem_of_getElem? (i := 67) rfl)) (by decide) (by decide)) (g := (mkF m 12 #[.val (.ref r0), .val (.int (0 : Int32))] [(.int (0 : Int32)), (.ref rb)])) rfl (by rw [hml]; rfl) (argsL := [(.ref rb), (.int (0 : Int32))]) (rest := []) (lenOf own_pd4 rfl) rfl (by show 2 * 0 + _ ≤ _; exact Nat.le_of_eq rfl) (hb hby own_d10_12) (fun _ _ => ⟨rfl, eg8, (by decide : 0 + 0 ≤ _), (by decide : 0 + 0 ≤ _)⟩)
  dsimp only [Pt.U, Pt.locs, Pt.cells, Pt.slots] at Xg12 lg12 yg12 zg12 stg12 hQg12
  subst lg12 yg12 zg12
  obtain ⟨rfl, Ng12q, eg12⟩ := hQg12
  have Ng12 := Fr.app Ng1 Ng12q
  refine own_st (stg12) ?_
  obtain ⟨fs, hr, hrun, hended, hW, hsame⟩ := Xg12.leave (v := some (.int (110 : Int32))) (fun h => by rw [Bd.returns] at h; cases h)
  have hend : Steps p.tables e below (Tg12.setTop (mkF m 15 #[.val (.ref r0), .val (.int (0 : Int32))] [(.int (110 : Int32))])) (Tg12.setFrames fs) := by
    exact retN Xg12 hx (t := .char) Bd.returns (by simp) (hb hby own_d10_15) hr
  refine own_fin hend ⟨_, hrun, hended, _, _, rfl, ?_, ⟨_, rfl⟩, hW, hsame.mono (by decide) (by decide)⟩
  show own_Q10 Z r0 cs vf rb h0 n0 _ Tg12.heap _
  rw [eg12]
  exact ⟨(congrArg (fun z => some (Value.int z)) (by decide)), Ng12, rfl⟩
theorem own_pn5 : plainName "ringward/NodeConfig" = true := by first | (simp [plainName, overriddenIn]; done) | decide +kernel
theorem own_d15_0 : decode prog_65_method_13_code 0 = .ok (.iload_n 0, 1) := by decide +kernel
theorem own_d15_1 : decode prog_65_method_13_code 1 = .ok (.bipush 65, 2) := by decide +kernel
theorem own_d15_3 : decode prog_65_method_13_code 3 = .ok (.if_icmp .lt 9, 3) := by decide +kernel
theorem own_d15_6 : decode prog_65_method_13_code 6 = .ok (.iload_n 0, 1) := by decide +kernel
theorem own_d15_7 : decode prog_65_method_13_code 7 = .ok (.bipush 90, 2) := by decide +kernel
theorem own_d15_9 : decode prog_65_method_13_code 9 = .ok (.if_icmp .le 45, 3) := by decide +kernel
theorem own_d15_12 : decode prog_65_method_13_code 12 = .ok (.iload_n 0, 1) := by decide +kernel
theorem own_d15_13 : decode prog_65_method_13_code 13 = .ok (.bipush 97, 2) := by decide +kernel
theorem own_d15_15 : decode prog_65_method_13_code 15 = .ok (.if_icmp .lt 9, 3) := by decide +kernel
theorem own_d15_18 : decode prog_65_method_13_code 18 = .ok (.iload_n 0, 1) := by decide +kernel
theorem own_d15_19 : decode prog_65_method_13_code 19 = .ok (.bipush 122, 2) := by decide +kernel
theorem own_d15_21 : decode prog_65_method_13_code 21 = .ok (.if_icmp .le 33, 3) := by decide +kernel
theorem own_d15_54 : decode prog_65_method_13_code 54 = .ok (.iconst 1, 1) := by decide +kernel
theorem own_d15_55 : decode prog_65_method_13_code 55 = .ok (.goto 4, 3) := by decide +kernel
theorem own_d15_59 : decode prog_65_method_13_code 59 = .ok (.ireturn, 1) := by decide +kernel
theorem own_ef15 (m : MethodId)  : entryFrame m #[(.int (110 : Int32))] 1 = mkF m 0 #[.val (.int (110 : Int32))] [] := by first | (simp [entryFrame, mkF, argsToLocals, Value.category]; done) | rfl
def own_Q15 (Z : State)  (h0 : Heap) (n0 : Nat) (v : Option Value) (h : Heap) (L : List Loc) : Prop := (v = some (.int (1 : Int32))) ∧ (Fr n0 L) ∧ (h = h0)
set_option maxRecDepth 65536 in
set_option maxHeartbeats 40000000 in
theorem own_rm15 (l : Launch) (Z : State) (a0 : Array Value) (hw : ∀ d ∈ tables_1, d.before a0 Z = true) (ws : List Jvm.Cond)  (h0 : Heap) (n0 : Nat) (Z0 : n0 ≤ h0.size) :
    MetFree l (⟨"ringward/NodeConfig", "isNameCharacter", "(C)Z"⟩ : MethodName) (head1 (Jvm.Cond.code (⟨"ringward/NodeConfig", "isNameCharacter", "(C)Z"⟩ : MethodName) prog_65_method_13_code 1 (some .boolean) :: ws) ({ frames := 0, cells := 0, slots := 0, locals := 0 } : Room)) (fun a U => a = #[(.int (110 : Int32))] ∧ Z.Warmed39 U.vm ∧ U.heap = h0) (fun _ _ _ _ _ => True) (fun _ U o U' => ∃ v L, o = .returned v ∧ own_Q15 Z  h0 n0 v U'.heap L ∧ FrameEnd U o U' L ({ frames := 0, cells := 0, slots := 0, locals := 0 } : Room).cells ({ frames := 0, cells := 0, slots := 0, locals := 0 } : Room).slots) := by
  refine MetFree.of_bodySF (plainFor_of_name own_pn5) hisR ?_
  intro p e s m args below meth c s₁ Bd hml0 hP hK
  obtain ⟨rfl, hZ, hh⟩ := hP
  have hx := Bd.exec
  have hby := Bd.bytes
  have hml : c.maxLocals = 1 := hml0
  have hown : s.vm.findClass "ringward/NodeConfig" = some m.cls := findClass_of_methodNamed Bd.named
  have hnm := (name_of_methodNamed Bd.named Bd.method).1
  have X0 : Stand p l e ({ frames := 0, cells := 0, slots := 0, locals := 0 } : Room) s m #[(.int (110 : Int32))] below meth c s₁ [] 0 0 := Stand.of_body Bd
  have e0 : s₁.heap = h0 := by rw [← hh, Bd.state]; rfl
  have N0 := Fr.nil n0
  have pre0 : ∀ t, Steps p.tables e below (s₁.setTop (mkF m 0 #[.val (.int (110 : Int32))] [])) t → Steps p.tables e below (s₁.setTop (entryFrame m #[(.int (110 : Int32))] 1)) t := fun t k => castTop (own_ef15 m ) k
  refine own_run (own_st pre0 ?_)
  refine own_st (B := s₁.setTop (mkF m 59 #[.val (.int (110 : Int32))] [(.int (1 : Int32))])) (fun target kt => ?_) ?_
  · show Steps p.tables e below (s₁.setTop (mkF m 0 #[.val (.int (110 : Int32))] [])) target
    refine XS.iloadN X0.here hx rfl (hb hby own_d15_0) rfl ?_
    show Steps p.tables e below (s₁.setTop (mkF m 1 #[.val (.int (110 : Int32))] [(.int (110 : Int32))])) target
    refine XS.bipush X0.here hx rfl (hb hby own_d15_1) ?_
    show Steps p.tables e below (s₁.setTop (mkF m 3 #[.val (.int (110 : Int32))] [(.int (65 : Int32)), (.int (110 : Int32))])) target
    refine XS.icmpNo X0.here hx rfl (hb hby own_d15_3) rfl (flt (by decide : ¬ ((110 : Int32) < (65 : Int32)))).1 ?_
    show Steps p.tables e below (s₁.setTop (mkF m 6 #[.val (.int (110 : Int32))] [])) target
    refine XS.iloadN X0.here hx rfl (hb hby own_d15_6) rfl ?_
    show Steps p.tables e below (s₁.setTop (mkF m 7 #[.val (.int (110 : Int32))] [(.int (110 : Int32))])) target
    refine XS.bipush X0.here hx rfl (hb hby own_d15_7) ?_
    show Steps p.tables e below (s₁.setTop (mkF m 9 #[.val (.int (110 : Int32))] [(.int (90 : Int32)), (.int (110 : Int32))])) target
    refine XS.icmpNo X0.here hx rfl (hb hby own_d15_9) rfl (tlt (by decide : (90 : Int32) < (110 : Int32))).2.2.2 ?_
    show Steps p.tables e below (s₁.setTop (mkF m 12 #[.val (.int (110 : Int32))] [])) target
    refine XS.iloadN X0.here hx rfl (hb hby own_d15_12) rfl ?_
    show Steps p.tables e below (s₁.setTop (mkF m 13 #[.val (.int (110 : Int32))] [(.int (110 : Int32))])) target
    refine XS.bipush X0.here hx rfl (hb hby own_d15_13) ?_
    show Steps p.tables e below (s₁.setTop (mkF m 15 #[.val (.int (110 : Int32))] [(.int (97 : Int32)), (.int (110 : Int32))])) target
    refine XS.icmpNo X0.here hx rfl (hb hby own_d15_15) rfl (flt (by decide : ¬ ((110 : Int32) < (97 : Int32)))).1 ?_
    show Steps p.tables e below (s₁.setTop (mkF m 18 #[.val (.int (110 : Int32))] [])) target
    refine XS.iloadN X0.here hx rfl (hb hby own_d15_18) rfl ?_
    show Steps p.tables e below (s₁.setTop (mkF m 19 #[.val (.int (110 : Int32))] [(.int (110 : Int32))])) target
    refine XS.bipush X0.here hx rfl (hb hby own_d15_19) ?_
    show Steps p.tables e below (s₁.setTop (mkF m 21 #[.val (.int (110 : Int32))] [(.int (122 : Int32)), (.int (110 : Int32))])) target
    refine XS.icmpYes X0.here hx rfl (pc0 := 21) (pc' := 54) rfl (hb hby own_d15_21) rfl (flt (by decide : ¬ ((122 : Int32) < (110 : Int32)))).2.2.2 (by decide) (by decide) ?_
    show Steps p.tables e below (s₁.setTop (mkF m 54 #[.val (.int (110 : Int32))] [])) target
    refine XS.iconst X0.here hx rfl (hb hby own_d15_54) ?_
    show Steps p.tables e below (s₁.setTop (mkF m 55 #[.val (.int (110 : Int32))] [(.int (1 : Int32))])) target
    refine XS.goto X0.here hx rfl (pc0 := 55) (pc' := 59) rfl (hb hby own_d15_55) (by decide) (by decide) ?_
    exact kt
  obtain ⟨fs, hr, hrun, hended, hW, hsame⟩ := X0.leave (v := some (.int (1 : Int32))) (fun h => by rw [Bd.returns] at h; cases h)
  have hend : Steps p.tables e below (s₁.setTop (mkF m 59 #[.val (.int (110 : Int32))] [(.int (1 : Int32))])) (s₁.setFrames fs) := by
    exact retN X0 hx (t := .boolean) Bd.returns (by simp) (hb hby own_d15_59) hr
  refine own_fin hend ⟨_, hrun, hended, _, _, rfl, ?_, ⟨_, rfl⟩, hW, hsame.mono (by decide) (by decide)⟩
  show own_Q15 Z  h0 n0 _ s₁.heap _
  rw [e0]
  exact ⟨(congrArg (fun z => some (Value.int z)) (by rfl)), N0, rfl⟩
theorem own_pd5 : parseMethodDescriptor "(Ljava/lang/Object;Ljava/lang/String;)Ljava/lang/Object;" = some ⟨[(.object "java/lang/Object"), (.object "java/lang/String")], some (.object "java/lang/Object")⟩ := by decide +kernel
theorem own_pd6 : parseMethodDescriptor "()I" = some ⟨[], some .int⟩ := by decide +kernel
theorem own_pd7 : parseMethodDescriptor "(I)C" = some ⟨[.int], some .char⟩ := by decide +kernel
theorem own_pd8 : parseMethodDescriptor "(C)Z" = some ⟨[.char], some .boolean⟩ := by decide +kernel
theorem own_d5_0 : decode prog_65_method_12_code 0 = .ok (.aload_n 0, 1) := by decide +kernel
theorem own_d5_1 : decode prog_65_method_12_code 1 = .ok (.ldc 57, 2) := by decide +kernel
theorem own_d5_3 : decode prog_65_method_12_code 3 = .ok (.invokestatic 59, 3) := by decide +kernel
theorem own_d5_6 : decode prog_65_method_12_code 6 = .ok (.pop, 1) := by decide +kernel
theorem own_d5_7 : decode prog_65_method_12_code 7 = .ok (.aload_n 0, 1) := by decide +kernel
theorem own_d5_8 : decode prog_65_method_12_code 8 = .ok (.invokevirtual 65, 3) := by decide +kernel
theorem own_d5_11 : decode prog_65_method_12_code 11 = .ok (.ifCond .ne 16, 3) := by decide +kernel
theorem own_d5_14 : decode prog_65_method_12_code 14 = .ok (.aload_n 0, 1) := by decide +kernel
theorem own_d5_15 : decode prog_65_method_12_code 15 = .ok (.invokevirtual 71, 3) := by decide +kernel
theorem own_d5_18 : decode prog_65_method_12_code 18 = .ok (.bipush 64, 2) := by decide +kernel
theorem own_d5_20 : decode prog_65_method_12_code 20 = .ok (.if_icmp .gt 7, 3) := by decide +kernel
theorem own_d5_23 : decode prog_65_method_12_code 23 = .ok (.iconst 1, 1) := by decide +kernel
theorem own_d5_24 : decode prog_65_method_12_code 24 = .ok (.goto 4, 3) := by decide +kernel
theorem own_d5_28 : decode prog_65_method_12_code 28 = .ok (.istore_n 1, 1) := by decide +kernel
theorem own_d5_29 : decode prog_65_method_12_code 29 = .ok (.iconst 0, 1) := by decide +kernel
theorem own_d5_30 : decode prog_65_method_12_code 30 = .ok (.istore_n 2, 1) := by decide +kernel
theorem own_d5_31 : decode prog_65_method_12_code 31 = .ok (.iload_n 1, 1) := by decide +kernel
theorem own_d5_32 : decode prog_65_method_12_code 32 = .ok (.ifCond .eq 26, 3) := by decide +kernel
theorem own_d5_35 : decode prog_65_method_12_code 35 = .ok (.iload_n 2, 1) := by decide +kernel
theorem own_d5_36 : decode prog_65_method_12_code 36 = .ok (.aload_n 0, 1) := by decide +kernel
theorem own_d5_37 : decode prog_65_method_12_code 37 = .ok (.invokevirtual 71, 3) := by decide +kernel
theorem own_d5_40 : decode prog_65_method_12_code 40 = .ok (.if_icmp .ge 18, 3) := by decide +kernel
theorem own_d5_43 : decode prog_65_method_12_code 43 = .ok (.aload_n 0, 1) := by decide +kernel
theorem own_d5_44 : decode prog_65_method_12_code 44 = .ok (.iload_n 2, 1) := by decide +kernel
theorem own_d5_45 : decode prog_65_method_12_code 45 = .ok (.invokevirtual 75, 3) := by decide +kernel
theorem own_d5_48 : decode prog_65_method_12_code 48 = .ok (.invokestatic 79, 3) := by decide +kernel
theorem own_d5_51 : decode prog_65_method_12_code 51 = .ok (.istore_n 1, 1) := by decide +kernel
theorem own_d5_52 : decode prog_65_method_12_code 52 = .ok (.iinc 2 1, 3) := by decide +kernel
theorem own_d5_55 : decode prog_65_method_12_code 55 = .ok (.goto (-24), 3) := by decide +kernel
theorem own_d5_58 : decode prog_65_method_12_code 58 = .ok (.iload_n 1, 1) := by decide +kernel
theorem own_d5_59 : decode prog_65_method_12_code 59 = .ok (.ifCond .ne 17, 3) := by decide +kernel
theorem own_d5_76 : decode prog_65_method_12_code 76 = .ok (.aload_n 0, 1) := by decide +kernel
theorem own_d5_77 : decode prog_65_method_12_code 77 = .ok (.areturn, 1) := by decide +kernel
theorem own_ef5 (m : MethodId) (r0 : Addr) : entryFrame m #[(.ref r0)] 3 = mkF m 0 #[.val (.ref r0), .unset, .unset] [] := by first | (simp [entryFrame, mkF, argsToLocals, Value.category]; done) | rfl
def own_Q5 (Z : State) (r0 : Addr) (cs : Int32) (vf : Value) (rb : Addr) (h0 : Heap) (n0 : Nat) (v : Option Value) (h : Heap) (L : List Loc) : Prop := (v = some (.ref r0)) ∧ (Fr n0 L) ∧ (Keep h0 h [])
set_option maxRecDepth 65536 in
set_option maxHeartbeats 40000000 in
theorem own_rm5 (l : Launch) (Z : State) (a0 : Array Value) (hw : ∀ d ∈ tables_1, d.before a0 Z = true) (ws : List Jvm.Cond) (r0 : Addr) (cs : Int32) (vf : Value) (rb : Addr) (h0 : Heap) (n0 : Nat) (Z0 : n0 ≤ h0.size) (E_r0 : Exa Z h0 r0 "java/lang/String") (F_r0_value : Fld Z h0 r0 "java/lang/String" "value" "[B" (.ref rb)) (F_r0_coder : Fld Z h0 r0 "java/lang/String" "coder" "B" (.int (0 : Int32))) (R_rb : own_RayB Z h0 rb 1 (fun _ => (110 : Int32))) (hcs : Sta Z h0 "java/lang/String" "COMPACT_STRINGS" "Z" (.int cs)) (hcs0 : ¬ cs = 0) (hsf : Sta Z h0 "jdk/internal/util/Preconditions" "SIOOBE_FORMATTER" "Ljava/util/function/BiFunction;" vf) (hvf : vf.isRef = true) :
    MetFree l (⟨"ringward/NodeConfig", "requireValidName", "(Ljava/lang/String;)Ljava/lang/String;"⟩ : MethodName) (head1 (Jvm.Cond.code (⟨"ringward/NodeConfig", "requireValidName", "(Ljava/lang/String;)Ljava/lang/String;"⟩ : MethodName) prog_65_method_12_code 3 (some (.object "java/lang/String")) :: ws) ({ frames := 4, cells := 2, slots := 96, locals := 53 } : Room)) (fun a U => a = #[(.ref r0)] ∧ Z.Warmed39 U.vm ∧ U.heap = h0) (fun _ _ _ _ _ => True) (fun _ U o U' => ∃ v L, o = .returned v ∧ own_Q5 Z r0 cs vf rb h0 n0 v U'.heap L ∧ ReturnedEndW U o U' L ({ frames := 4, cells := 2, slots := 96, locals := 53 } : Room).cells ({ frames := 4, cells := 2, slots := 96, locals := 53 } : Room).slots) := by
  refine MetFree.of_bodySF (plainFor_of_name own_pn5) hisR ?_
  intro p e s m args below meth c s₁ Bd hml0 hP hK
  obtain ⟨rfl, hZ, hh⟩ := hP
  have hx := Bd.exec
  have hby := Bd.bytes
  have hml : c.maxLocals = 3 := hml0
  have hown : s.vm.findClass "ringward/NodeConfig" = some m.cls := findClass_of_methodNamed Bd.named
  have hnm := (name_of_methodNamed Bd.named Bd.method).1
  have hS : s.Since s.vm s.heap.size := (State.WarmedH.refl s).since _
  have hk : s.heap.size ≤ h0.size := by rw [← hh]; exact Nat.le_refl _
  have hZ : Z.Warmed39 (s.setVm s.vm).vm := hZ
  have hown : (s.setVm s.vm).vm.findClass "ringward/NodeConfig" = some m.cls := hown
  have X0 : Stand p l e ({ frames := 4, cells := 2, slots := 96, locals := 53 } : Room) (s.setVm s.vm) m #[(.ref r0)] below meth c s₁ [] 0 0 := Stand.of_body Bd
  have e0 : s₁.heap = h0 := by rw [← hh, Bd.state]; rfl
  have N0 := Fr.nil n0
  have pre0 : ∀ t, Steps p.tables e below (s₁.setTop (mkF m 0 #[.val (.ref r0), .unset, .unset] [])) t → Steps p.tables e below (s₁.setTop (entryFrame m #[(.ref r0)] 3)) t := fun t k => castTop (own_ef5 m r0) k
  refine own_run (own_st pre0 ?_)
  refine own_st (B := s₁.setTop (mkF m 1 #[.val (.ref r0), .unset, .unset] [(.ref r0)])) (fun target kt => ?_) ?_
  · show Steps p.tables e below (s₁.setTop (mkF m 0 #[.val (.ref r0), .unset, .unset] [])) target
    refine XS.aloadN X0.here hx rfl (hb hby own_d5_0) rfl rfl ?_
    exact kt
  obtain ⟨b1, Tg1, hg1, Xg1, eg1, Eg1, hS, hZ, hown, hWWg1, stg1⟩ := own_ldcS X0 hx hZ hown (hw _ (List.mem_of_getElem? (i := 32) rfl)) (own_sa hw) e0 hS hk (g := (mkF m 1 #[.val (.ref r0), .unset, .unset] [(.ref r0)])) rfl (hb hby own_d5_1) (n := 92) (by first | decide +kernel | decide) (by decide) (by decide) (by decide)
  refine own_st stg1 ?_
  have F := E_r0.ext Eg1
  have F_1 := F_r0_value.ext Eg1
  have F_2 := F_r0_coder.ext Eg1
  have F_3 := R_rb.ext Eg1
  have Zz : n0 ≤ hg1.size := Nat.le_trans Z0 Eg1.1
  have hk := Nat.le_trans hk Eg1.1
  have Kc := (Keep.refl h0 []).ext Eg1
  have hk : hg1.size ≤ hg1.size := Nat.le_refl _
  obtain ⟨_, _, ⟨Tg3, Lg3, kg3, ng3⟩, -, Xg3, ⟨Lcg3, hQg3, lg3, yg3, zg3⟩, stg3⟩ := Jvm.LawKit.callS Xg1 hx (y := (⟨"java/util/Objects", "requireNonNull", "(Ljava/lang/Object;Ljava/lang/String;)Ljava/lang/Object;"⟩ : MethodName)) hown (mvT hZ (hw _ (List.mem_of_getElem? (i := 33) rfl))) (mvT hZ (hw _ (List.mem_of_getElem? (i := 34) rfl))) (mvT hZ (hw _ (List.mem_of_getElem? (i := 35) rfl))) (mvT hZ (hw _ (List.mem_of_getElem? (i := 36) rfl))) (by decide) (backOf (W := 0) (own_rm6 l Z a0 hw [] r0 b1 hg1 n0 Zz) hZ (hw _ (List.mem_of_getElem? (i := 36) rfl)) (hw _ (List.mem_of_getElem? (i := 35) rfl)) (by decide) (by decide)) (g := (mkF m 3 #[.val (.ref r0), .unset, .unset] [(.ref b1), (.ref r0)])) rfl (by rw [hml]; rfl) (argsL := [(.ref r0), (.ref b1)]) (rest := []) (lenOf own_pd5 rfl) rfl (by show 2 * 0 + _ ≤ _; exact Nat.le_of_eq rfl) (hb hby own_d5_3) (fun _ _ => ⟨rfl, eg1, (by decide : 2 + 0 ≤ _), (by decide : 96 + 0 ≤ _)⟩)
  dsimp only [Pt.U, Pt.locs, Pt.cells, Pt.slots] at Xg3 lg3 yg3 zg3 stg3 hQg3
  subst lg3 yg3 zg3
  obtain ⟨rfl, Ng3q, eg3⟩ := hQg3
  have Ng3 := Fr.app N0 Ng3q
  refine own_st (stg3) ?_
  refine own_st (B := Tg3.setTop (mkF m 8 #[.val (.ref r0), .unset, .unset] [(.ref r0)])) (fun target kt => ?_) ?_
  · show Steps p.tables e below (Tg3.setTop (mkF m 6 #[.val (.ref r0), .unset, .unset] [(.ref r0)])) target
    refine XS.pop Xg3.here hx rfl (hb hby own_d5_6) rfl rfl ?_
    show Steps p.tables e below (Tg3.setTop (mkF m 7 #[.val (.ref r0), .unset, .unset] [])) target
    refine XS.aloadN Xg3.here hx rfl (hb hby own_d5_7) rfl rfl ?_
    exact kt
  obtain ⟨cqg8, kqg8, qg8a, qg8b, qg8c⟩ := isOf hZ eg3 F
  obtain ⟨_, _, ⟨Tg8, Lg8, kg8, ng8⟩, -, Xg8, ⟨Lcg8, hQg8, lg8, yg8, zg8⟩, stg8⟩ := Xg3.virtualBack hx (y := (⟨"java/lang/String", "isEmpty", "()Z"⟩ : MethodName)) (z := (⟨"java/lang/String", "isEmpty", "()Z"⟩ : MethodName)) hown (mvT hZ (hw _ (List.mem_of_getElem? (i := 37) rfl))) (mvT hZ (hw _ (List.mem_of_getElem? (i := 38) rfl))) (notFace_of_selects (args := #[]) (mvT hZ (hw _ (List.mem_of_getElem? (i := 40) rfl)))) (mvT hZ (hw _ (List.mem_of_getElem? (i := 40) rfl))) (mvT hZ (hw _ (List.mem_of_getElem? (i := 39) rfl))) (by decide) (backOf (W := 0) (own_rm7 l Z a0 hw [] r0 rb hg1 n0 Zz F F_1 F_2 F_3) hZ (hw _ (List.mem_of_getElem? (i := 41) rfl)) (hw _ (List.mem_of_getElem? (i := 9) rfl)) (by decide) (by decide)) qg8a qg8c (g := (mkF m 8 #[.val (.ref r0), .unset, .unset] [(.ref r0)])) rfl (by rw [hml]; rfl) (Steps.refl _) (argsL := []) (rest := []) (lenOf own_pd3 rfl) rfl (by show 2 * 0 + _ ≤ _; exact Nat.le_of_eq rfl) (hb hby own_d5_8) (fun _ _ => ⟨rfl, eg3, (by decide : 2 + 0 ≤ _), (by decide : 96 + 0 ≤ _)⟩)
  dsimp only [Pt.U, Pt.locs, Pt.cells, Pt.slots] at Xg8 lg8 yg8 zg8 stg8 hQg8
  subst lg8 yg8 zg8
  obtain ⟨rfl, Ng8q, eg8⟩ := hQg8
  have Ng8 := Fr.app Ng3 Ng8q
  refine own_st (fun _ k => stg8.trans k) ?_
  refine own_st (B := Tg8.setTop (mkF m 15 #[.val (.ref r0), .unset, .unset] [(.ref r0)])) (fun target kt => ?_) ?_
  · show Steps p.tables e below (Tg8.setTop (mkF m 11 #[.val (.ref r0), .unset, .unset] [(.int (0 : Int32))])) target
    refine XS.ifNo Xg8.here hx rfl (hb hby own_d5_11) rfl ((if0 _ _).trans (teq (by decide : (0 : Int32) = (0 : Int32))).2) ?_
    show Steps p.tables e below (Tg8.setTop (mkF m 14 #[.val (.ref r0), .unset, .unset] [])) target
    refine XS.aloadN Xg8.here hx rfl (hb hby own_d5_14) rfl rfl ?_
    exact kt
  obtain ⟨cqg15, kqg15, qg15a, qg15b, qg15c⟩ := isOf hZ eg8 F
  obtain ⟨_, _, ⟨Tg15, Lg15, kg15, ng15⟩, -, Xg15, ⟨Lcg15, hQg15, lg15, yg15, zg15⟩, stg15⟩ := Xg8.virtualBack hx (y := (⟨"java/lang/String", "length", "()I"⟩ : MethodName)) (z := (⟨"java/lang/String", "length", "()I"⟩ : MethodName)) hown (mvT hZ (hw _ (List.mem_of_getElem? (i := 43) rfl))) (mvT hZ (hw _ (List.mem_of_getElem? (i := 44) rfl))) (notFace_of_selects (args := #[]) (mvT hZ (hw _ (List.mem_of_getElem? (i := 46) rfl)))) (mvT hZ (hw _ (List.mem_of_getElem? (i := 46) rfl))) (mvT hZ (hw _ (List.mem_of_getElem? (i := 45) rfl))) (by decide) (backOf (W := 0) (own_rm8 l Z a0 hw [] r0 cs rb hg1 n0 Zz F F_1 F_2 F_3 (show Sta Z hg1 "java/lang/String" "COMPACT_STRINGS" "Z" (.int cs) from (own_sta0 hcs Kc)) (show ¬ cs = 0 from hcs0)) hZ (hw _ (List.mem_of_getElem? (i := 47) rfl)) (hw _ (List.mem_of_getElem? (i := 9) rfl)) (by decide) (by decide)) qg15a qg15c (g := (mkF m 15 #[.val (.ref r0), .unset, .unset] [(.ref r0)])) rfl (by rw [hml]; rfl) (Steps.refl _) (argsL := []) (rest := []) (lenOf own_pd6 rfl) rfl (by show 2 * 0 + _ ≤ _; exact Nat.le_of_eq rfl) (hb hby own_d5_15) (fun _ _ => ⟨rfl, eg8, (by decide : 2 + 0 ≤ _), (by decide : 96 + 0 ≤ _)⟩)
  dsimp only [Pt.U, Pt.locs, Pt.cells, Pt.slots] at Xg15 lg15 yg15 zg15 stg15 hQg15
  subst lg15 yg15 zg15
  obtain ⟨rfl, Ng15q, eg15⟩ := hQg15
  have Ng15 := Fr.app Ng8 Ng15q
  refine own_st (fun _ k => stg15.trans k) ?_
  refine own_st (B := Tg15.setTop (mkF m 37 #[.val (.ref r0), .val (.int (1 : Int32)), .val (.int (0 : Int32))] [(.ref r0), (.int (0 : Int32))])) (fun target kt => ?_) ?_
  · show Steps p.tables e below (Tg15.setTop (mkF m 18 #[.val (.ref r0), .unset, .unset] [(.int (1 : Int32))])) target
    refine XS.bipush Xg15.here hx rfl (hb hby own_d5_18) ?_
    show Steps p.tables e below (Tg15.setTop (mkF m 20 #[.val (.ref r0), .unset, .unset] [(.int (64 : Int32)), (.int (1 : Int32))])) target
    refine XS.icmpNo Xg15.here hx rfl (hb hby own_d5_20) rfl (flt (by decide : ¬ ((64 : Int32) < (1 : Int32)))).2.2.1 ?_
    show Steps p.tables e below (Tg15.setTop (mkF m 23 #[.val (.ref r0), .unset, .unset] [])) target
    refine XS.iconst Xg15.here hx rfl (hb hby own_d5_23) ?_
    show Steps p.tables e below (Tg15.setTop (mkF m 24 #[.val (.ref r0), .unset, .unset] [(.int (1 : Int32))])) target
    refine XS.goto Xg15.here hx rfl (pc0 := 24) (pc' := 28) rfl (hb hby own_d5_24) (by decide) (by decide) ?_
    show Steps p.tables e below (Tg15.setTop (mkF m 28 #[.val (.ref r0), .unset, .unset] [(.int (1 : Int32))])) target
    refine XS.istoreN Xg15.here hx rfl (hb hby own_d5_28) rfl (l' := #[.val (.ref r0), .val (.int (1 : Int32)), .unset]) rfl ?_
    show Steps p.tables e below (Tg15.setTop (mkF m 29 #[.val (.ref r0), .val (.int (1 : Int32)), .unset] [])) target
    refine XS.iconst Xg15.here hx rfl (hb hby own_d5_29) ?_
    show Steps p.tables e below (Tg15.setTop (mkF m 30 #[.val (.ref r0), .val (.int (1 : Int32)), .unset] [(.int (0 : Int32))])) target
    refine XS.istoreN Xg15.here hx rfl (hb hby own_d5_30) rfl (l' := #[.val (.ref r0), .val (.int (1 : Int32)), .val (.int (0 : Int32))]) rfl ?_
    show Steps p.tables e below (Tg15.setTop (mkF m 31 #[.val (.ref r0), .val (.int (1 : Int32)), .val (.int (0 : Int32))] [])) target
    refine XS.iloadN Xg15.here hx rfl (hb hby own_d5_31) rfl ?_
    show Steps p.tables e below (Tg15.setTop (mkF m 32 #[.val (.ref r0), .val (.int (1 : Int32)), .val (.int (0 : Int32))] [(.int (1 : Int32))])) target
    refine XS.ifNo Xg15.here hx rfl (hb hby own_d5_32) rfl ((if0 _ _).trans (feq (by decide : ¬ ((1 : Int32) = (0 : Int32)))).1) ?_
    show Steps p.tables e below (Tg15.setTop (mkF m 35 #[.val (.ref r0), .val (.int (1 : Int32)), .val (.int (0 : Int32))] [])) target
    refine XS.iloadN Xg15.here hx rfl (hb hby own_d5_35) rfl ?_
    show Steps p.tables e below (Tg15.setTop (mkF m 36 #[.val (.ref r0), .val (.int (1 : Int32)), .val (.int (0 : Int32))] [(.int (0 : Int32))])) target
    refine XS.aloadN Xg15.here hx rfl (hb hby own_d5_36) rfl rfl ?_
    exact kt
  obtain ⟨cqg37, kqg37, qg37a, qg37b, qg37c⟩ := isOf hZ eg15 F
  obtain ⟨_, _, ⟨Tg37, Lg37, kg37, ng37⟩, -, Xg37, ⟨Lcg37, hQg37, lg37, yg37, zg37⟩, stg37⟩ := Xg15.virtualBack hx (y := (⟨"java/lang/String", "length", "()I"⟩ : MethodName)) (z := (⟨"java/lang/String", "length", "()I"⟩ : MethodName)) hown (mvT hZ (hw _ (List.mem_of_getElem? (i := 43) rfl))) (mvT hZ (hw _ (List.mem_of_getElem? (i := 44) rfl))) (notFace_of_selects (args := #[]) (mvT hZ (hw _ (List.mem_of_getElem? (i := 46) rfl)))) (mvT hZ (hw _ (List.mem_of_getElem? (i := 46) rfl))) (mvT hZ (hw _ (List.mem_of_getElem? (i := 45) rfl))) (by decide) (backOf (W := 1) (own_rm8 l Z a0 hw [] r0 cs rb hg1 n0 Zz F F_1 F_2 F_3 (show Sta Z hg1 "java/lang/String" "COMPACT_STRINGS" "Z" (.int cs) from (own_sta0 hcs Kc)) (show ¬ cs = 0 from hcs0)) hZ (hw _ (List.mem_of_getElem? (i := 47) rfl)) (hw _ (List.mem_of_getElem? (i := 9) rfl)) (by decide) (by decide)) qg37a qg37c (g := (mkF m 37 #[.val (.ref r0), .val (.int (1 : Int32)), .val (.int (0 : Int32))] [(.ref r0), (.int (0 : Int32))])) rfl (by rw [hml]; rfl) (Steps.refl _) (argsL := []) (rest := [(.int (0 : Int32))]) (lenOf own_pd6 rfl) rfl (by show 2 * 0 + _ ≤ _; exact Nat.le_of_eq rfl) (hb hby own_d5_37) (fun _ _ => ⟨rfl, eg15, (by decide : 2 + 0 ≤ _), (by decide : 96 + 0 ≤ _)⟩)
  dsimp only [Pt.U, Pt.locs, Pt.cells, Pt.slots] at Xg37 lg37 yg37 zg37 stg37 hQg37
  subst lg37 yg37 zg37
  obtain ⟨rfl, Ng37q, eg37⟩ := hQg37
  have Ng37 := Fr.app Ng15 Ng37q
  refine own_st (fun _ k => stg37.trans k) ?_
  refine own_st (B := Tg37.setTop (mkF m 45 #[.val (.ref r0), .val (.int (1 : Int32)), .val (.int (0 : Int32))] [(.int (0 : Int32)), (.ref r0)])) (fun target kt => ?_) ?_
  · show Steps p.tables e below (Tg37.setTop (mkF m 40 #[.val (.ref r0), .val (.int (1 : Int32)), .val (.int (0 : Int32))] [(.int (1 : Int32)), (.int (0 : Int32))])) target
    refine XS.icmpNo Xg37.here hx rfl (hb hby own_d5_40) rfl (tlt (by decide : (0 : Int32) < (1 : Int32))).2.1 ?_
    show Steps p.tables e below (Tg37.setTop (mkF m 43 #[.val (.ref r0), .val (.int (1 : Int32)), .val (.int (0 : Int32))] [])) target
    refine XS.aloadN Xg37.here hx rfl (hb hby own_d5_43) rfl rfl ?_
    show Steps p.tables e below (Tg37.setTop (mkF m 44 #[.val (.ref r0), .val (.int (1 : Int32)), .val (.int (0 : Int32))] [(.ref r0)])) target
    refine XS.iloadN Xg37.here hx rfl (hb hby own_d5_44) rfl ?_
    exact kt
  obtain ⟨cqg45, kqg45, qg45a, qg45b, qg45c⟩ := isOf hZ eg37 F
  obtain ⟨_, _, ⟨Tg45, Lg45, kg45, ng45⟩, -, Xg45, ⟨Lcg45, hQg45, lg45, yg45, zg45⟩, stg45⟩ := Xg37.virtualBack hx (y := (⟨"java/lang/String", "charAt", "(I)C"⟩ : MethodName)) (z := (⟨"java/lang/String", "charAt", "(I)C"⟩ : MethodName)) hown (mvT hZ (hw _ (List.mem_of_getElem? (i := 55) rfl))) (mvT hZ (hw _ (List.mem_of_getElem? (i := 56) rfl))) (notFace_of_selects (args := #[]) (mvT hZ (hw _ (List.mem_of_getElem? (i := 58) rfl)))) (mvT hZ (hw _ (List.mem_of_getElem? (i := 58) rfl))) (mvT hZ (hw _ (List.mem_of_getElem? (i := 57) rfl))) (by decide) (backOf (W := 0) (own_rm10 l Z a0 hw [] r0 cs vf rb hg1 n0 Zz F F_1 F_2 F_3 (show Sta Z hg1 "java/lang/String" "COMPACT_STRINGS" "Z" (.int cs) from (own_sta0 hcs Kc)) (show ¬ cs = 0 from hcs0) (show Sta Z hg1 "jdk/internal/util/Preconditions" "SIOOBE_FORMATTER" "Ljava/util/function/BiFunction;" vf from (own_sta0 hsf Kc)) (show vf.isRef = true from hvf)) hZ (hw _ (List.mem_of_getElem? (i := 59) rfl)) (hw _ (List.mem_of_getElem? (i := 9) rfl)) (by decide) (by decide)) qg45a qg45c (g := (mkF m 45 #[.val (.ref r0), .val (.int (1 : Int32)), .val (.int (0 : Int32))] [(.int (0 : Int32)), (.ref r0)])) rfl (by rw [hml]; rfl) (Steps.refl _) (argsL := [(.int (0 : Int32))]) (rest := []) (lenOf own_pd7 rfl) rfl (by show 2 * 0 + _ ≤ _; exact Nat.le_of_eq rfl) (hb hby own_d5_45) (fun _ _ => ⟨rfl, eg37, (by decide : 2 + 0 ≤ _), (by decide : 96 + 0 ≤ _)⟩)
  dsimp only [Pt.U, Pt.locs, Pt.cells, Pt.slots] at Xg45 lg45 yg45 zg45 stg45 hQg45
  subst lg45 yg45 zg45
  obtain ⟨rfl, Ng45q, eg45⟩ := hQg45
  have Ng45 := Fr.app Ng37 Ng45q
  refine own_st (fun _ k => stg45.trans k) ?_
  obtain ⟨_, _, ⟨Tg48, Lg48, kg48, ng48⟩, -, Xg48, ⟨Lcg48, hQg48, lg48, yg48, zg48⟩, stg48⟩ := Jvm.LawKit.callS Xg45 hx (y := (⟨"ringward/NodeConfig", "isNameCharacter", "(C)Z"⟩ : MethodName)) hown (mvT hZ (hw _ (List.mem_of_getElem? (i := 77) rfl))) (mvT hZ (hw _ (List.mem_of_getElem? (i := 78) rfl))) (mvT hZ (hw _ (List.mem_of_getElem? (i := 30) rfl))) (mvT hZ (hw _ (List.mem_of_getElem? (i := 79) rfl))) (by decide) (backOf (W := 0) (own_rm15 l Z a0 hw []  hg1 n0 Zz) hZ (hw _ (List.mem_of_getElem? (i := 79) rfl)) (hw _ (List.mem_of_getElem? (i := 30) rfl)) (by decide) (by decide)) (g := (mkF m 48 #[.val (.ref r0), .val (.int (1 : Int32)), .val (.int (0 : Int32))] [(.int (110 : Int32))])) rfl (by rw [hml]; rfl) (argsL := [(.int (110 : Int32))]) (rest := []) (lenOf own_pd8 rfl) rfl (by show 2 * 0 + _ ≤ _; exact Nat.le_of_eq rfl) (hb hby own_d5_48) (fun _ _ => ⟨rfl, eg45, (by decide : 2 + 0 ≤ _), (by decide : 96 + 0 ≤ _)⟩)
  dsimp only [Pt.U, Pt.locs, Pt.cells, Pt.slots] at Xg48 lg48 yg48 zg48 stg48 hQg48
  subst lg48 yg48 zg48
  obtain ⟨rfl, Ng48q, eg48⟩ := hQg48
  have Ng48 := Fr.app Ng45 Ng48q
  refine own_st (stg48) ?_
  refine own_st (B := Tg48.setTop (mkF m 37 #[.val (.ref r0), .val (.int (1 : Int32)), .val (.int (1 : Int32))] [(.ref r0), (.int (1 : Int32))])) (fun target kt => ?_) ?_
  · show Steps p.tables e below (Tg48.setTop (mkF m 51 #[.val (.ref r0), .val (.int (1 : Int32)), .val (.int (0 : Int32))] [(.int (1 : Int32))])) target
    refine XS.istoreN Xg48.here hx rfl (hb hby own_d5_51) rfl (l' := #[.val (.ref r0), .val (.int (1 : Int32)), .val (.int (0 : Int32))]) rfl ?_
    show Steps p.tables e below (Tg48.setTop (mkF m 52 #[.val (.ref r0), .val (.int (1 : Int32)), .val (.int (0 : Int32))] [])) target
    refine XS.iinc Xg48.here hx rfl (hb hby own_d5_52) rfl (l' := #[.val (.ref r0), .val (.int (1 : Int32)), .val (.int (1 : Int32))]) rfl ?_
    show Steps p.tables e below (Tg48.setTop (mkF m 55 #[.val (.ref r0), .val (.int (1 : Int32)), .val (.int (1 : Int32))] [])) target
    refine XS.goto Xg48.here hx rfl (pc0 := 55) (pc' := 31) rfl (hb hby own_d5_55) (by decide) (by decide) ?_
    show Steps p.tables e below (Tg48.setTop (mkF m 31 #[.val (.ref r0), .val (.int (1 : Int32)), .val (.int (1 : Int32))] [])) target
    refine XS.iloadN Xg48.here hx rfl (hb hby own_d5_31) rfl ?_
    show Steps p.tables e below (Tg48.setTop (mkF m 32 #[.val (.ref r0), .val (.int (1 : Int32)), .val (.int (1 : Int32))] [(.int (1 : Int32))])) target
    refine XS.ifNo Xg48.here hx rfl (hb hby own_d5_32) rfl ((if0 _ _).trans (feq (by decide : ¬ ((1 : Int32) = (0 : Int32)))).1) ?_
    show Steps p.tables e below (Tg48.setTop (mkF m 35 #[.val (.ref r0), .val (.int (1 : Int32)), .val (.int (1 : Int32))] [])) target
    refine XS.iloadN Xg48.here hx rfl (hb hby own_d5_35) rfl ?_
    show Steps p.tables e below (Tg48.setTop (mkF m 36 #[.val (.ref r0), .val (.int (1 : Int32)), .val (.int (1 : Int32))] [(.int (1 : Int32))])) target
    refine XS.aloadN Xg48.here hx rfl (hb hby own_d5_36) rfl rfl ?_
    exact kt
  obtain ⟨cqg37_1, kqg37_1, qg37_1a, qg37_1b, qg37_1c⟩ := isOf hZ eg48 F
  obtain ⟨_, _, ⟨Tg37_1, Lg37_1, kg37_1, ng37_1⟩, -, Xg37_1, ⟨Lcg37_1, hQg37_1, lg37_1, yg37_1, zg37_1⟩, stg37_1⟩ := Xg48.virtualBack hx (y := (⟨"java/lang/String", "length", "()I"⟩ : MethodName)) (z := (⟨"java/lang/String", "length", "()I"⟩ : MethodName)) hown (mvT hZ (hw _ (List.mem_of_getElem? (i := 43) rfl))) (mvT hZ (hw _ (List.mem_of_getElem? (i := 44) rfl))) (notFace_of_selects (args := #[]) (mvT hZ (hw _ (List.mem_of_getElem? (i := 46) rfl)))) (mvT hZ (hw _ (List.mem_of_getElem? (i := 46) rfl))) (mvT hZ (hw _ (List.mem_of_getElem? (i := 45) rfl))) (by decide) (backOf (W := 1) (own_rm8 l Z a0 hw [] r0 cs rb hg1 n0 Zz F F_1 F_2 F_3 (show Sta Z hg1 "java/lang/String" "COMPACT_STRINGS" "Z" (.int cs) from (own_sta0 hcs Kc)) (show ¬ cs = 0 from hcs0)) hZ (hw _ (List.mem_of_getElem? (i := 47) rfl)) (hw _ (List.mem_of_getElem? (i := 9) rfl)) (by decide) (by decide)) qg37_1a qg37_1c (g := (mkF m 37 #[.val (.ref r0), .val (.int (1 : Int32)), .val (.int (1 : Int32))] [(.ref r0), (.int (1 : Int32))])) rfl (by rw [hml]; rfl) (Steps.refl _) (argsL := []) (rest := [(.int (1 : Int32))]) (lenOf own_pd6 rfl) rfl (by show 2 * 0 + _ ≤ _; exact Nat.le_of_eq rfl) (hb hby own_d5_37) (fun _ _ => ⟨rfl, eg48, (by decide : 2 + 0 ≤ _), (by decide : 96 + 0 ≤ _)⟩)
  dsimp only [Pt.U, Pt.locs, Pt.cells, Pt.slots] at Xg37_1 lg37_1 yg37_1 zg37_1 stg37_1 hQg37_1
  subst lg37_1 yg37_1 zg37_1
  obtain ⟨rfl, Ng37_1q, eg37_1⟩ := hQg37_1
  have Ng37_1 := Fr.app Ng48 Ng37_1q
  refine own_st (fun _ k => stg37_1.trans k) ?_
  refine own_st (B := Tg37_1.setTop (mkF m 77 #[.val (.ref r0), .val (.int (1 : Int32)), .val (.int (1 : Int32))] [(.ref r0)])) (fun target kt => ?_) ?_
  · show Steps p.tables e below (Tg37_1.setTop (mkF m 40 #[.val (.ref r0), .val (.int (1 : Int32)), .val (.int (1 : Int32))] [(.int (1 : Int32)), (.int (1 : Int32))])) target
    refine XS.icmpYes Xg37_1.here hx rfl (pc0 := 40) (pc' := 58) rfl (hb hby own_d5_40) rfl (flt (by decide : ¬ ((1 : Int32) < (1 : Int32)))).2.1 (by decide) (by decide) ?_
    show Steps p.tables e below (Tg37_1.setTop (mkF m 58 #[.val (.ref r0), .val (.int (1 : Int32)), .val (.int (1 : Int32))] [])) target
    refine XS.iloadN Xg37_1.here hx rfl (hb hby own_d5_58) rfl ?_
    show Steps p.tables e below (Tg37_1.setTop (mkF m 59 #[.val (.ref r0), .val (.int (1 : Int32)), .val (.int (1 : Int32))] [(.int (1 : Int32))])) target
    refine XS.ifYes Xg37_1.here hx rfl (pc0 := 59) (pc' := 76) rfl (hb hby own_d5_59) rfl ((if0 _ _).trans (feq (by decide : ¬ ((1 : Int32) = (0 : Int32)))).2) (by decide) (by decide) ?_
    show Steps p.tables e below (Tg37_1.setTop (mkF m 76 #[.val (.ref r0), .val (.int (1 : Int32)), .val (.int (1 : Int32))] [])) target
    refine XS.aloadN Xg37_1.here hx rfl (hb hby own_d5_76) rfl rfl ?_
    exact kt
  obtain ⟨fs, hr, hrun, hended, hRW⟩ := Xg37_1.leaveW hS (show _ ≤ Tg37_1.heap.size by rw [eg37_1]; exact hk) (v := some (.ref r0)) (fun h => by rw [Bd.returns] at h; cases h)
  have hend : Steps p.tables e below (Tg37_1.setTop (mkF m 77 #[.val (.ref r0), .val (.int (1 : Int32)), .val (.int (1 : Int32))] [(.ref r0)])) (Tg37_1.setFrames fs) := by
    jvm_step Xg37_1.here [Xg37_1.here.top, hx, (hb hby own_d5_77), Xg37_1.method', Bd.returns, Value.isRef, FieldType.isReference]
    first | (intro acts; rw [hr _ acts rfl rfl rfl]) | rw [hr _ _ rfl rfl rfl]
    exact Steps.refl _
  refine own_fin hend ⟨_, hrun, hended, _, _, rfl, ?_, ⟨_, rfl⟩, hRW.2.1, hRW.2.2.1, hRW.2.2.2.mono (by decide) (by decide)⟩
  show own_Q5 Z r0 cs vf rb h0 n0 _ Tg37_1.heap _
  rw [eg37_1]
  exact ⟨rfl, Ng37_1, Kc⟩
theorem own_pd9 : parseMethodDescriptor "()V" = some ⟨[], none⟩ := by decide +kernel
theorem own_pd10 : parseMethodDescriptor "(Ljava/lang/String;)Ljava/lang/String;" = some ⟨[(.object "java/lang/String")], some (.object "java/lang/String")⟩ := by decide +kernel
theorem own_pn6 : plainName "ringward/Message$Post" = true := by first | (simp [plainName, overriddenIn]; done) | decide +kernel
theorem own_d2_0 : decode prog_41_method_1_code 0 = .ok (.aload_n 0, 1) := by decide +kernel
theorem own_d2_1 : decode prog_41_method_1_code 1 = .ok (.invokespecial 1, 3) := by decide +kernel
theorem own_d2_4 : decode prog_41_method_1_code 4 = .ok (.aload_n 1, 1) := by decide +kernel
theorem own_d2_5 : decode prog_41_method_1_code 5 = .ok (.invokestatic 7, 3) := by decide +kernel
theorem own_d2_8 : decode prog_41_method_1_code 8 = .ok (.pop, 1) := by decide +kernel
theorem own_d2_9 : decode prog_41_method_1_code 9 = .ok (.aload 8, 2) := by decide +kernel
theorem own_d2_11 : decode prog_41_method_1_code 11 = .ok (.ldc 13, 2) := by decide +kernel
theorem own_d2_13 : decode prog_41_method_1_code 13 = .ok (.invokestatic 15, 3) := by decide +kernel
theorem own_d2_16 : decode prog_41_method_1_code 16 = .ok (.pop, 1) := by decide +kernel
theorem own_d2_17 : decode prog_41_method_1_code 17 = .ok (.lload 6, 2) := by decide +kernel
theorem own_d2_19 : decode prog_41_method_1_code 19 = .ok (.lconst 1, 1) := by decide +kernel
theorem own_d2_20 : decode prog_41_method_1_code 20 = .ok (.lcmp, 1) := by decide +kernel
theorem own_d2_21 : decode prog_41_method_1_code 21 = .ok (.ifCond .lt 11, 3) := by decide +kernel
theorem own_d2_24 : decode prog_41_method_1_code 24 = .ok (.lload 6, 2) := by decide +kernel
theorem own_d2_26 : decode prog_41_method_1_code 26 = .ok (.lload 4, 2) := by decide +kernel
theorem own_d2_28 : decode prog_41_method_1_code 28 = .ok (.lcmp, 1) := by decide +kernel
theorem own_d2_29 : decode prog_41_method_1_code 29 = .ok (.ifCond .le 20, 3) := by decide +kernel
theorem own_d2_49 : decode prog_41_method_1_code 49 = .ok (.aload_n 0, 1) := by decide +kernel
theorem own_d2_50 : decode prog_41_method_1_code 50 = .ok (.aload_n 1, 1) := by decide +kernel
theorem own_d2_51 : decode prog_41_method_1_code 51 = .ok (.putfield 30, 3) := by decide +kernel
theorem own_d2_54 : decode prog_41_method_1_code 54 = .ok (.aload_n 0, 1) := by decide +kernel
theorem own_d2_55 : decode prog_41_method_1_code 55 = .ok (.lload_n 2, 1) := by decide +kernel
theorem own_d2_56 : decode prog_41_method_1_code 56 = .ok (.putfield 36, 3) := by decide +kernel
theorem own_d2_59 : decode prog_41_method_1_code 59 = .ok (.aload_n 0, 1) := by decide +kernel
theorem own_d2_60 : decode prog_41_method_1_code 60 = .ok (.lload 4, 2) := by decide +kernel
theorem own_d2_62 : decode prog_41_method_1_code 62 = .ok (.putfield 40, 3) := by decide +kernel
theorem own_d2_65 : decode prog_41_method_1_code 65 = .ok (.aload_n 0, 1) := by decide +kernel
theorem own_d2_66 : decode prog_41_method_1_code 66 = .ok (.lload 6, 2) := by decide +kernel
theorem own_d2_68 : decode prog_41_method_1_code 68 = .ok (.putfield 43, 3) := by decide +kernel
theorem own_d2_71 : decode prog_41_method_1_code 71 = .ok (.aload_n 0, 1) := by decide +kernel
theorem own_d2_72 : decode prog_41_method_1_code 72 = .ok (.aload 8, 2) := by decide +kernel
theorem own_d2_74 : decode prog_41_method_1_code 74 = .ok (.putfield 46, 3) := by decide +kernel
theorem own_d2_77 : decode prog_41_method_1_code 77 = .ok (.return_, 1) := by decide +kernel
theorem own_ef2 (m : MethodId) (r0 : Addr) (r1 : Addr) (q2 : Int64) (q3 : Int64) (r5 : Addr) : entryFrame m #[(.ref r0), (.ref r1), (.long q2), (.long q3), (.long (1 : Int64)), (.ref r5)] 9 = mkF m 0 #[.val (.ref r0), .val (.ref r1), .val (.long q2), .second, .val (.long q3), .second, .val (.long (1 : Int64)), .second, .val (.ref r5)] [] := by first | (simp [entryFrame, mkF, argsToLocals, Value.category]; done) | rfl
def own_Q2 (Z : State) (r0 : Addr) (r1 : Addr) (q2 : Int64) (q3 : Int64) (r5 : Addr) (cs : Int32) (vf : Value) (rb : Addr) (h0 : Heap) (n0 : Nat) (v : Option Value) (h : Heap) (L : List Loc) : Prop := (v = none) ∧ (Fr n0 L) ∧ (Keep h0 h [r0]) ∧ (Exa Z h r0 "ringward/Message$Post") ∧ (Fld Z h r0 "ringward/Message$Post" "sender" "Ljava/lang/String;" (.ref r1)) ∧ (Fld Z h r0 "ringward/Message$Post" "run" "J" (.long q2)) ∧ (Fld Z h r0 "ringward/Message$Post" "number" "J" (.long q3)) ∧ (Fld Z h r0 "ringward/Message$Post" "first" "J" (.long (1 : Int64))) ∧ (Fld Z h r0 "ringward/Message$Post" "payload" "Ljava/lang/String;" (.ref r5))
set_option maxRecDepth 65536 in
set_option maxHeartbeats 40000000 in
theorem own_rm2 (l : Launch) (Z : State) (a0 : Array Value) (hw : ∀ d ∈ tables_1, d.before a0 Z = true) (ws : List Jvm.Cond) (r0 : Addr) (r1 : Addr) (q2 : Int64) (q3 : Int64) (r5 : Addr) (cs : Int32) (vf : Value) (rb : Addr) (h0 : Heap) (n0 : Nat) (Z0 : n0 ≤ h0.size) (E_r0 : Exa Z h0 r0 "ringward/Message$Post") (F_r0_sender : Fld Z h0 r0 "ringward/Message$Post" "sender" "Ljava/lang/String;" .null) (F_r0_run : Fld Z h0 r0 "ringward/Message$Post" "run" "J" (.long (0 : Int64))) (F_r0_number : Fld Z h0 r0 "ringward/Message$Post" "number" "J" (.long (0 : Int64))) (F_r0_first : Fld Z h0 r0 "ringward/Message$Post" "first" "J" (.long (0 : Int64))) (F_r0_payload : Fld Z h0 r0 "ringward/Message$Post" "payload" "Ljava/lang/String;" .null) (E_r1 : Exa Z h0 r1 "java/lang/String") (F_r1_value : Fld Z h0 r1 "java/lang/String" "value" "[B" (.ref rb)) (F_r1_coder : Fld Z h0 r1 "java/lang/String" "coder" "B" (.int (0 : Int32))) (R_rb : own_RayB Z h0 rb 1 (fun _ => (110 : Int32))) (g_r0 : n0 ≤ r0) (ne_r0_r1 : r0 ≠ r1) (ne_r0_rb : r0 ≠ rb) (hcs : Sta Z h0 "java/lang/String" "COMPACT_STRINGS" "Z" (.int cs)) (hcs0 : ¬ cs = 0) (hsf : Sta Z h0 "jdk/internal/util/Preconditions" "SIOOBE_FORMATTER" "Ljava/util/function/BiFunction;" vf) (hvf : vf.isRef = true) (hnum : ¬ q3 < (1 : Int64)) :
    MetFree l (⟨"ringward/Message$Post", "<init>", "(Ljava/lang/String;JJJLjava/lang/String;)V"⟩ : MethodName) (head1 (Jvm.Cond.code (⟨"ringward/Message$Post", "<init>", "(Ljava/lang/String;JJJLjava/lang/String;)V"⟩ : MethodName) prog_41_method_1_code 9 none :: ws) ({ frames := 5, cells := 4, slots := 204, locals := 67 } : Room)) (fun a U => a = #[(.ref r0), (.ref r1), (.long q2), (.long q3), (.long (1 : Int64)), (.ref r5)] ∧ Z.Warmed39 U.vm ∧ U.heap = h0) (fun _ _ _ _ _ => True) (fun _ U o U' => ∃ v L, o = .returned v ∧ own_Q2 Z r0 r1 q2 q3 r5 cs vf rb h0 n0 v U'.heap L ∧ ReturnedEndW U o U' L ({ frames := 5, cells := 4, slots := 204, locals := 67 } : Room).cells ({ frames := 5, cells := 4, slots := 204, locals := 67 } : Room).slots) := by
  refine MetFree.of_bodySF (plainFor_of_name own_pn6) hisR ?_
  intro p e s m args below meth c s₁ Bd hml0 hP hK
  obtain ⟨rfl, hZ, hh⟩ := hP
  have hx := Bd.exec
  have hby := Bd.bytes
  have hml : c.maxLocals = 9 := hml0
  have hown : s.vm.findClass "ringward/Message$Post" = some m.cls := findClass_of_methodNamed Bd.named
  have hnm := (name_of_methodNamed Bd.named Bd.method).1
  have hS : s.Since s.vm s.heap.size := (State.WarmedH.refl s).since _
  have hk : s.heap.size ≤ h0.size := by rw [← hh]; exact Nat.le_refl _
  have hZ : Z.Warmed39 (s.setVm s.vm).vm := hZ
  have hown : (s.setVm s.vm).vm.findClass "ringward/Message$Post" = some m.cls := hown
  have X0 : Stand p l e ({ frames := 5, cells := 4, slots := 204, locals := 67 } : Room) (s.setVm s.vm) m #[(.ref r0), (.ref r1), (.long q2), (.long q3), (.long (1 : Int64)), (.ref r5)] below meth c s₁ [] 0 0 := Stand.of_body Bd
  have e0 : s₁.heap = h0 := by rw [← hh, Bd.state]; rfl
  have N0 := Fr.nil n0
  have pre0 : ∀ t, Steps p.tables e below (s₁.setTop (mkF m 0 #[.val (.ref r0), .val (.ref r1), .val (.long q2), .second, .val (.long q3), .second, .val (.long (1 : Int64)), .second, .val (.ref r5)] [])) t → Steps p.tables e below (s₁.setTop (entryFrame m #[(.ref r0), (.ref r1), (.long q2), (.long q3), (.long (1 : Int64)), (.ref r5)] 9)) t := fun t k => castTop (own_ef2 m r0 r1 q2 q3 r5) k
  refine own_run (own_st pre0 ?_)
  refine own_st (B := s₁.setTop (mkF m 1 #[.val (.ref r0), .val (.ref r1), .val (.long q2), .second, .val (.long q3), .second, .val (.long (1 : Int64)), .second, .val (.ref r5)] [(.ref r0)])) (fun target kt => ?_) ?_
  · show Steps p.tables e below (s₁.setTop (mkF m 0 #[.val (.ref r0), .val (.ref r1), .val (.long q2), .second, .val (.long q3), .second, .val (.long (1 : Int64)), .second, .val (.ref r5)] [])) target
    refine XS.aloadN X0.here hx rfl (hb hby own_d2_0) rfl rfl ?_
    exact kt
  obtain ⟨_, _, ⟨Tg1, Lg1, kg1, ng1⟩, -, Xg1, ⟨Lcg1, hQg1, lg1, yg1, zg1⟩, stg1⟩ := X0.specialBack hx (y := (⟨"java/lang/Record", "<init>", "()V"⟩ : MethodName)) rfl hown (mvT hZ (hw _ (List.mem_of_getElem? (i := 20) rfl))) (mvT hZ (hw _ (List.mem_of_getElem? (i := 21) rfl))) (mvT hZ (hw _ (List.mem_of_getElem? (i := 24) rfl))) (by decide) (backOf (W := 0) (own_rm3 l Z a0 hw [] r0 h0 n0 Z0) hZ (hw _ (List.mem_of_getElem? (i := 24) rfl)) (hw _ (List.mem_of_getElem? (i := 23) rfl)) (by decide) (by decide)) (g := (mkF m 1 #[.val (.ref r0), .val (.ref r1), .val (.long q2), .second, .val (.long q3), .second, .val (.long (1 : Int64)), .second, .val (.ref r5)] [(.ref r0)])) rfl (by rw [hml]; rfl) (Steps.refl _) (a := r0) (argsL := []) (rest := []) (lenOf own_pd9 rfl) rfl (by show 2 * 0 + _ ≤ _; exact Nat.le_of_eq rfl) (hb hby own_d2_1) (fun _ _ => ⟨rfl, e0, (by decide : 0 + 0 ≤ _), (by decide : 0 + 0 ≤ _)⟩)
  dsimp only [Pt.U, Pt.locs, Pt.cells, Pt.slots] at Xg1 lg1 yg1 zg1 stg1 hQg1
  subst lg1 yg1 zg1
  obtain ⟨rfl, Ng1q, eg1⟩ := hQg1
  have Ng1 := Fr.app N0 Ng1q
  refine own_st (fun _ k => stg1.trans k) ?_
  refine own_st (B := Tg1.setTop (mkF m 5 #[.val (.ref r0), .val (.ref r1), .val (.long q2), .second, .val (.long q3), .second, .val (.long (1 : Int64)), .second, .val (.ref r5)] [(.ref r1)])) (fun target kt => ?_) ?_
  · show Steps p.tables e below (Tg1.setTop (mkF m 4 #[.val (.ref r0), .val (.ref r1), .val (.long q2), .second, .val (.long q3), .second, .val (.long (1 : Int64)), .second, .val (.ref r5)] [])) target
    refine XS.aloadN Xg1.here hx rfl (hb hby own_d2_4) rfl rfl ?_
    exact kt
  obtain ⟨_, _, ⟨Tg5, Lg5, kg5, ng5⟩, -, Xg5, hSg5, hgg5, ⟨Lcg5, hQg5, lg5, yg5, zg5⟩, stg5⟩ := callSS Xg1 hx (y := (⟨"ringward/NodeConfig", "requireValidName", "(Ljava/lang/String;)Ljava/lang/String;"⟩ : MethodName)) hown (mvT hZ (hw _ (List.mem_of_getElem? (i := 28) rfl))) (mvT hZ (hw _ (List.mem_of_getElem? (i := 29) rfl))) (mvT hZ (hw _ (List.mem_of_getElem? (i := 30) rfl))) (mvT hZ (hw _ (List.mem_of_getElem? (i := 31) rfl))) (by decide) (backOfS (W := 0) (own_rm5 l Z a0 hw [] r1 cs vf rb h0 n0 Z0 E_r1 F_r1_value F_r1_coder R_rb (show Sta Z h0 "java/lang/String" "COMPACT_STRINGS" "Z" (.int cs) from hcs) (show ¬ cs = 0 from hcs0) (show Sta Z h0 "jdk/internal/util/Preconditions" "SIOOBE_FORMATTER" "Ljava/util/function/BiFunction;" vf from hsf) (show vf.isRef = true from hvf)) hZ (hw _ (List.mem_of_getElem? (i := 31) rfl)) (hw _ (List.mem_of_getElem? (i := 30) rfl)) (by decide) (by decide)) (g := (mkF m 5 #[.val (.ref r0), .val (.ref r1), .val (.long q2), .second, .val (.long q3), .second, .val (.long (1 : Int64)), .second, .val (.ref r5)] [(.ref r1)])) rfl (by rw [hml]; rfl) (argsL := [(.ref r1)]) (rest := []) (lenOf own_pd10 rfl) rfl (by show 2 * 0 + _ ≤ _; exact Nat.le_of_eq rfl) (hb hby own_d2_5) (fun _ _ => ⟨rfl, eg1, (by decide : 0 + 2 ≤ _), (by decide : 0 + 96 ≤ _)⟩)
  dsimp only [Pt.U, Pt.locs, Pt.cells, Pt.slots] at Xg5 lg5 yg5 zg5 stg5 hQg5 hSg5 hgg5
  subst lg5 yg5 zg5
  obtain ⟨Xg5, hS, hZ, hown⟩ := rebS hS (show _ ≤ Tg1.heap.size by rw [eg1]; exact hk) Xg5 hSg5 hgg5 hZ hown
  obtain ⟨rfl, Ng5q, Kg5⟩ := hQg5
  have F := E_r0.keep Kg5
  have F_1 := F_r0_sender.keep Kg5 nin0
  have F_2 := F_r0_run.keep Kg5 nin0
  have F_3 := F_r0_number.keep Kg5 nin0
  have F_4 := F_r0_first.keep Kg5 nin0
  have F_5 := F_r0_payload.keep Kg5 nin0
  have F_6 := E_r1.keep Kg5
  have F_7 := F_r1_value.keep Kg5 nin0
  have F_8 := F_r1_coder.keep Kg5 nin0
  have F_9 := R_rb.keep Kg5 nin0
  have Zz : n0 ≤ Tg5.heap.size := Nat.le_trans Z0 Kg5.1
  have hk := Nat.le_trans hk Kg5.1
  have Kc := (Keep.refl h0 [r0]).trans Kg5 all0
  have Ng5 := Fr.app Ng1 Ng5q
  have hk : Tg5.heap.size ≤ Tg5.heap.size := Nat.le_refl _
  refine own_st (fun _ k => stg5.trans k) ?_
  refine own_st (B := Tg5.setTop (mkF m 11 #[.val (.ref r0), .val (.ref r1), .val (.long q2), .second, .val (.long q3), .second, .val (.long (1 : Int64)), .second, .val (.ref r5)] [(.ref r5)])) (fun target kt => ?_) ?_
  · show Steps p.tables e below (Tg5.setTop (mkF m 8 #[.val (.ref r0), .val (.ref r1), .val (.long q2), .second, .val (.long q3), .second, .val (.long (1 : Int64)), .second, .val (.ref r5)] [(.ref r1)])) target
    refine XS.pop Xg5.here hx rfl (hb hby own_d2_8) rfl rfl ?_
    show Steps p.tables e below (Tg5.setTop (mkF m 9 #[.val (.ref r0), .val (.ref r1), .val (.long q2), .second, .val (.long q3), .second, .val (.long (1 : Int64)), .second, .val (.ref r5)] [])) target
    refine XS.aload Xg5.here hx rfl (hb hby own_d2_9) rfl rfl ?_
    exact kt
  obtain ⟨b11, Tg11, hg11, Xg11, eg11, Eg11, hS, hZ, hown, hWWg11, stg11⟩ := own_ldcS Xg5 hx hZ hown (hw _ (List.mem_of_getElem? (i := 80) rfl)) (own_sa hw) rfl hS hk (g := (mkF m 11 #[.val (.ref r0), .val (.ref r1), .val (.long q2), .second, .val (.long q3), .second, .val (.long (1 : Int64)), .second, .val (.ref r5)] [(.ref r5)])) rfl (hb hby own_d2_11) (n := 104) (by first | decide +kernel | decide) (by decide) (by decide) (by decide)
  refine own_st stg11 ?_
  have F_10 := F.ext Eg11
  have F_11 := F_1.ext Eg11
  have F_12 := F_2.ext Eg11
  have F_13 := F_3.ext Eg11
  have F_14 := F_4.ext Eg11
  have F_15 := F_5.ext Eg11
  have F_16 := F_6.ext Eg11
  have F_17 := F_7.ext Eg11
  have F_18 := F_8.ext Eg11
  have F_19 := F_9.ext Eg11
  have Zz_1 : n0 ≤ hg11.size := Nat.le_trans Zz Eg11.1
  have hk := Nat.le_trans hk Eg11.1
  have Kc_1 := Kc.ext Eg11
  have hk : hg11.size ≤ hg11.size := Nat.le_refl _
  obtain ⟨_, _, ⟨Tg13, Lg13, kg13, ng13⟩, -, Xg13, ⟨Lcg13, hQg13, lg13, yg13, zg13⟩, stg13⟩ := Jvm.LawKit.callS Xg11 hx (y := (⟨"java/util/Objects", "requireNonNull", "(Ljava/lang/Object;Ljava/lang/String;)Ljava/lang/Object;"⟩ : MethodName)) hown (mvT hZ (hw _ (List.mem_of_getElem? (i := 81) rfl))) (mvT hZ (hw _ (List.mem_of_getElem? (i := 34) rfl))) (mvT hZ (hw _ (List.mem_of_getElem? (i := 35) rfl))) (mvT hZ (hw _ (List.mem_of_getElem? (i := 36) rfl))) (by decide) (backOf (W := 0) (own_rm6 l Z a0 hw [] r5 b11 hg11 n0 Zz_1) hZ (hw _ (List.mem_of_getElem? (i := 36) rfl)) (hw _ (List.mem_of_getElem? (i := 35) rfl)) (by decide) (by decide)) (g := (mkF m 13 #[.val (.ref r0), .val (.ref r1), .val (.long q2), .second, .val (.long q3), .second, .val (.long (1 : Int64)), .second, .val (.ref r5)] [(.ref b11), (.ref r5)])) rfl (by rw [hml]; rfl) (argsL := [(.ref r5), (.ref b11)]) (rest := []) (lenOf own_pd5 rfl) rfl (by show 2 * 0 + _ ≤ _; exact Nat.le_of_eq rfl) (hb hby own_d2_13) (fun _ _ => ⟨rfl, eg11, (by decide : 4 + 0 ≤ _), (by decide : 204 + 0 ≤ _)⟩)
  dsimp only [Pt.U, Pt.locs, Pt.cells, Pt.slots] at Xg13 lg13 yg13 zg13 stg13 hQg13
  subst lg13 yg13 zg13
  obtain ⟨rfl, Ng13q, eg13⟩ := hQg13
  have Ng13 := Fr.app Ng5 Ng13q
  refine own_st (stg13) ?_
  refine own_st (B := Tg13.setTop (mkF m 21 #[.val (.ref r0), .val (.ref r1), .val (.long q2), .second, .val (.long q3), .second, .val (.long (1 : Int64)), .second, .val (.ref r5)] [(.int (lcmpW (1 : Int64) (1 : Int64)))])) (fun target kt => ?_) ?_
  · show Steps p.tables e below (Tg13.setTop (mkF m 16 #[.val (.ref r0), .val (.ref r1), .val (.long q2), .second, .val (.long q3), .second, .val (.long (1 : Int64)), .second, .val (.ref r5)] [(.ref r5)])) target
    refine XS.pop Xg13.here hx rfl (hb hby own_d2_16) rfl rfl ?_
    show Steps p.tables e below (Tg13.setTop (mkF m 17 #[.val (.ref r0), .val (.ref r1), .val (.long q2), .second, .val (.long q3), .second, .val (.long (1 : Int64)), .second, .val (.ref r5)] [])) target
    refine XS.lload Xg13.here hx rfl (hb hby own_d2_17) rfl ?_
    show Steps p.tables e below (Tg13.setTop (mkF m 19 #[.val (.ref r0), .val (.ref r1), .val (.long q2), .second, .val (.long q3), .second, .val (.long (1 : Int64)), .second, .val (.ref r5)] [(.long (1 : Int64))])) target
    refine XS.lconst Xg13.here hx rfl (hb hby own_d2_19) ?_
    show Steps p.tables e below (Tg13.setTop (mkF m 20 #[.val (.ref r0), .val (.ref r1), .val (.long q2), .second, .val (.long q3), .second, .val (.long (1 : Int64)), .second, .val (.ref r5)] [(.long (1 : Int64)), (.long (1 : Int64))])) target
    refine XS.lcmp Xg13.here hx rfl (hb hby own_d2_20) rfl ?_
    exact kt
  have c21 : ¬ ((1 : Int64) < (1 : Int64)) := by
    decide
  refine own_st (B := Tg13.setTop (mkF m 29 #[.val (.ref r0), .val (.ref r1), .val (.long q2), .second, .val (.long q3), .second, .val (.long (1 : Int64)), .second, .val (.ref r5)] [(.int (lcmpW (1 : Int64) q3))])) (fun target kt => ?_) ?_
  · show Steps p.tables e below (Tg13.setTop (mkF m 21 #[.val (.ref r0), .val (.ref r1), .val (.long q2), .second, .val (.long q3), .second, .val (.long (1 : Int64)), .second, .val (.ref r5)] [(.int (lcmpW (1 : Int64) (1 : Int64)))])) target
    refine XS.ifNo Xg13.here hx rfl (hb hby own_d2_21) rfl ((if0 _ _).trans (flt (fun q => c21 ((lw_lt (1 : Int64) (1 : Int64)).mp q))).1) ?_
    show Steps p.tables e below (Tg13.setTop (mkF m 24 #[.val (.ref r0), .val (.ref r1), .val (.long q2), .second, .val (.long q3), .second, .val (.long (1 : Int64)), .second, .val (.ref r5)] [])) target
    refine XS.lload Xg13.here hx rfl (hb hby own_d2_24) rfl ?_
    show Steps p.tables e below (Tg13.setTop (mkF m 26 #[.val (.ref r0), .val (.ref r1), .val (.long q2), .second, .val (.long q3), .second, .val (.long (1 : Int64)), .second, .val (.ref r5)] [(.long (1 : Int64))])) target
    refine XS.lload Xg13.here hx rfl (hb hby own_d2_26) rfl ?_
    show Steps p.tables e below (Tg13.setTop (mkF m 28 #[.val (.ref r0), .val (.ref r1), .val (.long q2), .second, .val (.long q3), .second, .val (.long (1 : Int64)), .second, .val (.ref r5)] [(.long q3), (.long (1 : Int64))])) target
    refine XS.lcmp Xg13.here hx rfl (hb hby own_d2_28) rfl ?_
    exact kt
  have c29 : ¬ (q3 < (1 : Int64)) := by
    exact hnum
  refine own_st (B := Tg13.setTop (mkF m 51 #[.val (.ref r0), .val (.ref r1), .val (.long q2), .second, .val (.long q3), .second, .val (.long (1 : Int64)), .second, .val (.ref r5)] [(.ref r1), (.ref r0)])) (fun target kt => ?_) ?_
  · show Steps p.tables e below (Tg13.setTop (mkF m 29 #[.val (.ref r0), .val (.ref r1), .val (.long q2), .second, .val (.long q3), .second, .val (.long (1 : Int64)), .second, .val (.ref r5)] [(.int (lcmpW (1 : Int64) q3))])) target
    refine XS.ifYes Xg13.here hx rfl (pc0 := 29) (pc' := 49) rfl (hb hby own_d2_29) rfl ((if0 _ _).trans (flt (fun q => c29 ((lw_gt (1 : Int64) q3).mp q))).2.2.2) (by decide) (by decide) ?_
    show Steps p.tables e below (Tg13.setTop (mkF m 49 #[.val (.ref r0), .val (.ref r1), .val (.long q2), .second, .val (.long q3), .second, .val (.long (1 : Int64)), .second, .val (.ref r5)] [])) target
    refine XS.aloadN Xg13.here hx rfl (hb hby own_d2_49) rfl rfl ?_
    show Steps p.tables e below (Tg13.setTop (mkF m 50 #[.val (.ref r0), .val (.ref r1), .val (.long q2), .second, .val (.long q3), .second, .val (.long (1 : Int64)), .second, .val (.ref r5)] [(.ref r0)])) target
    refine XS.aloadN Xg13.here hx rfl (hb hby own_d2_50) rfl rfl ?_
    exact kt
  obtain ⟨Tg51, hg51, Xg51, eg51, Wg51, stg51⟩ := putF Xg13 hx hZ hown (host := "") (Or.inl (hw _ (List.mem_of_getElem? (i := 82) rfl))) Via.refl eg13 F_11 F_10 (Or.inr ⟨(hw _ (List.mem_of_getElem? (i := 83) rfl)), rfl, hnm⟩) (hw _ (List.mem_of_getElem? (i := 6) rfl)) (ty := (.object "java/lang/String")) (by decide) rfl rfl (g := (mkF m 51 #[.val (.ref r0), .val (.ref r1), .val (.long q2), .second, .val (.long q3), .second, .val (.long (1 : Int64)), .second, .val (.ref r5)] [(.ref r1), (.ref r0)])) rfl rfl (hb hby own_d2_51)
  refine own_st stg51 ?_
  have Ng51 := Fr.snoc Xg51 Ng13 g_r0
  have F_20 := F_10.wr Wg51
  have F_21 := F_11.same Wg51
  have F_22 := F_12.other Wg51 (Or.inr (slot_ne (Or.inr (hw _ (List.mem_of_getElem? (i := 85) rfl))) (Or.inr (hw _ (List.mem_of_getElem? (i := 83) rfl))) (by decide) (t := .long) (t' := (.object "java/lang/String")) (by decide) (by decide)))
  have F_23 := F_13.other Wg51 (Or.inr (slot_ne (Or.inr (hw _ (List.mem_of_getElem? (i := 87) rfl))) (Or.inr (hw _ (List.mem_of_getElem? (i := 83) rfl))) (by decide) (t := .long) (t' := (.object "java/lang/String")) (by decide) (by decide)))
  have F_24 := F_14.other Wg51 (Or.inr (slot_ne (Or.inr (hw _ (List.mem_of_getElem? (i := 89) rfl))) (Or.inr (hw _ (List.mem_of_getElem? (i := 83) rfl))) (by decide) (t := .long) (t' := (.object "java/lang/String")) (by decide) (by decide)))
  have F_25 := F_15.other Wg51 (Or.inr (slot_ne (Or.inr (hw _ (List.mem_of_getElem? (i := 91) rfl))) (Or.inr (hw _ (List.mem_of_getElem? (i := 83) rfl))) (by decide) (t := (.object "java/lang/String")) (t' := (.object "java/lang/String")) (by decide) (by decide)))
  have F_26 := F_16.wr Wg51
  have F_27 := F_17.other Wg51 (Or.inl (Ne.symm ne_r0_r1))
  have F_28 := F_18.other Wg51 (Or.inl (Ne.symm ne_r0_r1))
  have F_29 := F_19.other Wg51 (Ne.symm ne_r0_rb)
  have Zz_2 : n0 ≤ hg51.size := Nat.le_trans Zz_1 (Keep.of_wr Wg51).1
  have hk := Nat.le_trans hk (Keep.of_wr Wg51).1
  have Kc_2 := Kc_1.wr Wg51 (Or.inl (List.mem_of_getElem? (i := 0) rfl))
  refine own_st (B := Tg51.setTop (mkF m 56 #[.val (.ref r0), .val (.ref r1), .val (.long q2), .second, .val (.long q3), .second, .val (.long (1 : Int64)), .second, .val (.ref r5)] [(.long q2), (.ref r0)])) (fun target kt => ?_) ?_
  · show Steps p.tables e below (Tg51.setTop (mkF m 54 #[.val (.ref r0), .val (.ref r1), .val (.long q2), .second, .val (.long q3), .second, .val (.long (1 : Int64)), .second, .val (.ref r5)] [])) target
    refine XS.aloadN Xg51.here hx rfl (hb hby own_d2_54) rfl rfl ?_
    show Steps p.tables e below (Tg51.setTop (mkF m 55 #[.val (.ref r0), .val (.ref r1), .val (.long q2), .second, .val (.long q3), .second, .val (.long (1 : Int64)), .second, .val (.ref r5)] [(.ref r0)])) target
    refine XS.lloadN Xg51.here hx rfl (hb hby own_d2_55) rfl ?_
    exact kt
  obtain ⟨Tg56, hg56, Xg56, eg56, Wg56, stg56⟩ := putF Xg51 hx hZ hown (host := "") (Or.inl (hw _ (List.mem_of_getElem? (i := 84) rfl))) Via.refl eg51 F_22 F_20 (Or.inr ⟨(hw _ (List.mem_of_getElem? (i := 85) rfl)), rfl, hnm⟩) (hw _ (List.mem_of_getElem? (i := 6) rfl)) (ty := .long) (by decide) rfl rfl (g := (mkF m 56 #[.val (.ref r0), .val (.ref r1), .val (.long q2), .second, .val (.long q3), .second, .val (.long (1 : Int64)), .second, .val (.ref r5)] [(.long q2), (.ref r0)])) rfl rfl (hb hby own_d2_56)
  refine own_st stg56 ?_
  have Ng56 := Fr.snoc Xg56 Ng51 g_r0
  have F_30 := F_20.wr Wg56
  have F_31 := F_21.other Wg56 (Or.inr (slot_ne (Or.inr (hw _ (List.mem_of_getElem? (i := 83) rfl))) (Or.inr (hw _ (List.mem_of_getElem? (i := 85) rfl))) (by decide) (t := (.object "java/lang/String")) (t' := .long) (by decide) (by decide)))
  have F_32 := F_22.same Wg56
  have F_33 := F_23.other Wg56 (Or.inr (slot_ne (Or.inr (hw _ (List.mem_of_getElem? (i := 87) rfl))) (Or.inr (hw _ (List.mem_of_getElem? (i := 85) rfl))) (by decide) (t := .long) (t' := .long) (by decide) (by decide)))
  have F_34 := F_24.other Wg56 (Or.inr (slot_ne (Or.inr (hw _ (List.mem_of_getElem? (i := 89) rfl))) (Or.inr (hw _ (List.mem_of_getElem? (i := 85) rfl))) (by decide) (t := .long) (t' := .long) (by decide) (by decide)))
  have F_35 := F_25.other Wg56 (Or.inr (slot_ne (Or.inr (hw _ (List.mem_of_getElem? (i := 91) rfl))) (Or.inr (hw _ (List.mem_of_getElem? (i := 85) rfl))) (by decide) (t := (.object "java/lang/String")) (t' := .long) (by decide) (by decide)))
  have F_36 := F_26.wr Wg56
  have F_37 := F_27.other Wg56 (Or.inl (Ne.symm ne_r0_r1))
  have F_38 := F_28.other Wg56 (Or.inl (Ne.symm ne_r0_r1))
  have F_39 := F_29.other Wg56 (Ne.symm ne_r0_rb)
  have Zz_3 : n0 ≤ hg56.size := Nat.le_trans Zz_2 (Keep.of_wr Wg56).1
  have hk := Nat.le_trans hk (Keep.of_wr Wg56).1
  have Kc_3 := Kc_2.wr Wg56 (Or.inl (List.mem_of_getElem? (i := 0) rfl))
  refine own_st (B := Tg56.setTop (mkF m 62 #[.val (.ref r0), .val (.ref r1), .val (.long q2), .second, .val (.long q3), .second, .val (.long (1 : Int64)), .second, .val (.ref r5)] [(.long q3), (.ref r0)])) (fun target kt => ?_) ?_
  · show Steps p.tables e below (Tg56.setTop (mkF m 59 #[.val (.ref r0), .val (.ref r1), .val (.long q2), .second, .val (.long q3), .second, .val (.long (1 : Int64)), .second, .val (.ref r5)] [])) target
    refine XS.aloadN Xg56.here hx rfl (hb hby own_d2_59) rfl rfl ?_
    show Steps p.tables e below (Tg56.setTop (mkF m 60 #[.val (.ref r0), .val (.ref r1), .val (.long q2), .second, .val (.long q3), .second, .val (.long (1 : Int64)), .second, .val (.ref r5)] [(.ref r0)])) target
    refine XS.lload Xg56.here hx rfl (hb hby own_d2_60) rfl ?_
    exact kt
  obtain ⟨Tg62, hg62, Xg62, eg62, Wg62, stg62⟩ := putF Xg56 hx hZ hown (host := "") (Or.inl (hw _ (List.mem_of_getElem? (i := 86) rfl))) Via.refl eg56 F_33 F_30 (Or.inr ⟨(hw _ (List.mem_of_getElem? (i := 87) rfl)), rfl, hnm⟩) (hw _ (List.mem_of_getElem? (i := 6) rfl)) (ty := .long) (by decide) rfl rfl (g := (mkF m 62 #[.val (.ref r0), .val (.ref r1), .val (.long q2), .second, .val (.long q3), .second, .val (.long (1 : Int64)), .second, .val (.ref r5)] [(.long q3), (.ref r0)])) rfl rfl (hb hby own_d2_62)
  refine own_st stg62 ?_
  have Ng62 := Fr.snoc Xg62 Ng56 g_r0
  have F_40 := F_30.wr Wg62
  have F_41 := F_31.other Wg62 (Or.inr (slot_ne (Or.inr (hw _ (List.mem_of_getElem? (i := 83) rfl))) (Or.inr (hw _ (List.mem_of_getElem? (i := 87) rfl))) (by decide) (t := (.object "java/lang/String")) (t' := .long) (by decide) (by decide)))
  have F_42 := F_32.other Wg62 (Or.inr (slot_ne (Or.inr (hw _ (List.mem_of_getElem? (i := 85) rfl))) (Or.inr (hw _ (List.mem_of_getElem? (i := 87) rfl))) (by decide) (t := .long) (t' := .long) (by decide) (by decide)))
  have F_43 := F_33.same Wg62
  have F_44 := F_34.other Wg62 (Or.inr (slot_ne (Or.inr (hw _ (List.mem_of_getElem? (i := 89) rfl))) (Or.inr (hw _ (List.mem_of_getElem? (i := 87) rfl))) (by decide) (t := .long) (t' := .long) (by decide) (by decide)))
  have F_45 := F_35.other Wg62 (Or.inr (slot_ne (Or.inr (hw _ (List.mem_of_getElem? (i := 91) rfl))) (Or.inr (hw _ (List.mem_of_getElem? (i := 87) rfl))) (by decide) (t := (.object "java/lang/String")) (t' := .long) (by decide) (by decide)))
  have F_46 := F_36.wr Wg62
  have F_47 := F_37.other Wg62 (Or.inl (Ne.symm ne_r0_r1))
  have F_48 := F_38.other Wg62 (Or.inl (Ne.symm ne_r0_r1))
  have F_49 := F_39.other Wg62 (Ne.symm ne_r0_rb)
  have Zz_4 : n0 ≤ hg62.size := Nat.le_trans Zz_3 (Keep.of_wr Wg62).1
  have hk := Nat.le_trans hk (Keep.of_wr Wg62).1
  have Kc_4 := Kc_3.wr Wg62 (Or.inl (List.mem_of_getElem? (i := 0) rfl))
  refine own_st (B := Tg62.setTop (mkF m 68 #[.val (.ref r0), .val (.ref r1), .val (.long q2), .second, .val (.long q3), .second, .val (.long (1 : Int64)), .second, .val (.ref r5)] [(.long (1 : Int64)), (.ref r0)])) (fun target kt => ?_) ?_
  · show Steps p.tables e below (Tg62.setTop (mkF m 65 #[.val (.ref r0), .val (.ref r1), .val (.long q2), .second, .val (.long q3), .second, .val (.long (1 : Int64)), .second, .val (.ref r5)] [])) target
    refine XS.aloadN Xg62.here hx rfl (hb hby own_d2_65) rfl rfl ?_
    show Steps p.tables e below (Tg62.setTop (mkF m 66 #[.val (.ref r0), .val (.ref r1), .val (.long q2), .second, .val (.long q3), .second, .val (.long (1 : Int64)), .second, .val (.ref r5)] [(.ref r0)])) target
    refine XS.lload Xg62.here hx rfl (hb hby own_d2_66) rfl ?_
    exact kt
  obtain ⟨Tg68, hg68, Xg68, eg68, Wg68, stg68⟩ := putF Xg62 hx hZ hown (host := "") (Or.inl (hw _ (List.mem_of_getElem? (i := 88) rfl))) Via.refl eg62 F_44 F_40 (Or.inr ⟨(hw _ (List.mem_of_getElem? (i := 89) rfl)), rfl, hnm⟩) (hw _ (List.mem_of_getElem? (i := 6) rfl)) (ty := .long) (by decide) rfl rfl (g := (mkF m 68 #[.val (.ref r0), .val (.ref r1), .val (.long q2), .second, .val (.long q3), .second, .val (.long (1 : Int64)), .second, .val (.ref r5)] [(.long (1 : Int64)), (.ref r0)])) rfl rfl (hb hby own_d2_68)
  refine own_st stg68 ?_
  have Ng68 := Fr.snoc Xg68 Ng62 g_r0
  have F_50 := F_40.wr Wg68
  have F_51 := F_41.other Wg68 (Or.inr (slot_ne (Or.inr (hw _ (List.mem_of_getElem? (i := 83) rfl))) (Or.inr (hw _ (List.mem_of_getElem? (i := 89) rfl))) (by decide) (t := (.object "java/lang/String")) (t' := .long) (by decide) (by decide)))
  have F_52 := F_42.other Wg68 (Or.inr (slot_ne (Or.inr (hw _ (List.mem_of_getElem? (i := 85) rfl))) (Or.inr (hw _ (List.mem_of_getElem? (i := 89) rfl))) (by decide) (t := .long) (t' := .long) (by decide) (by decide)))
  have F_53 := F_43.other Wg68 (Or.inr (slot_ne (Or.inr (hw _ (List.mem_of_getElem? (i := 87) rfl))) (Or.inr (hw _ (List.mem_of_getElem? (i := 89) rfl))) (by decide) (t := .long) (t' := .long) (by decide) (by decide)))
  have F_54 := F_44.same Wg68
  have F_55 := F_45.other Wg68 (Or.inr (slot_ne (Or.inr (hw _ (List.mem_of_getElem? (i := 91) rfl))) (Or.inr (hw _ (List.mem_of_getElem? (i := 89) rfl))) (by decide) (t := (.object "java/lang/String")) (t' := .long) (by decide) (by decide)))
  have F_56 := F_46.wr Wg68
  have F_57 := F_47.other Wg68 (Or.inl (Ne.symm ne_r0_r1))
  have F_58 := F_48.other Wg68 (Or.inl (Ne.symm ne_r0_r1))
  have F_59 := F_49.other Wg68 (Ne.symm ne_r0_rb)
  have Zz_5 : n0 ≤ hg68.size := Nat.le_trans Zz_4 (Keep.of_wr Wg68).1
  have hk := Nat.le_trans hk (Keep.of_wr Wg68).1
  have Kc_5 := Kc_4.wr Wg68 (Or.inl (List.mem_of_getElem? (i := 0) rfl))
  refine own_st (B := Tg68.setTop (mkF m 74 #[.val (.ref r0), .val (.ref r1), .val (.long q2), .second, .val (.long q3), .second, .val (.long (1 : Int64)), .second, .val (.ref r5)] [(.ref r5), (.ref r0)])) (fun target kt => ?_) ?_
  · show Steps p.tables e below (Tg68.setTop (mkF m 71 #[.val (.ref r0), .val (.ref r1), .val (.long q2), .second, .val (.long q3), .second, .val (.long (1 : Int64)), .second, .val (.ref r5)] [])) target
    refine XS.aloadN Xg68.here hx rfl (hb hby own_d2_71) rfl rfl ?_
    show Steps p.tables e below (Tg68.setTop (mkF m 72 #[.val (.ref r0), .val (.ref r1), .val (.long q2), .second, .val (.long q3), .second, .val (.long (1 : Int64)), .second, .val (.ref r5)] [(.ref r0)])) target
    refine XS.aload Xg68.here hx rfl (hb hby own_d2_72) rfl rfl ?_
    exact kt
  obtain ⟨Tg74, hg74, Xg74, eg74, Wg74, stg74⟩ := putF Xg68 hx hZ hown (host := "") (Or.inl (hw _ (List.mem_of_getElem? (i := 90) rfl))) Via.refl eg68 F_55 F_50 (Or.inr ⟨(hw _ (List.mem_of_getElem? (i := 91) rfl)), rfl, hnm⟩) (hw _ (List.mem_of_getElem? (i := 6) rfl)) (ty := (.object "java/lang/String")) (by decide) rfl rfl (g := (mkF m 74 #[.val (.ref r0), .val (.ref r1), .val (.long q2), .second, .val (.long q3), .second, .val (.long (1 : Int64)), .second, .val (.ref r5)] [(.ref r5), (.ref r0)])) rfl rfl (hb hby own_d2_74)
  refine own_st stg74 ?_
  have Ng74 := Fr.snoc Xg74 Ng68 g_r0
  have F_60 := F_50.wr Wg74
  have F_61 := F_51.other Wg74 (Or.inr (slot_ne (Or.inr (hw _ (List.mem_of_getElem? (i := 83) rfl))) (Or.inr (hw _ (List.mem_of_getElem? (i := 91) rfl))) (by decide) (t := (.object "java/lang/String")) (t' := (.object "java/lang/String")) (by decide) (by decide)))
  have F_62 := F_52.other Wg74 (Or.inr (slot_ne (Or.inr (hw _ (List.mem_of_getElem? (i := 85) rfl))) (Or.inr (hw _ (List.mem_of_getElem? (i := 91) rfl))) (by decide) (t := .long) (t' := (.object "java/lang/String")) (by decide) (by decide)))
  have F_63 := F_53.other Wg74 (Or.inr (slot_ne (Or.inr (hw _ (List.mem_of_getElem? (i := 87) rfl))) (Or.inr (hw _ (List.mem_of_getElem? (i := 91) rfl))) (by decide) (t := .long) (t' := (.object "java/lang/String")) (by decide) (by decide)))
  have F_64 := F_54.other Wg74 (Or.inr (slot_ne (Or.inr (hw _ (List.mem_of_getElem? (i := 89) rfl))) (Or.inr (hw _ (List.mem_of_getElem? (i := 91) rfl))) (by decide) (t := .long) (t' := (.object "java/lang/String")) (by decide) (by decide)))
  have F_65 := F_55.same Wg74
  have F_66 := F_56.wr Wg74
  have F_67 := F_57.other Wg74 (Or.inl (Ne.symm ne_r0_r1))
  have F_68 := F_58.other Wg74 (Or.inl (Ne.symm ne_r0_r1))
  have F_69 := F_59.other Wg74 (Ne.symm ne_r0_rb)
  have Zz_6 : n0 ≤ hg74.size := Nat.le_trans Zz_5 (Keep.of_wr Wg74).1
  have hk := Nat.le_trans hk (Keep.of_wr Wg74).1
  have Kc_6 := Kc_5.wr Wg74 (Or.inl (List.mem_of_getElem? (i := 0) rfl))
  obtain ⟨fs, hr, hrun, hended, hRW⟩ := Xg74.leaveW hS (show _ ≤ Tg74.heap.size by rw [eg74]; exact hk) (v := none) (fun _ => rfl)
  have hend : Steps p.tables e below (Tg74.setTop (mkF m 77 #[.val (.ref r0), .val (.ref r1), .val (.long q2), .second, .val (.long q3), .second, .val (.long (1 : Int64)), .second, .val (.ref r5)] [])) (Tg74.setFrames fs) := by
    exact Xg74.returnOut hx Bd.returns (hb hby own_d2_77) hr
  refine own_fin hend ⟨_, hrun, hended, _, _, rfl, ?_, ⟨_, rfl⟩, hRW.2.1, hRW.2.2.1, hRW.2.2.2.mono (by decide) (by decide)⟩
  show own_Q2 Z r0 r1 q2 q3 r5 cs vf rb h0 n0 _ Tg74.heap _
  rw [eg74]
  exact ⟨rfl, Ng74, Kc_6, F_60, F_61, F_62, F_63, F_64, F_65⟩
theorem own_d16_0 : decode prog_41_method_2_code 0 = .ok (.aload_n 0, 1) := by decide +kernel
theorem own_d16_1 : decode prog_41_method_2_code 1 = .ok (.getfield 36, 3) := by decide +kernel
theorem own_d16_4 : decode prog_41_method_2_code 4 = .ok (.aload_n 1, 1) := by decide +kernel
theorem own_d16_5 : decode prog_41_method_2_code 5 = .ok (.getfield 36, 3) := by decide +kernel
theorem own_d16_8 : decode prog_41_method_2_code 8 = .ok (.lcmp, 1) := by decide +kernel
theorem own_d16_9 : decode prog_41_method_2_code 9 = .ok (.ifCond .ne 15, 3) := by decide +kernel
theorem own_d16_12 : decode prog_41_method_2_code 12 = .ok (.aload_n 0, 1) := by decide +kernel
theorem own_d16_13 : decode prog_41_method_2_code 13 = .ok (.getfield 40, 3) := by decide +kernel
theorem own_d16_16 : decode prog_41_method_2_code 16 = .ok (.aload_n 1, 1) := by decide +kernel
theorem own_d16_17 : decode prog_41_method_2_code 17 = .ok (.getfield 40, 3) := by decide +kernel
theorem own_d16_20 : decode prog_41_method_2_code 20 = .ok (.lcmp, 1) := by decide +kernel
theorem own_d16_21 : decode prog_41_method_2_code 21 = .ok (.ifCond .le 7, 3) := by decide +kernel
theorem own_d16_24 : decode prog_41_method_2_code 24 = .ok (.iconst 1, 1) := by decide +kernel
theorem own_d16_25 : decode prog_41_method_2_code 25 = .ok (.goto 4, 3) := by decide +kernel
theorem own_d16_28 : decode prog_41_method_2_code 28 = .ok (.iconst 0, 1) := by decide +kernel
theorem own_d16_29 : decode prog_41_method_2_code 29 = .ok (.ireturn, 1) := by decide +kernel
theorem own_ef16 (m : MethodId) (r0 : Addr) (r1 : Addr) : entryFrame m #[(.ref r0), (.ref r1)] 2 = mkF m 0 #[.val (.ref r0), .val (.ref r1)] [] := by first | (simp [entryFrame, mkF, argsToLocals, Value.category]; done) | rfl
def own_Q16 (Z : State) (r0 : Addr) (r1 : Addr) (ra : Int64) (na : Int64) (rb : Int64) (nb : Int64) (h0 : Heap) (n0 : Nat) (v : Option Value) (h : Heap) (L : List Loc) : Prop := (v = some (.int (own_b (¬ (ra = rb) ∨ (nb < na))))) ∧ (Fr n0 L) ∧ (h = h0)
set_option maxRecDepth 65536 in
set_option maxHeartbeats 40000000 in
theorem own_rm16 (l : Launch) (Z : State) (a0 : Array Value) (hw : ∀ d ∈ tables_1, d.before a0 Z = true) (ws : List Jvm.Cond) (r0 : Addr) (r1 : Addr) (ra : Int64) (na : Int64) (rb : Int64) (nb : Int64) (h0 : Heap) (n0 : Nat) (Z0 : n0 ≤ h0.size) (E_r0 : Exa Z h0 r0 "ringward/Message$Post") (F_r0_run : Fld Z h0 r0 "ringward/Message$Post" "run" "J" (.long ra)) (F_r0_number : Fld Z h0 r0 "ringward/Message$Post" "number" "J" (.long na)) (F_r1_run : Fld Z h0 r1 "ringward/Message$Post" "run" "J" (.long rb)) (F_r1_number : Fld Z h0 r1 "ringward/Message$Post" "number" "J" (.long nb)) :
    MetFree l (⟨"ringward/Message$Post", "isAfter", "(Lringward/Message$Post;)Z"⟩ : MethodName) (head1 (Jvm.Cond.code (⟨"ringward/Message$Post", "isAfter", "(Lringward/Message$Post;)Z"⟩ : MethodName) prog_41_method_2_code 2 (some .boolean) :: ws) ({ frames := 0, cells := 0, slots := 0, locals := 0 } : Room)) (fun a U => a = #[(.ref r0), (.ref r1)] ∧ Z.Warmed39 U.vm ∧ U.heap = h0) (fun _ _ _ _ _ => True) (fun _ U o U' => ∃ v L, o = .returned v ∧ own_Q16 Z r0 r1 ra na rb nb h0 n0 v U'.heap L ∧ FrameEnd U o U' L ({ frames := 0, cells := 0, slots := 0, locals := 0 } : Room).cells ({ frames := 0, cells := 0, slots := 0, locals := 0 } : Room).slots) := by
  refine MetFree.of_bodySF (plainFor_of_name own_pn6) hisR ?_
  intro p e s m args below meth c s₁ Bd hml0 hP hK
  obtain ⟨rfl, hZ, hh⟩ := hP
  have hx := Bd.exec
  have hby := Bd.bytes
  have hml : c.maxLocals = 2 := hml0
  have hown : s.vm.findClass "ringward/Message$Post" = some m.cls := findClass_of_methodNamed Bd.named
  have hnm := (name_of_methodNamed Bd.named Bd.method).1
  have X0 : Stand p l e ({ frames := 0, cells := 0, slots := 0, locals := 0 } : Room) s m #[(.ref r0), (.ref r1)] below meth c s₁ [] 0 0 := Stand.of_body Bd
  have e0 : s₁.heap = h0 := by rw [← hh, Bd.state]; rfl
  have N0 := Fr.nil n0
  have pre0 : ∀ t, Steps p.tables e below (s₁.setTop (mkF m 0 #[.val (.ref r0), .val (.ref r1)] [])) t → Steps p.tables e below (s₁.setTop (entryFrame m #[(.ref r0), (.ref r1)] 2)) t := fun t k => castTop (own_ef16 m r0 r1) k
  refine own_run (own_st pre0 ?_)
  refine own_st (B := s₁.setTop (mkF m 1 #[.val (.ref r0), .val (.ref r1)] [(.ref r0)])) (fun target kt => ?_) ?_
  · show Steps p.tables e below (s₁.setTop (mkF m 0 #[.val (.ref r0), .val (.ref r1)] [])) target
    refine XS.aloadN X0.here hx rfl (hb hby own_d16_0) rfl rfl ?_
    exact kt
  obtain ⟨Tg1, Xg1, eg1, stg1⟩ := getF X0 hx hZ hown (host := "") (Or.inl (hw _ (List.mem_of_getElem? (i := 84) rfl))) Via.refl e0 F_r0_run (g := (mkF m 1 #[.val (.ref r0), .val (.ref r1)] [(.ref r0)])) rfl rfl (hb hby own_d16_1)
  refine own_st stg1 ?_
  refine own_st (B := Tg1.setTop (mkF m 5 #[.val (.ref r0), .val (.ref r1)] [(.ref r1), (.long ra)])) (fun target kt => ?_) ?_
  · show Steps p.tables e below (Tg1.setTop (mkF m 4 #[.val (.ref r0), .val (.ref r1)] [(.long ra)])) target
    refine XS.aloadN Xg1.here hx rfl (hb hby own_d16_4) rfl rfl ?_
    exact kt
  obtain ⟨Tg5, Xg5, eg5, stg5⟩ := getF Xg1 hx hZ hown (host := "") (Or.inl (hw _ (List.mem_of_getElem? (i := 84) rfl))) Via.refl eg1 F_r1_run (g := (mkF m 5 #[.val (.ref r0), .val (.ref r1)] [(.ref r1), (.long ra)])) rfl rfl (hb hby own_d16_5)
  refine own_st stg5 ?_
  refine own_st (B := Tg5.setTop (mkF m 9 #[.val (.ref r0), .val (.ref r1)] [(.int (lcmpW ra rb))])) (fun target kt => ?_) ?_
  · show Steps p.tables e below (Tg5.setTop (mkF m 8 #[.val (.ref r0), .val (.ref r1)] [(.long rb), (.long ra)])) target
    refine XS.lcmp Xg5.here hx rfl (hb hby own_d16_8) rfl ?_
    exact kt
  obtain ⟨_, ⟨T_M29, lc_M29, j29_s0, rfl, X_M29, e_M29, N_M29, Z_M29, F, F_1, F_2, F_3, F_4, rfl⟩, st_M29⟩ : own_Lead p.tables e below (Tg5.setTop (mkF m 9 #[.val (.ref r0), .val (.ref r1)] [(.int (lcmpW ra rb))])) (fun B => ∃ (T_M29 : State) (lc_M29 : List Loc) (j29_s0 : Int32), B = T_M29.setTop (mkF m 29 #[.val (.ref r0), .val (.ref r1)] [(.int j29_s0)]) ∧ Stand p l e ({ frames := 0, cells := 0, slots := 0, locals := 0 } : Room) s m #[(.ref r0), (.ref r1)] below meth c T_M29 lc_M29 0 0 ∧ T_M29.heap = h0 ∧ Fr n0 lc_M29 ∧ n0 ≤ h0.size ∧ Exa Z h0 r0 "ringward/Message$Post" ∧ Fld Z h0 r0 "ringward/Message$Post" "run" "J" (.long ra) ∧ Fld Z h0 r0 "ringward/Message$Post" "number" "J" (.long na) ∧ Fld Z h0 r1 "ringward/Message$Post" "run" "J" (.long rb) ∧ Fld Z h0 r1 "ringward/Message$Post" "number" "J" (.long nb) ∧ j29_s0 = own_b ((¬ (ra = rb) ∨ (nb < na)))) := by
    by_cases c9 : ra = rb
    · refine own_st (B := Tg5.setTop (mkF m 13 #[.val (.ref r0), .val (.ref r1)] [(.ref r0)])) (fun target kt => ?_) ?_
      · show Steps p.tables e below (Tg5.setTop (mkF m 9 #[.val (.ref r0), .val (.ref r1)] [(.int (lcmpW ra rb))])) target
        refine XS.ifNo Xg5.here hx rfl (hb hby own_d16_9) rfl ((if0 _ _).trans (teq ((lw_eq ra rb).mpr c9)).2) ?_
        show Steps p.tables e below (Tg5.setTop (mkF m 12 #[.val (.ref r0), .val (.ref r1)] [])) target
        refine XS.aloadN Xg5.here hx rfl (hb hby own_d16_12) rfl rfl ?_
        exact kt
      obtain ⟨Tg13, Xg13, eg13, stg13⟩ := getF Xg5 hx hZ hown (host := "") (Or.inl (hw _ (List.mem_of_getElem? (i := 86) rfl))) Via.refl eg5 F_r0_number (g := (mkF m 13 #[.val (.ref r0), .val (.ref r1)] [(.ref r0)])) rfl rfl (hb hby own_d16_13)
      refine own_st stg13 ?_
      refine own_st (B := Tg13.setTop (mkF m 17 #[.val (.ref r0), .val (.ref r1)] [(.ref r1), (.long na)])) (fun target kt => ?_) ?_
      · show Steps p.tables e below (Tg13.setTop (mkF m 16 #[.val (.ref r0), .val (.ref r1)] [(.long na)])) target
        refine XS.aloadN Xg13.here hx rfl (hb hby own_d16_16) rfl rfl ?_
        exact kt
      obtain ⟨Tg17, Xg17, eg17, stg17⟩ := getF Xg13 hx hZ hown (host := "") (Or.inl (hw _ (List.mem_of_getElem? (i := 86) rfl))) Via.refl eg13 F_r1_number (g := (mkF m 17 #[.val (.ref r0), .val (.ref r1)] [(.ref r1), (.long na)])) rfl rfl (hb hby own_d16_17)
      refine own_st stg17 ?_
      refine own_st (B := Tg17.setTop (mkF m 21 #[.val (.ref r0), .val (.ref r1)] [(.int (lcmpW na nb))])) (fun target kt => ?_) ?_
      · show Steps p.tables e below (Tg17.setTop (mkF m 20 #[.val (.ref r0), .val (.ref r1)] [(.long nb), (.long na)])) target
        refine XS.lcmp Xg17.here hx rfl (hb hby own_d16_20) rfl ?_
        exact kt
      by_cases c21 : nb < na
      · refine own_st (B := Tg17.setTop (mkF m 29 #[.val (.ref r0), .val (.ref r1)] [(.int (1 : Int32))])) (fun target kt => ?_) ?_
        · show Steps p.tables e below (Tg17.setTop (mkF m 21 #[.val (.ref r0), .val (.ref r1)] [(.int (lcmpW na nb))])) target
          refine XS.ifNo Xg17.here hx rfl (hb hby own_d16_21) rfl ((if0 _ _).trans (tlt ((lw_gt na nb).mpr c21)).2.2.2) ?_
          show Steps p.tables e below (Tg17.setTop (mkF m 24 #[.val (.ref r0), .val (.ref r1)] [])) target
          refine XS.iconst Xg17.here hx rfl (hb hby own_d16_24) ?_
          show Steps p.tables e below (Tg17.setTop (mkF m 25 #[.val (.ref r0), .val (.ref r1)] [(.int (1 : Int32))])) target
          refine XS.goto Xg17.here hx rfl (pc0 := 25) (pc' := 29) rfl (hb hby own_d16_25) (by decide) (by decide) ?_
          exact kt
        exact ⟨_, ⟨Tg17, _, (1 : Int32), rfl, Xg17, eg17, N0, Z0, E_r0, F_r0_run, F_r0_number, F_r1_run, F_r1_number, (own_b1 (Or.inr c21)).symm⟩, fun _ k => k⟩
      · refine own_st (B := Tg17.setTop (mkF m 29 #[.val (.ref r0), .val (.ref r1)] [(.int (0 : Int32))])) (fun target kt => ?_) ?_
        · show Steps p.tables e below (Tg17.setTop (mkF m 21 #[.val (.ref r0), .val (.ref r1)] [(.int (lcmpW na nb))])) target
          refine XS.ifYes Xg17.here hx rfl (pc0 := 21) (pc' := 28) rfl (hb hby own_d16_21) rfl ((if0 _ _).trans (flt (fun q => c21 ((lw_gt na nb).mp q))).2.2.2) (by decide) (by decide) ?_
          show Steps p.tables e below (Tg17.setTop (mkF m 28 #[.val (.ref r0), .val (.ref r1)] [])) target
          refine XS.iconst Xg17.here hx rfl (hb hby own_d16_28) ?_
          exact kt
        exact ⟨_, ⟨Tg17, _, (0 : Int32), rfl, Xg17, eg17, N0, Z0, E_r0, F_r0_run, F_r0_number, F_r1_run, F_r1_number, (own_b0 (fun w => w.elim (fun n => n c9) c21)).symm⟩, fun _ k => k⟩
    · refine own_st (B := Tg5.setTop (mkF m 29 #[.val (.ref r0), .val (.ref r1)] [(.int (1 : Int32))])) (fun target kt => ?_) ?_
      · show Steps p.tables e below (Tg5.setTop (mkF m 9 #[.val (.ref r0), .val (.ref r1)] [(.int (lcmpW ra rb))])) target
        refine XS.ifYes Xg5.here hx rfl (pc0 := 9) (pc' := 24) rfl (hb hby own_d16_9) rfl ((if0 _ _).trans (feq (fun q => c9 ((lw_eq ra rb).mp q))).2) (by decide) (by decide) ?_
        show Steps p.tables e below (Tg5.setTop (mkF m 24 #[.val (.ref r0), .val (.ref r1)] [])) target
        refine XS.iconst Xg5.here hx rfl (hb hby own_d16_24) ?_
        show Steps p.tables e below (Tg5.setTop (mkF m 25 #[.val (.ref r0), .val (.ref r1)] [(.int (1 : Int32))])) target
        refine XS.goto Xg5.here hx rfl (pc0 := 25) (pc' := 29) rfl (hb hby own_d16_25) (by decide) (by decide) ?_
        exact kt
      exact ⟨_, ⟨Tg5, _, (1 : Int32), rfl, Xg5, eg5, N0, Z0, E_r0, F_r0_run, F_r0_number, F_r1_run, F_r1_number, (own_b1 (Or.inl c9)).symm⟩, fun _ k => k⟩
  refine own_st st_M29 ?_
  obtain ⟨fs, hr, hrun, hended, hW, hsame⟩ := X_M29.leave (v := some (.int (nar .boolean (own_b (¬ (ra = rb) ∨ (nb < na)))))) (fun h => by rw [Bd.returns] at h; cases h)
  have hend : Steps p.tables e below (T_M29.setTop (mkF m 29 #[.val (.ref r0), .val (.ref r1)] [(.int (own_b (¬ (ra = rb) ∨ (nb < na))))])) (T_M29.setFrames fs) := by
    exact retN X_M29 hx (t := .boolean) Bd.returns (by simp) (hb hby own_d16_29) hr
  refine own_fin hend ⟨_, hrun, hended, _, _, rfl, ?_, ⟨_, rfl⟩, hW, hsame.mono (by decide) (by decide)⟩
  show own_Q16 Z r0 r1 ra na rb nb h0 n0 _ T_M29.heap _
  rw [e_M29]
  exact ⟨(congrArg (fun z => some (Value.int z)) ((own_nar rfl).trans (own_bi ⟨fun w => w, fun w => w⟩))), N_M29, rfl⟩
theorem own_pn7 : plainName "ringward/PostIsAfterPinLaw" = true := by first | (simp [plainName, overriddenIn]; done) | decide +kernel
theorem own_d1_0 : decode method_2_code 0 = .ok (.lload_n 0, 1) := by decide +kernel
theorem own_d1_1 : decode method_2_code 1 = .ok (.ldc2_w 9, 3) := by decide +kernel
theorem own_d1_4 : decode method_2_code 4 = .ok (.land, 1) := by decide +kernel
theorem own_d1_5 : decode method_2_code 5 = .ok (.lstore_n 2, 1) := by decide +kernel
theorem own_d1_6 : decode method_2_code 6 = .ok (.lload_n 2, 1) := by decide +kernel
theorem own_d1_7 : decode method_2_code 7 = .ok (.lconst 0, 1) := by decide +kernel
theorem own_d1_8 : decode method_2_code 8 = .ok (.lcmp, 1) := by decide +kernel
theorem own_d1_9 : decode method_2_code 9 = .ok (.ifCond .ne 5, 3) := by decide +kernel
theorem own_d1_12 : decode method_2_code 12 = .ok (.lconst 1, 1) := by decide +kernel
theorem own_d1_13 : decode method_2_code 13 = .ok (.lstore_n 2, 1) := by decide +kernel
theorem own_d1_14 : decode method_2_code 14 = .ok (.lload_n 2, 1) := by decide +kernel
theorem own_d1_15 : decode method_2_code 15 = .ok (.lreturn, 1) := by decide +kernel
theorem own_ef1 (m : MethodId) (q0 : Int64) : entryFrame m #[(.long q0)] 4 = mkF m 0 #[.val (.long q0), .second, .unset, .unset] [] := by first | (simp [entryFrame, mkF, argsToLocals, Value.category]; done) | rfl
def own_Q1 (Z : State) (q0 : Int64) (h0 : Heap) (n0 : Nat) (v : Option Value) (h : Heap) (L : List Loc) : Prop := (v = some (.long ((if ((q0 &&& (9223372036854775807 : Int64))) = (0 : Int64) then (1 : Int64) else ((q0 &&& (9223372036854775807 : Int64))))))) ∧ (Fr n0 L) ∧ (h = h0)
set_option maxRecDepth 65536 in
set_option maxHeartbeats 40000000 in
theorem own_rm1 (l : Launch) (Z : State) (a0 : Array Value) (hw : ∀ d ∈ tables_1, d.before a0 Z = true) (ws : List Jvm.Cond) (q0 : Int64) (h0 : Heap) (n0 : Nat) (Z0 : n0 ≤ h0.size) :
    MetFree l (⟨"ringward/PostIsAfterPinLaw", "number", "(J)J"⟩ : MethodName) (head1 (Jvm.Cond.code (⟨"ringward/PostIsAfterPinLaw", "number", "(J)J"⟩ : MethodName) method_2_code 4 (some .long) :: ws) ({ frames := 0, cells := 0, slots := 0, locals := 0 } : Room)) (fun a U => a = #[(.long q0)] ∧ Z.Warmed39 U.vm ∧ U.heap = h0) (fun _ _ _ _ _ => True) (fun _ U o U' => ∃ v L, o = .returned v ∧ own_Q1 Z q0 h0 n0 v U'.heap L ∧ FrameEnd U o U' L ({ frames := 0, cells := 0, slots := 0, locals := 0 } : Room).cells ({ frames := 0, cells := 0, slots := 0, locals := 0 } : Room).slots) := by
  refine MetFree.of_bodySF (plainFor_of_name own_pn7) hisR ?_
  intro p e s m args below meth c s₁ Bd hml0 hP hK
  obtain ⟨rfl, hZ, hh⟩ := hP
  have hx := Bd.exec
  have hby := Bd.bytes
  have hml : c.maxLocals = 4 := hml0
  have hown : s.vm.findClass "ringward/PostIsAfterPinLaw" = some m.cls := findClass_of_methodNamed Bd.named
  have hnm := (name_of_methodNamed Bd.named Bd.method).1
  have X0 : Stand p l e ({ frames := 0, cells := 0, slots := 0, locals := 0 } : Room) s m #[(.long q0)] below meth c s₁ [] 0 0 := Stand.of_body Bd
  have e0 : s₁.heap = h0 := by rw [← hh, Bd.state]; rfl
  have N0 := Fr.nil n0
  have pre0 : ∀ t, Steps p.tables e below (s₁.setTop (mkF m 0 #[.val (.long q0), .second, .unset, .unset] [])) t → Steps p.tables e below (s₁.setTop (entryFrame m #[(.long q0)] 4)) t := fun t k => castTop (own_ef1 m q0) k
  refine own_run (own_st pre0 ?_)
  obtain ⟨v5, hv5⟩ : ∃ z : Int64, z = (q0 &&& (9223372036854775807 : Int64)) := ⟨_, rfl⟩
  refine own_st (B := s₁.setTop (mkF m 9 #[.val (.long q0), .second, .val (.long v5), .second] [(.int (lcmpW v5 (0 : Int64)))])) (fun target kt => ?_) ?_
  · show Steps p.tables e below (s₁.setTop (mkF m 0 #[.val (.long q0), .second, .unset, .unset] [])) target
    refine XS.lloadN X0.here hx rfl (hb hby own_d1_0) rfl ?_
    show Steps p.tables e below (s₁.setTop (mkF m 1 #[.val (.long q0), .second, .unset, .unset] [(.long q0)])) target
    refine X0.ldc2Long hx hown (mvT hZ (hw _ (List.mem_of_getElem? (i := 4) rfl))) (g := (mkF m 1 #[.val (.long q0), .second, .unset, .unset] [(.long q0)])) rfl (hb hby own_d1_1) _ ?_
    show Steps p.tables e below (s₁.setTop (mkF m 4 #[.val (.long q0), .second, .unset, .unset] [(.long (9223372036854775807 : Int64)), (.long q0)])) target
    refine XS.land X0.here hx rfl (hb hby own_d1_4) rfl ?_
    show Steps p.tables e below (s₁.setTop (mkF m 5 #[.val (.long q0), .second, .unset, .unset] [(.long (q0 &&& (9223372036854775807 : Int64)))])) target
    refine XS.lstoreN X0.here hx rfl (hb hby own_d1_5) rfl (l' := #[.val (.long q0), .second, .val (.long v5), .second]) (by subst hv5; rfl) ?_
    show Steps p.tables e below (s₁.setTop (mkF m 6 #[.val (.long q0), .second, .val (.long v5), .second] [])) target
    refine XS.lloadN X0.here hx rfl (hb hby own_d1_6) rfl ?_
    show Steps p.tables e below (s₁.setTop (mkF m 7 #[.val (.long q0), .second, .val (.long v5), .second] [(.long v5)])) target
    refine XS.lconst X0.here hx rfl (hb hby own_d1_7) ?_
    show Steps p.tables e below (s₁.setTop (mkF m 8 #[.val (.long q0), .second, .val (.long v5), .second] [(.long (0 : Int64)), (.long v5)])) target
    refine XS.lcmp X0.here hx rfl (hb hby own_d1_8) rfl ?_
    exact kt
  obtain ⟨_, ⟨j14_l2, rfl, hj14_l2⟩, st_M14⟩ : own_Lead p.tables e below (s₁.setTop (mkF m 9 #[.val (.long q0), .second, .val (.long v5), .second] [(.int (lcmpW v5 (0 : Int64)))])) (fun B => ∃ (j14_l2 : Int64), B = s₁.setTop (mkF m 14 #[.val (.long q0), .second, .val (.long j14_l2), .second] []) ∧ j14_l2 = (if v5 = (0 : Int64) then (1 : Int64) else v5)) := by
    by_cases c9 : v5 = (0 : Int64)
    · refine own_st (B := s₁.setTop (mkF m 14 #[.val (.long q0), .second, .val (.long (1 : Int64)), .second] [])) (fun target kt => ?_) ?_
      · show Steps p.tables e below (s₁.setTop (mkF m 9 #[.val (.long q0), .second, .val (.long v5), .second] [(.int (lcmpW v5 (0 : Int64)))])) target
        refine XS.ifNo X0.here hx rfl (hb hby own_d1_9) rfl ((if0 _ _).trans (teq ((lw_eq v5 (0 : Int64)).mpr c9)).2) ?_
        show Steps p.tables e below (s₁.setTop (mkF m 12 #[.val (.long q0), .second, .val (.long v5), .second] [])) target
        refine XS.lconst X0.here hx rfl (hb hby own_d1_12) ?_
        show Steps p.tables e below (s₁.setTop (mkF m 13 #[.val (.long q0), .second, .val (.long v5), .second] [(.long (1 : Int64))])) target
        refine XS.lstoreN X0.here hx rfl (hb hby own_d1_13) rfl (l' := #[.val (.long q0), .second, .val (.long (1 : Int64)), .second]) rfl ?_
        exact kt
      exact ⟨_, ⟨(1 : Int64), rfl, (if_pos c9).symm⟩, fun _ k => k⟩
    · refine own_st (B := s₁.setTop (mkF m 14 #[.val (.long q0), .second, .val (.long v5), .second] [])) (fun target kt => ?_) ?_
      · show Steps p.tables e below (s₁.setTop (mkF m 9 #[.val (.long q0), .second, .val (.long v5), .second] [(.int (lcmpW v5 (0 : Int64)))])) target
        refine XS.ifYes X0.here hx rfl (pc0 := 9) (pc' := 14) rfl (hb hby own_d1_9) rfl ((if0 _ _).trans (feq (fun q => c9 ((lw_eq v5 (0 : Int64)).mp q))).2) (by decide) (by decide) ?_
        exact kt
      exact ⟨_, ⟨v5, rfl, (if_neg c9).symm⟩, fun _ k => k⟩
  refine own_st st_M14 ?_
  refine own_st (B := s₁.setTop (mkF m 15 #[.val (.long q0), .second, .val (.long j14_l2), .second] [(.long j14_l2)])) (fun target kt => ?_) ?_
  · show Steps p.tables e below (s₁.setTop (mkF m 14 #[.val (.long q0), .second, .val (.long j14_l2), .second] [])) target
    refine XS.lloadN X0.here hx rfl (hb hby own_d1_14) rfl ?_
    exact kt
  obtain ⟨fs, hr, hrun, hended, hW, hsame⟩ := X0.leave (v := some (.long j14_l2)) (fun h => by rw [Bd.returns] at h; cases h)
  have hend : Steps p.tables e below (s₁.setTop (mkF m 15 #[.val (.long q0), .second, .val (.long j14_l2), .second] [(.long j14_l2)])) (s₁.setFrames fs) := by
    exact own_retJ X0 hx Bd.returns (hb hby own_d1_15) hr
  refine own_fin hend ⟨_, hrun, hended, _, _, rfl, ?_, ⟨_, rfl⟩, hW, hsame.mono (by decide) (by decide)⟩
  show own_Q1 Z q0 h0 n0 _ s₁.heap _
  rw [e0]
  subst hv5 hj14_l2
  exact ⟨(congrArg (fun z => some (Value.long z)) rfl), N0, rfl⟩
theorem own_num (x : Int64) : ¬ (if (x &&& (9223372036854775807 : Int64)) = (0 : Int64) then (1 : Int64) else (x &&& (9223372036854775807 : Int64))) < (1 : Int64) := by
  have h0 : 0 ≤ (x &&& (9223372036854775807 : Int64)).toInt := by
    show 0 ≤ (x &&& (9223372036854775807 : Int64)).toBitVec.toInt
    have hm : (x &&& (9223372036854775807 : Int64)).toBitVec.msb = false := by
      show (x.toBitVec &&& (9223372036854775807 : Int64).toBitVec).msb = false
      have hc : (9223372036854775807 : Int64).toBitVec.msb = false := by decide
      rw [BitVec.msb_and, hc, Bool.and_false]
    rw [BitVec.toInt_eq_msb_cond, hm]
    simp
  by_cases hz : (x &&& (9223372036854775807 : Int64)) = (0 : Int64)
  · rw [if_pos hz]; decide
  · rw [if_neg hz, Int64.lt_iff_toInt_lt]
    have e1 : (1 : Int64).toInt = 1 := by decide
    have e0 : (0 : Int64).toInt = 0 := by decide
    have hne : (x &&& (9223372036854775807 : Int64)).toInt ≠ 0 := fun h => hz (Int64.toInt_inj.mp (h.trans e0.symm))
    omega
theorem own_law (a b n m : Int64) : ((¬ (a = b) ∨ (n < m)) ↔ (¬ (a = b) ∨ (n < m))) ∧ (((¬ (b = a) ∨ (m < n)) ↔ (¬ (a = b) ∨ (m < n))) ∧ ((¬ (¬ (a = a) ∨ (m < m))) ∧ (¬ (a = b) ∨ (¬ (¬ (a = b) ∨ (n < m)) ∨ ¬ (¬ (b = a) ∨ (m < n)))))) := by
  have n1 : ¬ m < m := fun h => by
    rw [Int64.lt_iff_toInt_lt] at h
    omega
  have n2 : n < m → ¬ m < n := fun h1 h2 => by
    rw [Int64.lt_iff_toInt_lt] at h1 h2
    omega
  refine ⟨Iff.rfl, ⟨fun h => h.elim (fun z => Or.inl (fun w => z w.symm)) Or.inr, fun h => h.elim (fun z => Or.inl (fun w => z w.symm)) Or.inr⟩, fun h => h.elim (fun z => z rfl) n1, ?_⟩
  by_cases e : a = b
  · by_cases x : n < m
    · exact Or.inr (Or.inr (fun h => h.elim (fun z => z e.symm) (n2 x)))
    · exact Or.inr (Or.inl (fun h => h.elim (fun z => z e) x))
  · exact Or.inl e
theorem own_num2 (P : Prop) [Decidable P] (a b : Int64) (ha : ¬ a < (1 : Int64)) (hb : ¬ b < (1 : Int64)) : ¬ (if P then a else b) < (1 : Int64) := by
  by_cases h : P
  · rw [if_pos h]; exact ha
  · rw [if_neg h]; exact hb
theorem own_pd11 : parseMethodDescriptor "(J)J" = some ⟨[.long], some .long⟩ := by decide +kernel
theorem own_pd12 : parseMethodDescriptor "(Ljava/lang/String;JJJLjava/lang/String;)V" = some ⟨[(.object "java/lang/String"), .long, .long, .long, (.object "java/lang/String")], none⟩ := by decide +kernel
theorem own_pd13 : parseMethodDescriptor "(Lringward/Message$Post;)Z" = some ⟨[(.object "ringward/Message$Post")], some .boolean⟩ := by decide +kernel
theorem own_ef0 (m : MethodId) (q0 : Int64) (q1 : Int64) (q2 : Int64) (q3 : Int64) (p4 : Int32) : entryFrame m #[(.long q0), (.long q1), (.long q2), (.long q3), (.int p4)] maxLocals = mkF m 0 #[.val (.long q0), .second, .val (.long q1), .second, .val (.long q2), .second, .val (.long q3), .second, .val (.int p4), .unset, .unset, .unset, .unset, .unset, .unset, .unset, .unset, .unset, .unset, .unset, .unset, .unset, .unset, .unset, .unset, .unset] [] := by first | (simp [entryFrame, mkF, argsToLocals, Value.category, maxLocals]; done) | rfl
def own_Q0 (Z : State) (q0 : Int64) (q1 : Int64) (q2 : Int64) (q3 : Int64) (p4 : Int32) (cs : Int32) (vf : Value) (h0 : Heap) (n0 : Nat) (v : Option Value) (h : Heap) (L : List Loc) : Prop := (v = some (.int (1 : Int32))) ∧ (Fr n0 L)
set_option maxRecDepth 65536 in
set_option maxHeartbeats 40000000 in
theorem own_rm0 (l : Launch) (Z : State) (a0 : Array Value) (hw : ∀ d ∈ tables_1, d.before a0 Z = true) (ws : List Jvm.Cond) (q0 : Int64) (q1 : Int64) (q2 : Int64) (q3 : Int64) (p4 : Int32) (cs : Int32) (vf : Value) (h0 : Heap) (n0 : Nat) (Z0 : n0 ≤ h0.size) (hcs : Sta Z h0 "java/lang/String" "COMPACT_STRINGS" "Z" (.int cs)) (hcs0 : ¬ cs = 0) (hsf : Sta Z h0 "jdk/internal/util/Preconditions" "SIOOBE_FORMATTER" "Ljava/util/function/BiFunction;" vf) (hvf : vf.isRef = true) (hheld : Jvm.Lit.constHeld Z "ringward/PostIsAfterPinLaw" 19) (hcw : Jvm.Lit.compactW.before a0 Z = true) (hn0 : h0.size = n0) :
    MetFree l x (head1 (Jvm.Cond.code x code maxLocals ret :: ws) room_1) (fun a U => a = #[(.long q0), (.long q1), (.long q2), (.long q3), (.int p4)] ∧ Z.Warmed39 U.vm ∧ U.heap = h0 ∧ IB Z U.vm [] ∧ ∀ (b : Addr) (cl : Cell), Z.heap[b]? = some cl → U.heap[b]? = some cl) (fun _ _ _ _ _ => True) (fun _ U o U' => ∃ v L, o = .returned v ∧ own_Q0 Z q0 q1 q2 q3 p4 cs vf h0 n0 v U'.heap L ∧ ReturnedEndW U o U' L room_1.cells room_1.slots) := by
  refine MetFree.of_bodySF (plainFor_of_name own_pn7) hisR ?_
  intro p e s m args below meth c s₁ Bd hml0 hP hK
  obtain ⟨rfl, hZ, hh, hI, hkeepZ⟩ := hP
  have hx := Bd.exec
  have hby := Bd.bytes
  have hml : c.maxLocals = 26 := hml0
  have hown : s.vm.findClass "ringward/PostIsAfterPinLaw" = some m.cls := findClass_of_methodNamed Bd.named
  have hnm := (name_of_methodNamed Bd.named Bd.method).1
  have hS : s.Since s.vm s.heap.size := (State.WarmedH.refl s).since _
  have hk : s.heap.size ≤ h0.size := by rw [← hh]; exact Nat.le_refl _
  have hZ : Z.Warmed39 (s.setVm s.vm).vm := hZ
  have hown : (s.setVm s.vm).vm.findClass "ringward/PostIsAfterPinLaw" = some m.cls := hown
  have X0 : Stand p l e room_1 (s.setVm s.vm) m #[(.long q0), (.long q1), (.long q2), (.long q3), (.int p4)] below meth c s₁ [] 0 0 := Stand.of_body Bd
  have e0 : s₁.heap = h0 := by rw [← hh, Bd.state]; rfl
  have N0 := Fr.nil n0
  have pre0 : ∀ t, Steps p.tables e below (s₁.setTop (mkF m 0 #[.val (.long q0), .second, .val (.long q1), .second, .val (.long q2), .second, .val (.long q3), .second, .val (.int p4), .unset, .unset, .unset, .unset, .unset, .unset, .unset, .unset, .unset, .unset, .unset, .unset, .unset, .unset, .unset, .unset, .unset] [])) t → Steps p.tables e below (s₁.setTop (entryFrame m #[(.long q0), (.long q1), (.long q2), (.long q3), (.int p4)] maxLocals)) t := fun t k => castTop (own_ef0 m q0 q1 q2 q3 p4) k
  refine own_run (own_st pre0 ?_)
  refine own_st (B := s₁.setTop (mkF m 4 #[.val (.long q0), .second, .val (.long q1), .second, .val (.long q2), .second, .val (.long q3), .second, .val (.int p4), .unset, .unset, .unset, .unset, .unset, .unset, .unset, .unset, .unset, .unset, .unset, .unset, .unset, .unset, .unset, .unset, .unset] [(.int (p4 &&& (1 : Int32)))])) (fun target kt => ?_) ?_
  · show Steps p.tables e below (s₁.setTop (mkF m 0 #[.val (.long q0), .second, .val (.long q1), .second, .val (.long q2), .second, .val (.long q3), .second, .val (.int p4), .unset, .unset, .unset, .unset, .unset, .unset, .unset, .unset, .unset, .unset, .unset, .unset, .unset, .unset, .unset, .unset, .unset] [])) target
    refine XS.iload X0.here hx rfl (hb hby at_0) rfl ?_
    show Steps p.tables e below (s₁.setTop (mkF m 2 #[.val (.long q0), .second, .val (.long q1), .second, .val (.long q2), .second, .val (.long q3), .second, .val (.int p4), .unset, .unset, .unset, .unset, .unset, .unset, .unset, .unset, .unset, .unset, .unset, .unset, .unset, .unset, .unset, .unset, .unset] [(.int p4)])) target
    refine XS.iconst X0.here hx rfl (hb hby at_2) ?_
    show Steps p.tables e below (s₁.setTop (mkF m 3 #[.val (.long q0), .second, .val (.long q1), .second, .val (.long q2), .second, .val (.long q3), .second, .val (.int p4), .unset, .unset, .unset, .unset, .unset, .unset, .unset, .unset, .unset, .unset, .unset, .unset, .unset, .unset, .unset, .unset, .unset] [(.int (1 : Int32)), (.int p4)])) target
    refine XS.iand X0.here hx rfl (hb hby at_3) rfl ?_
    exact kt
  obtain ⟨_, ⟨j12_s0, rfl, rfl⟩, st_M12⟩ : own_Lead p.tables e below (s₁.setTop (mkF m 4 #[.val (.long q0), .second, .val (.long q1), .second, .val (.long q2), .second, .val (.long q3), .second, .val (.int p4), .unset, .unset, .unset, .unset, .unset, .unset, .unset, .unset, .unset, .unset, .unset, .unset, .unset, .unset, .unset, .unset, .unset] [(.int (p4 &&& (1 : Int32)))])) (fun B => ∃ (j12_s0 : Int32), B = s₁.setTop (mkF m 12 #[.val (.long q0), .second, .val (.long q1), .second, .val (.long q2), .second, .val (.long q3), .second, .val (.int p4), .unset, .unset, .unset, .unset, .unset, .unset, .unset, .unset, .unset, .unset, .unset, .unset, .unset, .unset, .unset, .unset, .unset] [(.int j12_s0)]) ∧ j12_s0 = own_b (¬ ((p4 &&& (1 : Int32)) = (0 : Int32)))) := by
    by_cases c4 : (p4 &&& (1 : Int32)) = (0 : Int32)
    · refine own_st (B := s₁.setTop (mkF m 12 #[.val (.long q0), .second, .val (.long q1), .second, .val (.long q2), .second, .val (.long q3), .second, .val (.int p4), .unset, .unset, .unset, .unset, .unset, .unset, .unset, .unset, .unset, .unset, .unset, .unset, .unset, .unset, .unset, .unset, .unset] [(.int (0 : Int32))])) (fun target kt => ?_) ?_
      · show Steps p.tables e below (s₁.setTop (mkF m 4 #[.val (.long q0), .second, .val (.long q1), .second, .val (.long q2), .second, .val (.long q3), .second, .val (.int p4), .unset, .unset, .unset, .unset, .unset, .unset, .unset, .unset, .unset, .unset, .unset, .unset, .unset, .unset, .unset, .unset, .unset] [(.int (p4 &&& (1 : Int32)))])) target
        refine XS.ifYes X0.here hx rfl (pc0 := 4) (pc' := 11) rfl (hb hby at_4) rfl ((if0 _ _).trans (teq c4).1) (by decide) (by decide) ?_
        show Steps p.tables e below (s₁.setTop (mkF m 11 #[.val (.long q0), .second, .val (.long q1), .second, .val (.long q2), .second, .val (.long q3), .second, .val (.int p4), .unset, .unset, .unset, .unset, .unset, .unset, .unset, .unset, .unset, .unset, .unset, .unset, .unset, .unset, .unset, .unset, .unset] [])) target
        refine XS.iconst X0.here hx rfl (hb hby at_11) ?_
        exact kt
      exact ⟨_, ⟨(0 : Int32), rfl, (own_b0 (fun w => w c4)).symm⟩, fun _ k => k⟩
    · refine own_st (B := s₁.setTop (mkF m 12 #[.val (.long q0), .second, .val (.long q1), .second, .val (.long q2), .second, .val (.long q3), .second, .val (.int p4), .unset, .unset, .unset, .unset, .unset, .unset, .unset, .unset, .unset, .unset, .unset, .unset, .unset, .unset, .unset, .unset, .unset] [(.int (1 : Int32))])) (fun target kt => ?_) ?_
      · show Steps p.tables e below (s₁.setTop (mkF m 4 #[.val (.long q0), .second, .val (.long q1), .second, .val (.long q2), .second, .val (.long q3), .second, .val (.int p4), .unset, .unset, .unset, .unset, .unset, .unset, .unset, .unset, .unset, .unset, .unset, .unset, .unset, .unset, .unset, .unset, .unset] [(.int (p4 &&& (1 : Int32)))])) target
        refine XS.ifNo X0.here hx rfl (hb hby at_4) rfl ((if0 _ _).trans (feq c4).1) ?_
        show Steps p.tables e below (s₁.setTop (mkF m 7 #[.val (.long q0), .second, .val (.long q1), .second, .val (.long q2), .second, .val (.long q3), .second, .val (.int p4), .unset, .unset, .unset, .unset, .unset, .unset, .unset, .unset, .unset, .unset, .unset, .unset, .unset, .unset, .unset, .unset, .unset] [])) target
        refine XS.iconst X0.here hx rfl (hb hby at_7) ?_
        show Steps p.tables e below (s₁.setTop (mkF m 8 #[.val (.long q0), .second, .val (.long q1), .second, .val (.long q2), .second, .val (.long q3), .second, .val (.int p4), .unset, .unset, .unset, .unset, .unset, .unset, .unset, .unset, .unset, .unset, .unset, .unset, .unset, .unset, .unset, .unset, .unset] [(.int (1 : Int32))])) target
        refine XS.goto X0.here hx rfl (pc0 := 8) (pc' := 12) rfl (hb hby at_8) (by decide) (by decide) ?_
        exact kt
      exact ⟨_, ⟨(1 : Int32), rfl, (own_b1 c4).symm⟩, fun _ k => k⟩
  refine own_st st_M12 ?_
  refine own_st (B := s₁.setTop (mkF m 18 #[.val (.long q0), .second, .val (.long q1), .second, .val (.long q2), .second, .val (.long q3), .second, .val (.int p4), .val (.int (own_b (¬ ((p4 &&& (1 : Int32)) = (0 : Int32))))), .unset, .unset, .unset, .unset, .unset, .unset, .unset, .unset, .unset, .unset, .unset, .unset, .unset, .unset, .unset, .unset] [(.int (p4 &&& (2 : Int32)))])) (fun target kt => ?_) ?_
  · show Steps p.tables e below (s₁.setTop (mkF m 12 #[.val (.long q0), .second, .val (.long q1), .second, .val (.long q2), .second, .val (.long q3), .second, .val (.int p4), .unset, .unset, .unset, .unset, .unset, .unset, .unset, .unset, .unset, .unset, .unset, .unset, .unset, .unset, .unset, .unset, .unset] [(.int (own_b (¬ ((p4 &&& (1 : Int32)) = (0 : Int32)))))])) target
    refine XS.istore X0.here hx rfl (hb hby at_12) rfl (l' := #[.val (.long q0), .second, .val (.long q1), .second, .val (.long q2), .second, .val (.long q3), .second, .val (.int p4), .val (.int (own_b (¬ ((p4 &&& (1 : Int32)) = (0 : Int32))))), .unset, .unset, .unset, .unset, .unset, .unset, .unset, .unset, .unset, .unset, .unset, .unset, .unset, .unset, .unset, .unset]) rfl ?_
    show Steps p.tables e below (s₁.setTop (mkF m 14 #[.val (.long q0), .second, .val (.long q1), .second, .val (.long q2), .second, .val (.long q3), .second, .val (.int p4), .val (.int (own_b (¬ ((p4 &&& (1 : Int32)) = (0 : Int32))))), .unset, .unset, .unset, .unset, .unset, .unset, .unset, .unset, .unset, .unset, .unset, .unset, .unset, .unset, .unset, .unset] [])) target
    refine XS.iload X0.here hx rfl (hb hby at_14) rfl ?_
    show Steps p.tables e below (s₁.setTop (mkF m 16 #[.val (.long q0), .second, .val (.long q1), .second, .val (.long q2), .second, .val (.long q3), .second, .val (.int p4), .val (.int (own_b (¬ ((p4 &&& (1 : Int32)) = (0 : Int32))))), .unset, .unset, .unset, .unset, .unset, .unset, .unset, .unset, .unset, .unset, .unset, .unset, .unset, .unset, .unset, .unset] [(.int p4)])) target
    refine XS.iconst X0.here hx rfl (hb hby at_16) ?_
    show Steps p.tables e below (s₁.setTop (mkF m 17 #[.val (.long q0), .second, .val (.long q1), .second, .val (.long q2), .second, .val (.long q3), .second, .val (.int p4), .val (.int (own_b (¬ ((p4 &&& (1 : Int32)) = (0 : Int32))))), .unset, .unset, .unset, .unset, .unset, .unset, .unset, .unset, .unset, .unset, .unset, .unset, .unset, .unset, .unset, .unset] [(.int (2 : Int32)), (.int p4)])) target
    refine XS.iand X0.here hx rfl (hb hby at_17) rfl ?_
    exact kt
  obtain ⟨_, ⟨j26_s0, rfl, rfl⟩, st_M26⟩ : own_Lead p.tables e below (s₁.setTop (mkF m 18 #[.val (.long q0), .second, .val (.long q1), .second, .val (.long q2), .second, .val (.long q3), .second, .val (.int p4), .val (.int (own_b (¬ ((p4 &&& (1 : Int32)) = (0 : Int32))))), .unset, .unset, .unset, .unset, .unset, .unset, .unset, .unset, .unset, .unset, .unset, .unset, .unset, .unset, .unset, .unset] [(.int (p4 &&& (2 : Int32)))])) (fun B => ∃ (j26_s0 : Int32), B = s₁.setTop (mkF m 26 #[.val (.long q0), .second, .val (.long q1), .second, .val (.long q2), .second, .val (.long q3), .second, .val (.int p4), .val (.int (own_b (¬ ((p4 &&& (1 : Int32)) = (0 : Int32))))), .unset, .unset, .unset, .unset, .unset, .unset, .unset, .unset, .unset, .unset, .unset, .unset, .unset, .unset, .unset, .unset] [(.int j26_s0)]) ∧ j26_s0 = own_b (¬ ((p4 &&& (2 : Int32)) = (0 : Int32)))) := by
    by_cases c18 : (p4 &&& (2 : Int32)) = (0 : Int32)
    · refine own_st (B := s₁.setTop (mkF m 26 #[.val (.long q0), .second, .val (.long q1), .second, .val (.long q2), .second, .val (.long q3), .second, .val (.int p4), .val (.int (own_b (¬ ((p4 &&& (1 : Int32)) = (0 : Int32))))), .unset, .unset, .unset, .unset, .unset, .unset, .unset, .unset, .unset, .unset, .unset, .unset, .unset, .unset, .unset, .unset] [(.int (0 : Int32))])) (fun target kt => ?_) ?_
      · show Steps p.tables e below (s₁.setTop (mkF m 18 #[.val (.long q0), .second, .val (.long q1), .second, .val (.long q2), .second, .val (.long q3), .second, .val (.int p4), .val (.int (own_b (¬ ((p4 &&& (1 : Int32)) = (0 : Int32))))), .unset, .unset, .unset, .unset, .unset, .unset, .unset, .unset, .unset, .unset, .unset, .unset, .unset, .unset, .unset, .unset] [(.int (p4 &&& (2 : Int32)))])) target
        refine XS.ifYes X0.here hx rfl (pc0 := 18) (pc' := 25) rfl (hb hby at_18) rfl ((if0 _ _).trans (teq c18).1) (by decide) (by decide) ?_
        show Steps p.tables e below (s₁.setTop (mkF m 25 #[.val (.long q0), .second, .val (.long q1), .second, .val (.long q2), .second, .val (.long q3), .second, .val (.int p4), .val (.int (own_b (¬ ((p4 &&& (1 : Int32)) = (0 : Int32))))), .unset, .unset, .unset, .unset, .unset, .unset, .unset, .unset, .unset, .unset, .unset, .unset, .unset, .unset, .unset, .unset] [])) target
        refine XS.iconst X0.here hx rfl (hb hby at_25) ?_
        exact kt
      exact ⟨_, ⟨(0 : Int32), rfl, (own_b0 (fun w => w c18)).symm⟩, fun _ k => k⟩
    · refine own_st (B := s₁.setTop (mkF m 26 #[.val (.long q0), .second, .val (.long q1), .second, .val (.long q2), .second, .val (.long q3), .second, .val (.int p4), .val (.int (own_b (¬ ((p4 &&& (1 : Int32)) = (0 : Int32))))), .unset, .unset, .unset, .unset, .unset, .unset, .unset, .unset, .unset, .unset, .unset, .unset, .unset, .unset, .unset, .unset] [(.int (1 : Int32))])) (fun target kt => ?_) ?_
      · show Steps p.tables e below (s₁.setTop (mkF m 18 #[.val (.long q0), .second, .val (.long q1), .second, .val (.long q2), .second, .val (.long q3), .second, .val (.int p4), .val (.int (own_b (¬ ((p4 &&& (1 : Int32)) = (0 : Int32))))), .unset, .unset, .unset, .unset, .unset, .unset, .unset, .unset, .unset, .unset, .unset, .unset, .unset, .unset, .unset, .unset] [(.int (p4 &&& (2 : Int32)))])) target
        refine XS.ifNo X0.here hx rfl (hb hby at_18) rfl ((if0 _ _).trans (feq c18).1) ?_
        show Steps p.tables e below (s₁.setTop (mkF m 21 #[.val (.long q0), .second, .val (.long q1), .second, .val (.long q2), .second, .val (.long q3), .second, .val (.int p4), .val (.int (own_b (¬ ((p4 &&& (1 : Int32)) = (0 : Int32))))), .unset, .unset, .unset, .unset, .unset, .unset, .unset, .unset, .unset, .unset, .unset, .unset, .unset, .unset, .unset, .unset] [])) target
        refine XS.iconst X0.here hx rfl (hb hby at_21) ?_
        show Steps p.tables e below (s₁.setTop (mkF m 22 #[.val (.long q0), .second, .val (.long q1), .second, .val (.long q2), .second, .val (.long q3), .second, .val (.int p4), .val (.int (own_b (¬ ((p4 &&& (1 : Int32)) = (0 : Int32))))), .unset, .unset, .unset, .unset, .unset, .unset, .unset, .unset, .unset, .unset, .unset, .unset, .unset, .unset, .unset, .unset] [(.int (1 : Int32))])) target
        refine XS.goto X0.here hx rfl (pc0 := 22) (pc' := 26) rfl (hb hby at_22) (by decide) (by decide) ?_
        exact kt
      exact ⟨_, ⟨(1 : Int32), rfl, (own_b1 c18).symm⟩, fun _ k => k⟩
  refine own_st st_M26 ?_
  refine own_st (B := s₁.setTop (mkF m 30 #[.val (.long q0), .second, .val (.long q1), .second, .val (.long q2), .second, .val (.long q3), .second, .val (.int p4), .val (.int (own_b (¬ ((p4 &&& (1 : Int32)) = (0 : Int32))))), .val (.int (own_b (¬ ((p4 &&& (2 : Int32)) = (0 : Int32))))), .unset, .unset, .unset, .unset, .unset, .unset, .unset, .unset, .unset, .unset, .unset, .unset, .unset, .unset, .unset] [(.int (own_b (¬ ((p4 &&& (1 : Int32)) = (0 : Int32)))))])) (fun target kt => ?_) ?_
  · show Steps p.tables e below (s₁.setTop (mkF m 26 #[.val (.long q0), .second, .val (.long q1), .second, .val (.long q2), .second, .val (.long q3), .second, .val (.int p4), .val (.int (own_b (¬ ((p4 &&& (1 : Int32)) = (0 : Int32))))), .unset, .unset, .unset, .unset, .unset, .unset, .unset, .unset, .unset, .unset, .unset, .unset, .unset, .unset, .unset, .unset] [(.int (own_b (¬ ((p4 &&& (2 : Int32)) = (0 : Int32)))))])) target
    refine XS.istore X0.here hx rfl (hb hby at_26) rfl (l' := #[.val (.long q0), .second, .val (.long q1), .second, .val (.long q2), .second, .val (.long q3), .second, .val (.int p4), .val (.int (own_b (¬ ((p4 &&& (1 : Int32)) = (0 : Int32))))), .val (.int (own_b (¬ ((p4 &&& (2 : Int32)) = (0 : Int32))))), .unset, .unset, .unset, .unset, .unset, .unset, .unset, .unset, .unset, .unset, .unset, .unset, .unset, .unset, .unset]) rfl ?_
    show Steps p.tables e below (s₁.setTop (mkF m 28 #[.val (.long q0), .second, .val (.long q1), .second, .val (.long q2), .second, .val (.long q3), .second, .val (.int p4), .val (.int (own_b (¬ ((p4 &&& (1 : Int32)) = (0 : Int32))))), .val (.int (own_b (¬ ((p4 &&& (2 : Int32)) = (0 : Int32))))), .unset, .unset, .unset, .unset, .unset, .unset, .unset, .unset, .unset, .unset, .unset, .unset, .unset, .unset, .unset] [])) target
    refine XS.iload X0.here hx rfl (hb hby at_28) rfl ?_
    exact kt
  obtain ⟨_, ⟨j38_s0, rfl, hj38_s0⟩, st_M38⟩ : own_Lead p.tables e below (s₁.setTop (mkF m 30 #[.val (.long q0), .second, .val (.long q1), .second, .val (.long q2), .second, .val (.long q3), .second, .val (.int p4), .val (.int (own_b (¬ ((p4 &&& (1 : Int32)) = (0 : Int32))))), .val (.int (own_b (¬ ((p4 &&& (2 : Int32)) = (0 : Int32))))), .unset, .unset, .unset, .unset, .unset, .unset, .unset, .unset, .unset, .unset, .unset, .unset, .unset, .unset, .unset] [(.int (own_b (¬ ((p4 &&& (1 : Int32)) = (0 : Int32)))))])) (fun B => ∃ (j38_s0 : Int64), B = s₁.setTop (mkF m 38 #[.val (.long q0), .second, .val (.long q1), .second, .val (.long q2), .second, .val (.long q3), .second, .val (.int p4), .val (.int (own_b (¬ ((p4 &&& (1 : Int32)) = (0 : Int32))))), .val (.int (own_b (¬ ((p4 &&& (2 : Int32)) = (0 : Int32))))), .unset, .unset, .unset, .unset, .unset, .unset, .unset, .unset, .unset, .unset, .unset, .unset, .unset, .unset, .unset] [(.long j38_s0)]) ∧ j38_s0 = (if ¬ ((p4 &&& (1 : Int32)) = (0 : Int32)) then q0 else q1)) := by
    by_cases c30 : ¬ ((p4 &&& (1 : Int32)) = (0 : Int32))
    · refine own_st (B := s₁.setTop (mkF m 38 #[.val (.long q0), .second, .val (.long q1), .second, .val (.long q2), .second, .val (.long q3), .second, .val (.int p4), .val (.int (own_b (¬ ((p4 &&& (1 : Int32)) = (0 : Int32))))), .val (.int (own_b (¬ ((p4 &&& (2 : Int32)) = (0 : Int32))))), .unset, .unset, .unset, .unset, .unset, .unset, .unset, .unset, .unset, .unset, .unset, .unset, .unset, .unset, .unset] [(.long q0)])) (fun target kt => ?_) ?_
      · show Steps p.tables e below (s₁.setTop (mkF m 30 #[.val (.long q0), .second, .val (.long q1), .second, .val (.long q2), .second, .val (.long q3), .second, .val (.int p4), .val (.int (own_b (¬ ((p4 &&& (1 : Int32)) = (0 : Int32))))), .val (.int (own_b (¬ ((p4 &&& (2 : Int32)) = (0 : Int32))))), .unset, .unset, .unset, .unset, .unset, .unset, .unset, .unset, .unset, .unset, .unset, .unset, .unset, .unset, .unset] [(.int (own_b (¬ ((p4 &&& (1 : Int32)) = (0 : Int32)))))])) target
        refine XS.ifNo X0.here hx rfl (hb hby at_30) rfl ((if0 _ _).trans (feq (own_bn0 rfl c30)).1) ?_
        show Steps p.tables e below (s₁.setTop (mkF m 33 #[.val (.long q0), .second, .val (.long q1), .second, .val (.long q2), .second, .val (.long q3), .second, .val (.int p4), .val (.int (own_b (¬ ((p4 &&& (1 : Int32)) = (0 : Int32))))), .val (.int (own_b (¬ ((p4 &&& (2 : Int32)) = (0 : Int32))))), .unset, .unset, .unset, .unset, .unset, .unset, .unset, .unset, .unset, .unset, .unset, .unset, .unset, .unset, .unset] [])) target
        refine XS.lloadN X0.here hx rfl (hb hby at_33) rfl ?_
        show Steps p.tables e below (s₁.setTop (mkF m 34 #[.val (.long q0), .second, .val (.long q1), .second, .val (.long q2), .second, .val (.long q3), .second, .val (.int p4), .val (.int (own_b (¬ ((p4 &&& (1 : Int32)) = (0 : Int32))))), .val (.int (own_b (¬ ((p4 &&& (2 : Int32)) = (0 : Int32))))), .unset, .unset, .unset, .unset, .unset, .unset, .unset, .unset, .unset, .unset, .unset, .unset, .unset, .unset, .unset] [(.long q0)])) target
        refine XS.goto X0.here hx rfl (pc0 := 34) (pc' := 38) rfl (hb hby at_34) (by decide) (by decide) ?_
        exact kt
      exact ⟨_, ⟨q0, rfl, (if_pos c30).symm⟩, fun _ k => k⟩
    · refine own_st (B := s₁.setTop (mkF m 38 #[.val (.long q0), .second, .val (.long q1), .second, .val (.long q2), .second, .val (.long q3), .second, .val (.int p4), .val (.int (own_b (¬ ((p4 &&& (1 : Int32)) = (0 : Int32))))), .val (.int (own_b (¬ ((p4 &&& (2 : Int32)) = (0 : Int32))))), .unset, .unset, .unset, .unset, .unset, .unset, .unset, .unset, .unset, .unset, .unset, .unset, .unset, .unset, .unset] [(.long q1)])) (fun target kt => ?_) ?_
      · show Steps p.tables e below (s₁.setTop (mkF m 30 #[.val (.long q0), .second, .val (.long q1), .second, .val (.long q2), .second, .val (.long q3), .second, .val (.int p4), .val (.int (own_b (¬ ((p4 &&& (1 : Int32)) = (0 : Int32))))), .val (.int (own_b (¬ ((p4 &&& (2 : Int32)) = (0 : Int32))))), .unset, .unset, .unset, .unset, .unset, .unset, .unset, .unset, .unset, .unset, .unset, .unset, .unset, .unset, .unset] [(.int (own_b (¬ ((p4 &&& (1 : Int32)) = (0 : Int32)))))])) target
        refine XS.ifYes X0.here hx rfl (pc0 := 30) (pc' := 37) rfl (hb hby at_30) rfl ((if0 _ _).trans (teq (own_b00 rfl c30)).1) (by decide) (by decide) ?_
        show Steps p.tables e below (s₁.setTop (mkF m 37 #[.val (.long q0), .second, .val (.long q1), .second, .val (.long q2), .second, .val (.long q3), .second, .val (.int p4), .val (.int (own_b (¬ ((p4 &&& (1 : Int32)) = (0 : Int32))))), .val (.int (own_b (¬ ((p4 &&& (2 : Int32)) = (0 : Int32))))), .unset, .unset, .unset, .unset, .unset, .unset, .unset, .unset, .unset, .unset, .unset, .unset, .unset, .unset, .unset] [])) target
        refine XS.lloadN X0.here hx rfl (hb hby at_37) rfl ?_
        exact kt
      exact ⟨_, ⟨q1, rfl, (if_neg c30).symm⟩, fun _ k => k⟩
  refine own_st st_M38 ?_
  refine own_st (B := s₁.setTop (mkF m 42 #[.val (.long q0), .second, .val (.long q1), .second, .val (.long q2), .second, .val (.long q3), .second, .val (.int p4), .val (.int (own_b (¬ ((p4 &&& (1 : Int32)) = (0 : Int32))))), .val (.int (own_b (¬ ((p4 &&& (2 : Int32)) = (0 : Int32))))), .val (.long j38_s0), .second, .unset, .unset, .unset, .unset, .unset, .unset, .unset, .unset, .unset, .unset, .unset, .unset, .unset] [(.long q2)])) (fun target kt => ?_) ?_
  · show Steps p.tables e below (s₁.setTop (mkF m 38 #[.val (.long q0), .second, .val (.long q1), .second, .val (.long q2), .second, .val (.long q3), .second, .val (.int p4), .val (.int (own_b (¬ ((p4 &&& (1 : Int32)) = (0 : Int32))))), .val (.int (own_b (¬ ((p4 &&& (2 : Int32)) = (0 : Int32))))), .unset, .unset, .unset, .unset, .unset, .unset, .unset, .unset, .unset, .unset, .unset, .unset, .unset, .unset, .unset] [(.long j38_s0)])) target
    refine XS.lstore X0.here hx rfl (hb hby at_38) rfl (l' := #[.val (.long q0), .second, .val (.long q1), .second, .val (.long q2), .second, .val (.long q3), .second, .val (.int p4), .val (.int (own_b (¬ ((p4 &&& (1 : Int32)) = (0 : Int32))))), .val (.int (own_b (¬ ((p4 &&& (2 : Int32)) = (0 : Int32))))), .val (.long j38_s0), .second, .unset, .unset, .unset, .unset, .unset, .unset, .unset, .unset, .unset, .unset, .unset, .unset, .unset]) rfl ?_
    show Steps p.tables e below (s₁.setTop (mkF m 40 #[.val (.long q0), .second, .val (.long q1), .second, .val (.long q2), .second, .val (.long q3), .second, .val (.int p4), .val (.int (own_b (¬ ((p4 &&& (1 : Int32)) = (0 : Int32))))), .val (.int (own_b (¬ ((p4 &&& (2 : Int32)) = (0 : Int32))))), .val (.long j38_s0), .second, .unset, .unset, .unset, .unset, .unset, .unset, .unset, .unset, .unset, .unset, .unset, .unset, .unset] [])) target
    refine XS.lload X0.here hx rfl (hb hby at_40) rfl ?_
    exact kt
  obtain ⟨_, _, ⟨Tg42, Lg42, kg42, ng42⟩, -, Xg42, ⟨Lcg42, hQg42, lg42, yg42, zg42⟩, stg42⟩ := Jvm.LawKit.callS X0 hx (y := (⟨"ringward/PostIsAfterPinLaw", "number", "(J)J"⟩ : MethodName)) hown (mvT hZ (hw _ (List.mem_of_getElem? (i := 0) rfl))) (mvT hZ (hw _ (List.mem_of_getElem? (i := 1) rfl))) (mvT hZ (hw _ (List.mem_of_getElem? (i := 2) rfl))) (mvT hZ (hw _ (List.mem_of_getElem? (i := 3) rfl))) (by decide) (backOf (W := 0) (own_rm1 l Z a0 hw [] q2 h0 n0 Z0) hZ (hw _ (List.mem_of_getElem? (i := 3) rfl)) (hw _ (List.mem_of_getElem? (i := 2) rfl)) (by decide) (by decide)) (g := (mkF m 42 #[.val (.long q0), .second, .val (.long q1), .second, .val (.long q2), .second, .val (.long q3), .second, .val (.int p4), .val (.int (own_b (¬ ((p4 &&& (1 : Int32)) = (0 : Int32))))), .val (.int (own_b (¬ ((p4 &&& (2 : Int32)) = (0 : Int32))))), .val (.long j38_s0), .second, .unset, .unset, .unset, .unset, .unset, .unset, .unset, .unset, .unset, .unset, .unset, .unset, .unset] [(.long q2)])) rfl (by rw [hml]; rfl) (argsL := [(.long q2)]) (rest := []) (lenOf own_pd11 rfl) rfl (by show 2 * 0 + _ ≤ _; exact Nat.le_of_eq rfl) (hb hby at_42) (fun _ _ => ⟨rfl, e0, (by decide : 0 + 0 ≤ _), (by decide : 0 + 0 ≤ _)⟩)
  dsimp only [Pt.U, Pt.locs, Pt.cells, Pt.slots] at Xg42 lg42 yg42 zg42 stg42 hQg42
  subst lg42 yg42 zg42
  obtain ⟨rfl, Ng42q, eg42⟩ := hQg42
  have Ng42 := Fr.app N0 Ng42q
  refine own_st (stg42) ?_
  obtain ⟨v45, hv45⟩ : ∃ z : Int64, z = (if (q2 &&& (9223372036854775807 : Int64)) = (0 : Int64) then (1 : Int64) else (q2 &&& (9223372036854775807 : Int64))) := ⟨_, rfl⟩
  refine own_st (B := Tg42.setTop (mkF m 49 #[.val (.long q0), .second, .val (.long q1), .second, .val (.long q2), .second, .val (.long q3), .second, .val (.int p4), .val (.int (own_b (¬ ((p4 &&& (1 : Int32)) = (0 : Int32))))), .val (.int (own_b (¬ ((p4 &&& (2 : Int32)) = (0 : Int32))))), .val (.long j38_s0), .second, .val (.long v45), .second, .unset, .unset, .unset, .unset, .unset, .unset, .unset, .unset, .unset, .unset, .unset] [(.int (own_b (¬ ((p4 &&& (2 : Int32)) = (0 : Int32)))))])) (fun target kt => ?_) ?_
  · show Steps p.tables e below (Tg42.setTop (mkF m 45 #[.val (.long q0), .second, .val (.long q1), .second, .val (.long q2), .second, .val (.long q3), .second, .val (.int p4), .val (.int (own_b (¬ ((p4 &&& (1 : Int32)) = (0 : Int32))))), .val (.int (own_b (¬ ((p4 &&& (2 : Int32)) = (0 : Int32))))), .val (.long j38_s0), .second, .unset, .unset, .unset, .unset, .unset, .unset, .unset, .unset, .unset, .unset, .unset, .unset, .unset] [(.long (if (q2 &&& (9223372036854775807 : Int64)) = (0 : Int64) then (1 : Int64) else (q2 &&& (9223372036854775807 : Int64))))])) target
    refine XS.lstore Xg42.here hx rfl (hb hby at_45) rfl (l' := #[.val (.long q0), .second, .val (.long q1), .second, .val (.long q2), .second, .val (.long q3), .second, .val (.int p4), .val (.int (own_b (¬ ((p4 &&& (1 : Int32)) = (0 : Int32))))), .val (.int (own_b (¬ ((p4 &&& (2 : Int32)) = (0 : Int32))))), .val (.long j38_s0), .second, .val (.long v45), .second, .unset, .unset, .unset, .unset, .unset, .unset, .unset, .unset, .unset, .unset, .unset]) (by subst hv45; rfl) ?_
    show Steps p.tables e below (Tg42.setTop (mkF m 47 #[.val (.long q0), .second, .val (.long q1), .second, .val (.long q2), .second, .val (.long q3), .second, .val (.int p4), .val (.int (own_b (¬ ((p4 &&& (1 : Int32)) = (0 : Int32))))), .val (.int (own_b (¬ ((p4 &&& (2 : Int32)) = (0 : Int32))))), .val (.long j38_s0), .second, .val (.long v45), .second, .unset, .unset, .unset, .unset, .unset, .unset, .unset, .unset, .unset, .unset, .unset] [])) target
    refine XS.iload Xg42.here hx rfl (hb hby at_47) rfl ?_
    exact kt
  obtain ⟨_, ⟨T_M62, lc_M62, j62_s0, rfl, X_M62, e_M62, N_M62, Z_M62, K_M62, hj62_s0⟩, st_M62⟩ : own_Lead p.tables e below (Tg42.setTop (mkF m 49 #[.val (.long q0), .second, .val (.long q1), .second, .val (.long q2), .second, .val (.long q3), .second, .val (.int p4), .val (.int (own_b (¬ ((p4 &&& (1 : Int32)) = (0 : Int32))))), .val (.int (own_b (¬ ((p4 &&& (2 : Int32)) = (0 : Int32))))), .val (.long j38_s0), .second, .val (.long v45), .second, .unset, .unset, .unset, .unset, .unset, .unset, .unset, .unset, .unset, .unset, .unset] [(.int (own_b (¬ ((p4 &&& (2 : Int32)) = (0 : Int32)))))])) (fun B => ∃ (T_M62 : State) (lc_M62 : List Loc) (j62_s0 : Int64), B = T_M62.setTop (mkF m 62 #[.val (.long q0), .second, .val (.long q1), .second, .val (.long q2), .second, .val (.long q3), .second, .val (.int p4), .val (.int (own_b (¬ ((p4 &&& (1 : Int32)) = (0 : Int32))))), .val (.int (own_b (¬ ((p4 &&& (2 : Int32)) = (0 : Int32))))), .val (.long j38_s0), .second, .val (.long v45), .second, .unset, .unset, .unset, .unset, .unset, .unset, .unset, .unset, .unset, .unset, .unset] [(.long j62_s0)]) ∧ Stand p l e room_1 (s.setVm s.vm) m #[(.long q0), (.long q1), (.long q2), (.long q3), (.int p4)] below meth c T_M62 lc_M62 0 0 ∧ T_M62.heap = h0 ∧ Fr n0 lc_M62 ∧ n0 ≤ h0.size ∧ Keep h0 h0 [] ∧ j62_s0 = (if ¬ ((p4 &&& (2 : Int32)) = (0 : Int32)) then v45 else (if (q3 &&& (9223372036854775807 : Int64)) = (0 : Int64) then (1 : Int64) else (q3 &&& (9223372036854775807 : Int64))))) := by
    by_cases c49 : ¬ ((p4 &&& (2 : Int32)) = (0 : Int32))
    · refine own_st (B := Tg42.setTop (mkF m 62 #[.val (.long q0), .second, .val (.long q1), .second, .val (.long q2), .second, .val (.long q3), .second, .val (.int p4), .val (.int (own_b (¬ ((p4 &&& (1 : Int32)) = (0 : Int32))))), .val (.int (own_b (¬ ((p4 &&& (2 : Int32)) = (0 : Int32))))), .val (.long j38_s0), .second, .val (.long v45), .second, .unset, .unset, .unset, .unset, .unset, .unset, .unset, .unset, .unset, .unset, .unset] [(.long v45)])) (fun target kt => ?_) ?_
      · show Steps p.tables e below (Tg42.setTop (mkF m 49 #[.val (.long q0), .second, .val (.long q1), .second, .val (.long q2), .second, .val (.long q3), .second, .val (.int p4), .val (.int (own_b (¬ ((p4 &&& (1 : Int32)) = (0 : Int32))))), .val (.int (own_b (¬ ((p4 &&& (2 : Int32)) = (0 : Int32))))), .val (.long j38_s0), .second, .val (.long v45), .second, .unset, .unset, .unset, .unset, .unset, .unset, .unset, .unset, .unset, .unset, .unset] [(.int (own_b (¬ ((p4 &&& (2 : Int32)) = (0 : Int32)))))])) target
        refine XS.ifNo Xg42.here hx rfl (hb hby at_49) rfl ((if0 _ _).trans (feq (own_bn0 rfl c49)).1) ?_
        show Steps p.tables e below (Tg42.setTop (mkF m 52 #[.val (.long q0), .second, .val (.long q1), .second, .val (.long q2), .second, .val (.long q3), .second, .val (.int p4), .val (.int (own_b (¬ ((p4 &&& (1 : Int32)) = (0 : Int32))))), .val (.int (own_b (¬ ((p4 &&& (2 : Int32)) = (0 : Int32))))), .val (.long j38_s0), .second, .val (.long v45), .second, .unset, .unset, .unset, .unset, .unset, .unset, .unset, .unset, .unset, .unset, .unset] [])) target
        refine XS.lload Xg42.here hx rfl (hb hby at_52) rfl ?_
        show Steps p.tables e below (Tg42.setTop (mkF m 54 #[.val (.long q0), .second, .val (.long q1), .second, .val (.long q2), .second, .val (.long q3), .second, .val (.int p4), .val (.int (own_b (¬ ((p4 &&& (1 : Int32)) = (0 : Int32))))), .val (.int (own_b (¬ ((p4 &&& (2 : Int32)) = (0 : Int32))))), .val (.long j38_s0), .second, .val (.long v45), .second, .unset, .unset, .unset, .unset, .unset, .unset, .unset, .unset, .unset, .unset, .unset] [(.long v45)])) target
        refine XS.goto Xg42.here hx rfl (pc0 := 54) (pc' := 62) rfl (hb hby at_54) (by decide) (by decide) ?_
        exact kt
      exact ⟨_, ⟨Tg42, _, v45, rfl, Xg42, eg42, Ng42, Z0, (Keep.refl h0 []), (if_pos c49).symm⟩, fun _ k => k⟩
    · refine own_st (B := Tg42.setTop (mkF m 59 #[.val (.long q0), .second, .val (.long q1), .second, .val (.long q2), .second, .val (.long q3), .second, .val (.int p4), .val (.int (own_b (¬ ((p4 &&& (1 : Int32)) = (0 : Int32))))), .val (.int (own_b (¬ ((p4 &&& (2 : Int32)) = (0 : Int32))))), .val (.long j38_s0), .second, .val (.long v45), .second, .unset, .unset, .unset, .unset, .unset, .unset, .unset, .unset, .unset, .unset, .unset] [(.long q3)])) (fun target kt => ?_) ?_
      · show Steps p.tables e below (Tg42.setTop (mkF m 49 #[.val (.long q0), .second, .val (.long q1), .second, .val (.long q2), .second, .val (.long q3), .second, .val (.int p4), .val (.int (own_b (¬ ((p4 &&& (1 : Int32)) = (0 : Int32))))), .val (.int (own_b (¬ ((p4 &&& (2 : Int32)) = (0 : Int32))))), .val (.long j38_s0), .second, .val (.long v45), .second, .unset, .unset, .unset, .unset, .unset, .unset, .unset, .unset, .unset, .unset, .unset] [(.int (own_b (¬ ((p4 &&& (2 : Int32)) = (0 : Int32)))))])) target
        refine XS.ifYes Xg42.here hx rfl (pc0 := 49) (pc' := 57) rfl (hb hby at_49) rfl ((if0 _ _).trans (teq (own_b00 rfl c49)).1) (by decide) (by decide) ?_
        show Steps p.tables e below (Tg42.setTop (mkF m 57 #[.val (.long q0), .second, .val (.long q1), .second, .val (.long q2), .second, .val (.long q3), .second, .val (.int p4), .val (.int (own_b (¬ ((p4 &&& (1 : Int32)) = (0 : Int32))))), .val (.int (own_b (¬ ((p4 &&& (2 : Int32)) = (0 : Int32))))), .val (.long j38_s0), .second, .val (.long v45), .second, .unset, .unset, .unset, .unset, .unset, .unset, .unset, .unset, .unset, .unset, .unset] [])) target
        refine XS.lload Xg42.here hx rfl (hb hby at_57) rfl ?_
        exact kt
      obtain ⟨_, _, ⟨Tg59, Lg59, kg59, ng59⟩, -, Xg59, ⟨Lcg59, hQg59, lg59, yg59, zg59⟩, stg59⟩ := Jvm.LawKit.callS Xg42 hx (y := (⟨"ringward/PostIsAfterPinLaw", "number", "(J)J"⟩ : MethodName)) hown (mvT hZ (hw _ (List.mem_of_getElem? (i := 0) rfl))) (mvT hZ (hw _ (List.mem_of_getElem? (i := 1) rfl))) (mvT hZ (hw _ (List.mem_of_getElem? (i := 2) rfl))) (mvT hZ (hw _ (List.mem_of_getElem? (i := 3) rfl))) (by decide) (backOf (W := 0) (own_rm1 l Z a0 hw [] q3 h0 n0 Z0) hZ (hw _ (List.mem_of_getElem? (i := 3) rfl)) (hw _ (List.mem_of_getElem? (i := 2) rfl)) (by decide) (by decide)) (g := (mkF m 59 #[.val (.long q0), .second, .val (.long q1), .second, .val (.long q2), .second, .val (.long q3), .second, .val (.int p4), .val (.int (own_b (¬ ((p4 &&& (1 : Int32)) = (0 : Int32))))), .val (.int (own_b (¬ ((p4 &&& (2 : Int32)) = (0 : Int32))))), .val (.long j38_s0), .second, .val (.long v45), .second, .unset, .unset, .unset, .unset, .unset, .unset, .unset, .unset, .unset, .unset, .unset] [(.long q3)])) rfl (by rw [hml]; rfl) (argsL := [(.long q3)]) (rest := []) (lenOf own_pd11 rfl) rfl (by show 2 * 0 + _ ≤ _; exact Nat.le_of_eq rfl) (hb hby at_59) (fun _ _ => ⟨rfl, eg42, (by decide : 0 + 0 ≤ _), (by decide : 0 + 0 ≤ _)⟩)
      dsimp only [Pt.U, Pt.locs, Pt.cells, Pt.slots] at Xg59 lg59 yg59 zg59 stg59 hQg59
      subst lg59 yg59 zg59
      obtain ⟨rfl, Ng59q, eg59⟩ := hQg59
      have Ng59 := Fr.app Ng42 Ng59q
      refine own_st (stg59) ?_
      exact ⟨_, ⟨Tg59, _, (if (q3 &&& (9223372036854775807 : Int64)) = (0 : Int64) then (1 : Int64) else (q3 &&& (9223372036854775807 : Int64))), rfl, Xg59, eg59, Ng59, Z0, (Keep.refl h0 []), (if_neg c49).symm⟩, fun _ k => k⟩
  refine own_st st_M62 ?_
  refine own_st (B := T_M62.setTop (mkF m 64 #[.val (.long q0), .second, .val (.long q1), .second, .val (.long q2), .second, .val (.long q3), .second, .val (.int p4), .val (.int (own_b (¬ ((p4 &&& (1 : Int32)) = (0 : Int32))))), .val (.int (own_b (¬ ((p4 &&& (2 : Int32)) = (0 : Int32))))), .val (.long j38_s0), .second, .val (.long v45), .second, .val (.long j62_s0), .second, .unset, .unset, .unset, .unset, .unset, .unset, .unset, .unset, .unset] [])) (fun target kt => ?_) ?_
  · show Steps p.tables e below (T_M62.setTop (mkF m 62 #[.val (.long q0), .second, .val (.long q1), .second, .val (.long q2), .second, .val (.long q3), .second, .val (.int p4), .val (.int (own_b (¬ ((p4 &&& (1 : Int32)) = (0 : Int32))))), .val (.int (own_b (¬ ((p4 &&& (2 : Int32)) = (0 : Int32))))), .val (.long j38_s0), .second, .val (.long v45), .second, .unset, .unset, .unset, .unset, .unset, .unset, .unset, .unset, .unset, .unset, .unset] [(.long j62_s0)])) target
    refine XS.lstore X_M62.here hx rfl (hb hby at_62) rfl (l' := #[.val (.long q0), .second, .val (.long q1), .second, .val (.long q2), .second, .val (.long q3), .second, .val (.int p4), .val (.int (own_b (¬ ((p4 &&& (1 : Int32)) = (0 : Int32))))), .val (.int (own_b (¬ ((p4 &&& (2 : Int32)) = (0 : Int32))))), .val (.long j38_s0), .second, .val (.long v45), .second, .val (.long j62_s0), .second, .unset, .unset, .unset, .unset, .unset, .unset, .unset, .unset, .unset]) rfl ?_
    exact kt
  obtain ⟨Tg64, hg64, Xg64, eg64, Eg64, Ag64, Dg64, -, stg64⟩ := newO X_M62 hx hZ hown (hw _ (List.mem_of_getElem? (i := 5) rfl)) (hw _ (List.mem_of_getElem? (i := 6) rfl)) (hw _ (List.mem_of_getElem? (i := 7) rfl)) e_M62 (g := (mkF m 64 #[.val (.long q0), .second, .val (.long q1), .second, .val (.long q2), .second, .val (.long q3), .second, .val (.int p4), .val (.int (own_b (¬ ((p4 &&& (1 : Int32)) = (0 : Int32))))), .val (.int (own_b (¬ ((p4 &&& (2 : Int32)) = (0 : Int32))))), .val (.long j38_s0), .second, .val (.long v45), .second, .val (.long j62_s0), .second, .unset, .unset, .unset, .unset, .unset, .unset, .unset, .unset, .unset] [])) rfl (hb hby at_64) (by decide) (by decide)
  obtain ⟨b64, gg64⟩ : ∃ z, z = h0.size := ⟨_, rfl⟩
  rw [← gg64] at Ag64 Dg64 stg64
  refine own_st stg64 ?_
  have g_b64 : n0 ≤ b64 := Nat.le_trans Z_M62 (Nat.le_of_eq gg64.symm)
  have sz_b64 : h0.size ≤ b64 := Nat.le_trans K_M62.1 (Nat.le_of_eq gg64.symm)
  have Zz : n0 ≤ hg64.size := Nat.le_trans Z_M62 Eg64.1
  have hk := Nat.le_trans hk Eg64.1
  have Kc := K_M62.ext Eg64
  have F : Fld Z hg64 b64 "ringward/Message$Post" "sender" "Ljava/lang/String;" .null := Dg64 (Or.inr (hw _ (List.mem_of_getElem? (i := 83) rfl))) (ty := (.object "java/lang/String")) (by decide)
  have F_1 : Fld Z hg64 b64 "ringward/Message$Post" "run" "J" (.long (0 : Int64)) := Dg64 (Or.inr (hw _ (List.mem_of_getElem? (i := 85) rfl))) (ty := .long) (by decide)
  have F_2 : Fld Z hg64 b64 "ringward/Message$Post" "number" "J" (.long (0 : Int64)) := Dg64 (Or.inr (hw _ (List.mem_of_getElem? (i := 87) rfl))) (ty := .long) (by decide)
  have F_3 : Fld Z hg64 b64 "ringward/Message$Post" "first" "J" (.long (0 : Int64)) := Dg64 (Or.inr (hw _ (List.mem_of_getElem? (i := 89) rfl))) (ty := .long) (by decide)
  have F_4 : Fld Z hg64 b64 "ringward/Message$Post" "payload" "Ljava/lang/String;" .null := Dg64 (Or.inr (hw _ (List.mem_of_getElem? (i := 91) rfl))) (ty := (.object "java/lang/String")) (by decide)
  refine own_st (B := Tg64.setTop (mkF m 68 #[.val (.long q0), .second, .val (.long q1), .second, .val (.long q2), .second, .val (.long q3), .second, .val (.int p4), .val (.int (own_b (¬ ((p4 &&& (1 : Int32)) = (0 : Int32))))), .val (.int (own_b (¬ ((p4 &&& (2 : Int32)) = (0 : Int32))))), .val (.long j38_s0), .second, .val (.long v45), .second, .val (.long j62_s0), .second, .unset, .unset, .unset, .unset, .unset, .unset, .unset, .unset, .unset] [(.ref b64), (.ref b64)])) (fun target kt => ?_) ?_
  · show Steps p.tables e below (Tg64.setTop (mkF m 67 #[.val (.long q0), .second, .val (.long q1), .second, .val (.long q2), .second, .val (.long q3), .second, .val (.int p4), .val (.int (own_b (¬ ((p4 &&& (1 : Int32)) = (0 : Int32))))), .val (.int (own_b (¬ ((p4 &&& (2 : Int32)) = (0 : Int32))))), .val (.long j38_s0), .second, .val (.long v45), .second, .val (.long j62_s0), .second, .unset, .unset, .unset, .unset, .unset, .unset, .unset, .unset, .unset] [(.ref b64)])) target
    refine XS.dup Xg64.here hx rfl (hb hby at_67) rfl rfl ?_
    exact kt
  obtain ⟨b68, Tg68, hg68, Xg68, eg68, Eg68, hS, hZ, hown, FEg68, FCg68, b68v, FVg68, FAg68, Lt, stg68⟩ := own_ldcT Xg64 hx hZ hown (hw _ (List.mem_of_getElem? (i := 8) rfl)) (own_sa hw) eg64 hS hk (show Fr s.heap.size _ by rw [hh, hn0]; exact N_M62) hkeepZ hI hheld hcw (g := (mkF m 68 #[.val (.long q0), .second, .val (.long q1), .second, .val (.long q2), .second, .val (.long q3), .second, .val (.int p4), .val (.int (own_b (¬ ((p4 &&& (1 : Int32)) = (0 : Int32))))), .val (.int (own_b (¬ ((p4 &&& (2 : Int32)) = (0 : Int32))))), .val (.long j38_s0), .second, .val (.long v45), .second, .val (.long j62_s0), .second, .unset, .unset, .unset, .unset, .unset, .unset, .unset, .unset, .unset] [(.ref b64), (.ref b64)])) rfl (hb hby at_68) (n := 4) (by first | decide +kernel | decide) (by decide) (by decide) (by decide)
  refine own_st stg68 ?_
  have F_5 := Ag64.ext Eg68
  have F_6 := F.ext Eg68
  have F_7 := F_1.ext Eg68
  have F_8 := F_2.ext Eg68
  have F_9 := F_3.ext Eg68
  have F_10 := F_4.ext Eg68
  have Zz_1 : n0 ≤ hg68.size := Nat.le_trans Zz Eg68.1
  have hk := Nat.le_trans hk Eg68.1
  have Kc_1 := Kc.ext Eg68
  have hk : hg68.size ≤ hg68.size := Nat.le_refl _
  have ne_b64_b68 : b64 ≠ b68 := Exa.ne F_5 FEg68 (by decide)
  have ne_b64_b68v : b64 ≠ b68v := own_neB F_5 FAg68 (by decide) (hw _ (List.mem_of_getElem? (i := 6) rfl))
  refine own_st (B := Tg68.setTop (mkF m 74 #[.val (.long q0), .second, .val (.long q1), .second, .val (.long q2), .second, .val (.long q3), .second, .val (.int p4), .val (.int (own_b (¬ ((p4 &&& (1 : Int32)) = (0 : Int32))))), .val (.int (own_b (¬ ((p4 &&& (2 : Int32)) = (0 : Int32))))), .val (.long j38_s0), .second, .val (.long v45), .second, .val (.long j62_s0), .second, .unset, .unset, .unset, .unset, .unset, .unset, .unset, .unset, .unset] [(.long (1 : Int64)), (.long v45), (.long q0), (.ref b68), (.ref b64), (.ref b64)])) (fun target kt => ?_) ?_
  · show Steps p.tables e below (Tg68.setTop (mkF m 70 #[.val (.long q0), .second, .val (.long q1), .second, .val (.long q2), .second, .val (.long q3), .second, .val (.int p4), .val (.int (own_b (¬ ((p4 &&& (1 : Int32)) = (0 : Int32))))), .val (.int (own_b (¬ ((p4 &&& (2 : Int32)) = (0 : Int32))))), .val (.long j38_s0), .second, .val (.long v45), .second, .val (.long j62_s0), .second, .unset, .unset, .unset, .unset, .unset, .unset, .unset, .unset, .unset] [(.ref b68), (.ref b64), (.ref b64)])) target
    refine XS.lloadN Xg68.here hx rfl (hb hby at_70) rfl ?_
    show Steps p.tables e below (Tg68.setTop (mkF m 71 #[.val (.long q0), .second, .val (.long q1), .second, .val (.long q2), .second, .val (.long q3), .second, .val (.int p4), .val (.int (own_b (¬ ((p4 &&& (1 : Int32)) = (0 : Int32))))), .val (.int (own_b (¬ ((p4 &&& (2 : Int32)) = (0 : Int32))))), .val (.long j38_s0), .second, .val (.long v45), .second, .val (.long j62_s0), .second, .unset, .unset, .unset, .unset, .unset, .unset, .unset, .unset, .unset] [(.long q0), (.ref b68), (.ref b64), (.ref b64)])) target
    refine XS.lload Xg68.here hx rfl (hb hby at_71) rfl ?_
    show Steps p.tables e below (Tg68.setTop (mkF m 73 #[.val (.long q0), .second, .val (.long q1), .second, .val (.long q2), .second, .val (.long q3), .second, .val (.int p4), .val (.int (own_b (¬ ((p4 &&& (1 : Int32)) = (0 : Int32))))), .val (.int (own_b (¬ ((p4 &&& (2 : Int32)) = (0 : Int32))))), .val (.long j38_s0), .second, .val (.long v45), .second, .val (.long j62_s0), .second, .unset, .unset, .unset, .unset, .unset, .unset, .unset, .unset, .unset] [(.long v45), (.long q0), (.ref b68), (.ref b64), (.ref b64)])) target
    refine XS.lconst Xg68.here hx rfl (hb hby at_73) ?_
    exact kt
  obtain ⟨b74, Tg74, hg74, Xg74, eg74, Eg74, hS, hZ, hown, hWWg74, stg74⟩ := own_ldcS Xg68 hx hZ hown (hw _ (List.mem_of_getElem? (i := 16) rfl)) (own_sa hw) eg68 hS hk (g := (mkF m 74 #[.val (.long q0), .second, .val (.long q1), .second, .val (.long q2), .second, .val (.long q3), .second, .val (.int p4), .val (.int (own_b (¬ ((p4 &&& (1 : Int32)) = (0 : Int32))))), .val (.int (own_b (¬ ((p4 &&& (2 : Int32)) = (0 : Int32))))), .val (.long j38_s0), .second, .val (.long v45), .second, .val (.long j62_s0), .second, .unset, .unset, .unset, .unset, .unset, .unset, .unset, .unset, .unset] [(.long (1 : Int64)), (.long v45), (.long q0), (.ref b68), (.ref b64), (.ref b64)])) rfl (hb hby at_74) (n := 0) (by first | decide +kernel | decide) (by decide) (by decide) (by decide)
  have Lt_1 := Lit.stays Lt hWWg74
  refine own_st stg74 ?_
  have F_11 := F_5.ext Eg74
  have F_12 := F_6.ext Eg74
  have F_13 := F_7.ext Eg74
  have F_14 := F_8.ext Eg74
  have F_15 := F_9.ext Eg74
  have F_16 := F_10.ext Eg74
  have F_17 := FEg68.ext Eg74
  have F_18 := FCg68.ext Eg74
  have F_19 := FVg68.ext Eg74
  have F_20 := FAg68.ext Eg74
  have Zz_2 : n0 ≤ hg74.size := Nat.le_trans Zz_1 Eg74.1
  have hk := Nat.le_trans hk Eg74.1
  have Kc_2 := Kc_1.ext Eg74
  have hk : hg74.size ≤ hg74.size := Nat.le_refl _
  obtain ⟨_, _, ⟨Tg76, Lg76, kg76, ng76⟩, -, Xg76, hSg76, hgg76, ⟨Lcg76, hQg76, lg76, yg76, zg76⟩, stg76⟩ := Xg74.specialBackS hx (y := (⟨"ringward/Message$Post", "<init>", "(Ljava/lang/String;JJJLjava/lang/String;)V"⟩ : MethodName)) rfl hown (mvT hZ (hw _ (List.mem_of_getElem? (i := 17) rfl))) (mvT hZ (hw _ (List.mem_of_getElem? (i := 18) rfl))) (mvT hZ (hw _ (List.mem_of_getElem? (i := 19) rfl))) (by decide) (backOfS (W := 1) (own_rm2 l Z a0 hw [] b64 b68 q0 v45 b74 cs vf b68v hg74 n0 Zz_2 F_11 F_12 F_13 F_14 F_15 F_16 F_17 F_19 F_18 F_20 g_b64 ne_b64_b68 ne_b64_b68v (show Sta Z hg74 "java/lang/String" "COMPACT_STRINGS" "Z" (.int cs) from (own_sta0 hcs Kc_2)) (show ¬ cs = 0 from hcs0) (show Sta Z hg74 "jdk/internal/util/Preconditions" "SIOOBE_FORMATTER" "Ljava/util/function/BiFunction;" vf from (own_sta0 hsf Kc_2)) (show vf.isRef = true from hvf) (show ¬ v45 < (1 : Int64) from (by rw [hv45]; exact own_num q2))) hZ (hw _ (List.mem_of_getElem? (i := 19) rfl)) (hw _ (List.mem_of_getElem? (i := 7) rfl)) (by decide) (by decide)) (g := (mkF m 76 #[.val (.long q0), .second, .val (.long q1), .second, .val (.long q2), .second, .val (.long q3), .second, .val (.int p4), .val (.int (own_b (¬ ((p4 &&& (1 : Int32)) = (0 : Int32))))), .val (.int (own_b (¬ ((p4 &&& (2 : Int32)) = (0 : Int32))))), .val (.long j38_s0), .second, .val (.long v45), .second, .val (.long j62_s0), .second, .unset, .unset, .unset, .unset, .unset, .unset, .unset, .unset, .unset] [(.ref b74), (.long (1 : Int64)), (.long v45), (.long q0), (.ref b68), (.ref b64), (.ref b64)])) rfl (by rw [hml]; rfl) (Steps.refl _) (a := b64) (argsL := [(.ref b68), (.long q0), (.long v45), (.long (1 : Int64)), (.ref b74)]) (rest := [(.ref b64)]) (lenOf own_pd12 rfl) rfl (by show 2 * 0 + _ ≤ _; exact Nat.le_of_eq rfl) (hb hby at_76) (fun _ _ => ⟨rfl, eg74, (by decide : 5 + 4 ≤ _), (by decide : 17 + 204 ≤ _)⟩)
  dsimp only [Pt.U, Pt.locs, Pt.cells, Pt.slots] at Xg76 lg76 yg76 zg76 stg76 hQg76 hSg76 hgg76
  subst lg76 yg76 zg76
  have Lt_2 := Lit.stays Lt_1 hSg76.1
  obtain ⟨Xg76, hS, hZ, hown⟩ := rebS hS (show _ ≤ Tg74.heap.size by rw [eg74]; exact hk) Xg76 hSg76 hgg76 hZ hown
  obtain ⟨rfl, Ng76q, Kg76, F_21, F_22, F_23, F_24, F_25, F_26⟩ := hQg76
  have F_27 := F_17.keep Kg76
  have F_28 := F_18.keep Kg76 (ninS (Ne.symm ne_b64_b68) nin0)
  have F_29 := F_19.keep Kg76 (ninS (Ne.symm ne_b64_b68) nin0)
  have F_30 := F_20.keep Kg76 (ninS (Ne.symm ne_b64_b68v) nin0)
  have Zz_3 : n0 ≤ Tg76.heap.size := Nat.le_trans Zz_2 Kg76.1
  have hk := Nat.le_trans hk Kg76.1
  have Kc_3 := Kc_2.trans Kg76 (allS (Or.inr sz_b64) all0)
  have Ng76 := Fr.app N_M62 Ng76q
  have hk : Tg76.heap.size ≤ Tg76.heap.size := Nat.le_refl _
  refine own_st (fun _ k => stg76.trans k) ?_
  refine own_st (B := Tg76.setTop (mkF m 81 #[.val (.long q0), .second, .val (.long q1), .second, .val (.long q2), .second, .val (.long q3), .second, .val (.int p4), .val (.int (own_b (¬ ((p4 &&& (1 : Int32)) = (0 : Int32))))), .val (.int (own_b (¬ ((p4 &&& (2 : Int32)) = (0 : Int32))))), .val (.long j38_s0), .second, .val (.long v45), .second, .val (.long j62_s0), .second, .val (.ref b64), .unset, .unset, .unset, .unset, .unset, .unset, .unset, .unset] [])) (fun target kt => ?_) ?_
  · show Steps p.tables e below (Tg76.setTop (mkF m 79 #[.val (.long q0), .second, .val (.long q1), .second, .val (.long q2), .second, .val (.long q3), .second, .val (.int p4), .val (.int (own_b (¬ ((p4 &&& (1 : Int32)) = (0 : Int32))))), .val (.int (own_b (¬ ((p4 &&& (2 : Int32)) = (0 : Int32))))), .val (.long j38_s0), .second, .val (.long v45), .second, .val (.long j62_s0), .second, .unset, .unset, .unset, .unset, .unset, .unset, .unset, .unset, .unset] [(.ref b64)])) target
    refine XS.astore Xg76.here hx rfl (hb hby at_79) rfl rfl (l' := #[.val (.long q0), .second, .val (.long q1), .second, .val (.long q2), .second, .val (.long q3), .second, .val (.int p4), .val (.int (own_b (¬ ((p4 &&& (1 : Int32)) = (0 : Int32))))), .val (.int (own_b (¬ ((p4 &&& (2 : Int32)) = (0 : Int32))))), .val (.long j38_s0), .second, .val (.long v45), .second, .val (.long j62_s0), .second, .val (.ref b64), .unset, .unset, .unset, .unset, .unset, .unset, .unset, .unset]) rfl ?_
    exact kt
  obtain ⟨Tg81, hg81, Xg81, eg81, Eg81, Ag81, Dg81, -, stg81⟩ := newO Xg76 hx hZ hown (hw _ (List.mem_of_getElem? (i := 5) rfl)) (hw _ (List.mem_of_getElem? (i := 6) rfl)) (hw _ (List.mem_of_getElem? (i := 7) rfl)) rfl (g := (mkF m 81 #[.val (.long q0), .second, .val (.long q1), .second, .val (.long q2), .second, .val (.long q3), .second, .val (.int p4), .val (.int (own_b (¬ ((p4 &&& (1 : Int32)) = (0 : Int32))))), .val (.int (own_b (¬ ((p4 &&& (2 : Int32)) = (0 : Int32))))), .val (.long j38_s0), .second, .val (.long v45), .second, .val (.long j62_s0), .second, .val (.ref b64), .unset, .unset, .unset, .unset, .unset, .unset, .unset, .unset] [])) rfl (hb hby at_81) (by decide) (by decide)
  obtain ⟨b81, gg81⟩ : ∃ z, z = Tg76.heap.size := ⟨_, rfl⟩
  rw [← gg81] at Ag81 Dg81 stg81
  refine own_st stg81 ?_
  have ne_b64_b81 : b64 ≠ b81 := Nat.ne_of_lt (Nat.lt_of_lt_of_le F_21.lt (Nat.le_of_eq gg81.symm))
  have ne_b68_b81 : b68 ≠ b81 := Nat.ne_of_lt (Nat.lt_of_lt_of_le F_27.lt (Nat.le_of_eq gg81.symm))
  have ne_b68v_b81 : b68v ≠ b81 := Nat.ne_of_lt (Nat.lt_of_lt_of_le F_30.lt (Nat.le_of_eq gg81.symm))
  have g_b81 : n0 ≤ b81 := Nat.le_trans Zz_3 (Nat.le_of_eq gg81.symm)
  have sz_b81 : h0.size ≤ b81 := Nat.le_trans Kc_3.1 (Nat.le_of_eq gg81.symm)
  have F_31 := F_21.ext Eg81
  have F_32 := F_22.ext Eg81
  have F_33 := F_23.ext Eg81
  have F_34 := F_24.ext Eg81
  have F_35 := F_25.ext Eg81
  have F_36 := F_26.ext Eg81
  have F_37 := F_27.ext Eg81
  have F_38 := F_28.ext Eg81
  have F_39 := F_29.ext Eg81
  have F_40 := F_30.ext Eg81
  have Zz_4 : n0 ≤ hg81.size := Nat.le_trans Zz_3 Eg81.1
  have hk := Nat.le_trans hk Eg81.1
  have Kc_4 := Kc_3.ext Eg81
  have F_41 : Fld Z hg81 b81 "ringward/Message$Post" "sender" "Ljava/lang/String;" .null := Dg81 (Or.inr (hw _ (List.mem_of_getElem? (i := 83) rfl))) (ty := (.object "java/lang/String")) (by decide)
  have F_42 : Fld Z hg81 b81 "ringward/Message$Post" "run" "J" (.long (0 : Int64)) := Dg81 (Or.inr (hw _ (List.mem_of_getElem? (i := 85) rfl))) (ty := .long) (by decide)
  have F_43 : Fld Z hg81 b81 "ringward/Message$Post" "number" "J" (.long (0 : Int64)) := Dg81 (Or.inr (hw _ (List.mem_of_getElem? (i := 87) rfl))) (ty := .long) (by decide)
  have F_44 : Fld Z hg81 b81 "ringward/Message$Post" "first" "J" (.long (0 : Int64)) := Dg81 (Or.inr (hw _ (List.mem_of_getElem? (i := 89) rfl))) (ty := .long) (by decide)
  have F_45 : Fld Z hg81 b81 "ringward/Message$Post" "payload" "Ljava/lang/String;" .null := Dg81 (Or.inr (hw _ (List.mem_of_getElem? (i := 91) rfl))) (ty := (.object "java/lang/String")) (by decide)
  refine own_st (B := Tg81.setTop (mkF m 85 #[.val (.long q0), .second, .val (.long q1), .second, .val (.long q2), .second, .val (.long q3), .second, .val (.int p4), .val (.int (own_b (¬ ((p4 &&& (1 : Int32)) = (0 : Int32))))), .val (.int (own_b (¬ ((p4 &&& (2 : Int32)) = (0 : Int32))))), .val (.long j38_s0), .second, .val (.long v45), .second, .val (.long j62_s0), .second, .val (.ref b64), .unset, .unset, .unset, .unset, .unset, .unset, .unset, .unset] [(.ref b81), (.ref b81)])) (fun target kt => ?_) ?_
  · show Steps p.tables e below (Tg81.setTop (mkF m 84 #[.val (.long q0), .second, .val (.long q1), .second, .val (.long q2), .second, .val (.long q3), .second, .val (.int p4), .val (.int (own_b (¬ ((p4 &&& (1 : Int32)) = (0 : Int32))))), .val (.int (own_b (¬ ((p4 &&& (2 : Int32)) = (0 : Int32))))), .val (.long j38_s0), .second, .val (.long v45), .second, .val (.long j62_s0), .second, .val (.ref b64), .unset, .unset, .unset, .unset, .unset, .unset, .unset, .unset] [(.ref b81)])) target
    refine XS.dup Xg81.here hx rfl (hb hby at_84) rfl rfl ?_
    exact kt
  have stg85 := ldcAgain Xg81 hx hZ hown (hw _ (List.mem_of_getElem? (i := 8) rfl)) Lt_2 (g := (mkF m 85 #[.val (.long q0), .second, .val (.long q1), .second, .val (.long q2), .second, .val (.long q3), .second, .val (.int p4), .val (.int (own_b (¬ ((p4 &&& (1 : Int32)) = (0 : Int32))))), .val (.int (own_b (¬ ((p4 &&& (2 : Int32)) = (0 : Int32))))), .val (.long j38_s0), .second, .val (.long v45), .second, .val (.long j62_s0), .second, .val (.ref b64), .unset, .unset, .unset, .unset, .unset, .unset, .unset, .unset] [(.ref b81), (.ref b81)])) rfl (hb hby at_85)
  refine own_st stg85 ?_
  refine own_st (B := Tg81.setTop (mkF m 92 #[.val (.long q0), .second, .val (.long q1), .second, .val (.long q2), .second, .val (.long q3), .second, .val (.int p4), .val (.int (own_b (¬ ((p4 &&& (1 : Int32)) = (0 : Int32))))), .val (.int (own_b (¬ ((p4 &&& (2 : Int32)) = (0 : Int32))))), .val (.long j38_s0), .second, .val (.long v45), .second, .val (.long j62_s0), .second, .val (.ref b64), .unset, .unset, .unset, .unset, .unset, .unset, .unset, .unset] [(.long (1 : Int64)), (.long j62_s0), (.long j38_s0), (.ref b68), (.ref b81), (.ref b81)])) (fun target kt => ?_) ?_
  · show Steps p.tables e below (Tg81.setTop (mkF m 87 #[.val (.long q0), .second, .val (.long q1), .second, .val (.long q2), .second, .val (.long q3), .second, .val (.int p4), .val (.int (own_b (¬ ((p4 &&& (1 : Int32)) = (0 : Int32))))), .val (.int (own_b (¬ ((p4 &&& (2 : Int32)) = (0 : Int32))))), .val (.long j38_s0), .second, .val (.long v45), .second, .val (.long j62_s0), .second, .val (.ref b64), .unset, .unset, .unset, .unset, .unset, .unset, .unset, .unset] [(.ref b68), (.ref b81), (.ref b81)])) target
    refine XS.lload Xg81.here hx rfl (hb hby at_87) rfl ?_
    show Steps p.tables e below (Tg81.setTop (mkF m 89 #[.val (.long q0), .second, .val (.long q1), .second, .val (.long q2), .second, .val (.long q3), .second, .val (.int p4), .val (.int (own_b (¬ ((p4 &&& (1 : Int32)) = (0 : Int32))))), .val (.int (own_b (¬ ((p4 &&& (2 : Int32)) = (0 : Int32))))), .val (.long j38_s0), .second, .val (.long v45), .second, .val (.long j62_s0), .second, .val (.ref b64), .unset, .unset, .unset, .unset, .unset, .unset, .unset, .unset] [(.long j38_s0), (.ref b68), (.ref b81), (.ref b81)])) target
    refine XS.lload Xg81.here hx rfl (hb hby at_89) rfl ?_
    show Steps p.tables e below (Tg81.setTop (mkF m 91 #[.val (.long q0), .second, .val (.long q1), .second, .val (.long q2), .second, .val (.long q3), .second, .val (.int p4), .val (.int (own_b (¬ ((p4 &&& (1 : Int32)) = (0 : Int32))))), .val (.int (own_b (¬ ((p4 &&& (2 : Int32)) = (0 : Int32))))), .val (.long j38_s0), .second, .val (.long v45), .second, .val (.long j62_s0), .second, .val (.ref b64), .unset, .unset, .unset, .unset, .unset, .unset, .unset, .unset] [(.long j62_s0), (.long j38_s0), (.ref b68), (.ref b81), (.ref b81)])) target
    refine XS.lconst Xg81.here hx rfl (hb hby at_91) ?_
    exact kt
  obtain ⟨b92, Tg92, hg92, Xg92, eg92, Eg92, hS, hZ, hown, hWWg92, stg92⟩ := own_ldcS Xg81 hx hZ hown (hw _ (List.mem_of_getElem? (i := 16) rfl)) (own_sa hw) eg81 hS hk (g := (mkF m 92 #[.val (.long q0), .second, .val (.long q1), .second, .val (.long q2), .second, .val (.long q3), .second, .val (.int p4), .val (.int (own_b (¬ ((p4 &&& (1 : Int32)) = (0 : Int32))))), .val (.int (own_b (¬ ((p4 &&& (2 : Int32)) = (0 : Int32))))), .val (.long j38_s0), .second, .val (.long v45), .second, .val (.long j62_s0), .second, .val (.ref b64), .unset, .unset, .unset, .unset, .unset, .unset, .unset, .unset] [(.long (1 : Int64)), (.long j62_s0), (.long j38_s0), (.ref b68), (.ref b81), (.ref b81)])) rfl (hb hby at_92) (n := 0) (by first | decide +kernel | decide) (by decide) (by decide) (by decide)
  have Lt_3 := Lit.stays Lt_2 hWWg92
  refine own_st stg92 ?_
  have F_46 := F_31.ext Eg92
  have F_47 := F_32.ext Eg92
  have F_48 := F_33.ext Eg92
  have F_49 := F_34.ext Eg92
  have F_50 := F_35.ext Eg92
  have F_51 := F_36.ext Eg92
  have F_52 := F_37.ext Eg92
  have F_53 := F_38.ext Eg92
  have F_54 := F_39.ext Eg92
  have F_55 := F_40.ext Eg92
  have F_56 := Ag81.ext Eg92
  have F_57 := F_41.ext Eg92
  have F_58 := F_42.ext Eg92
  have F_59 := F_43.ext Eg92
  have F_60 := F_44.ext Eg92
  have F_61 := F_45.ext Eg92
  have Zz_5 : n0 ≤ hg92.size := Nat.le_trans Zz_4 Eg92.1
  have hk := Nat.le_trans hk Eg92.1
  have Kc_5 := Kc_4.ext Eg92
  have hk : hg92.size ≤ hg92.size := Nat.le_refl _
  obtain ⟨_, _, ⟨Tg94, Lg94, kg94, ng94⟩, -, Xg94, hSg94, hgg94, ⟨Lcg94, hQg94, lg94, yg94, zg94⟩, stg94⟩ := Xg92.specialBackS hx (y := (⟨"ringward/Message$Post", "<init>", "(Ljava/lang/String;JJJLjava/lang/String;)V"⟩ : MethodName)) rfl hown (mvT hZ (hw _ (List.mem_of_getElem? (i := 17) rfl))) (mvT hZ (hw _ (List.mem_of_getElem? (i := 18) rfl))) (mvT hZ (hw _ (List.mem_of_getElem? (i := 19) rfl))) (by decide) (backOfS (W := 1) (own_rm2 l Z a0 hw [] b81 b68 j38_s0 j62_s0 b92 cs vf b68v hg92 n0 Zz_5 F_56 F_57 F_58 F_59 F_60 F_61 F_52 F_54 F_53 F_55 g_b81 (Ne.symm ne_b68_b81) (Ne.symm ne_b68v_b81) (show Sta Z hg92 "java/lang/String" "COMPACT_STRINGS" "Z" (.int cs) from (own_sta0 hcs Kc_5)) (show ¬ cs = 0 from hcs0) (show Sta Z hg92 "jdk/internal/util/Preconditions" "SIOOBE_FORMATTER" "Ljava/util/function/BiFunction;" vf from (own_sta0 hsf Kc_5)) (show vf.isRef = true from hvf) (show ¬ j62_s0 < (1 : Int64) from (by rw [hj62_s0]; exact own_num2 _ _ _ (by rw [hv45]; exact own_num q2) (own_num q3)))) hZ (hw _ (List.mem_of_getElem? (i := 19) rfl)) (hw _ (List.mem_of_getElem? (i := 7) rfl)) (by decide) (by decide)) (g := (mkF m 94 #[.val (.long q0), .second, .val (.long q1), .second, .val (.long q2), .second, .val (.long q3), .second, .val (.int p4), .val (.int (own_b (¬ ((p4 &&& (1 : Int32)) = (0 : Int32))))), .val (.int (own_b (¬ ((p4 &&& (2 : Int32)) = (0 : Int32))))), .val (.long j38_s0), .second, .val (.long v45), .second, .val (.long j62_s0), .second, .val (.ref b64), .unset, .unset, .unset, .unset, .unset, .unset, .unset, .unset] [(.ref b92), (.long (1 : Int64)), (.long j62_s0), (.long j38_s0), (.ref b68), (.ref b81), (.ref b81)])) rfl (by rw [hml]; rfl) (Steps.refl _) (a := b81) (argsL := [(.ref b68), (.long j38_s0), (.long j62_s0), (.long (1 : Int64)), (.ref b92)]) (rest := [(.ref b81)]) (lenOf own_pd12 rfl) rfl (by show 2 * 0 + _ ≤ _; exact Nat.le_of_eq rfl) (hb hby at_94) (fun _ _ => ⟨rfl, eg92, (by decide : 12 + 4 ≤ _), (by decide : 230 + 204 ≤ _)⟩)
  dsimp only [Pt.U, Pt.locs, Pt.cells, Pt.slots] at Xg94 lg94 yg94 zg94 stg94 hQg94 hSg94 hgg94
  subst lg94 yg94 zg94
  have Lt_4 := Lit.stays Lt_3 hSg94.1
  obtain ⟨Xg94, hS, hZ, hown⟩ := rebS hS (show _ ≤ Tg92.heap.size by rw [eg92]; exact hk) Xg94 hSg94 hgg94 hZ hown
  obtain ⟨rfl, Ng94q, Kg94, F_62, F_63, F_64, F_65, F_66, F_67⟩ := hQg94
  have F_68 := F_46.keep Kg94
  have F_69 := F_47.keep Kg94 (ninS ne_b64_b81 nin0)
  have F_70 := F_48.keep Kg94 (ninS ne_b64_b81 nin0)
  have F_71 := F_49.keep Kg94 (ninS ne_b64_b81 nin0)
  have F_72 := F_50.keep Kg94 (ninS ne_b64_b81 nin0)
  have F_73 := F_51.keep Kg94 (ninS ne_b64_b81 nin0)
  have F_74 := F_52.keep Kg94
  have F_75 := F_53.keep Kg94 (ninS ne_b68_b81 nin0)
  have F_76 := F_54.keep Kg94 (ninS ne_b68_b81 nin0)
  have F_77 := F_55.keep Kg94 (ninS ne_b68v_b81 nin0)
  have Zz_6 : n0 ≤ Tg94.heap.size := Nat.le_trans Zz_5 Kg94.1
  have hk := Nat.le_trans hk Kg94.1
  have Kc_6 := Kc_5.trans Kg94 (allS (Or.inr sz_b81) all0)
  have Ng94 := Fr.app Ng76 Ng94q
  have hk : Tg94.heap.size ≤ Tg94.heap.size := Nat.le_refl _
  refine own_st (fun _ k => stg94.trans k) ?_
  refine own_st (B := Tg94.setTop (mkF m 103 #[.val (.long q0), .second, .val (.long q1), .second, .val (.long q2), .second, .val (.long q3), .second, .val (.int p4), .val (.int (own_b (¬ ((p4 &&& (1 : Int32)) = (0 : Int32))))), .val (.int (own_b (¬ ((p4 &&& (2 : Int32)) = (0 : Int32))))), .val (.long j38_s0), .second, .val (.long v45), .second, .val (.long j62_s0), .second, .val (.ref b64), .val (.ref b81), .unset, .unset, .unset, .unset, .unset, .unset, .unset] [(.int (lcmpW q0 j38_s0))])) (fun target kt => ?_) ?_
  · show Steps p.tables e below (Tg94.setTop (mkF m 97 #[.val (.long q0), .second, .val (.long q1), .second, .val (.long q2), .second, .val (.long q3), .second, .val (.int p4), .val (.int (own_b (¬ ((p4 &&& (1 : Int32)) = (0 : Int32))))), .val (.int (own_b (¬ ((p4 &&& (2 : Int32)) = (0 : Int32))))), .val (.long j38_s0), .second, .val (.long v45), .second, .val (.long j62_s0), .second, .val (.ref b64), .unset, .unset, .unset, .unset, .unset, .unset, .unset, .unset] [(.ref b81)])) target
    refine XS.astore Xg94.here hx rfl (hb hby at_97) rfl rfl (l' := #[.val (.long q0), .second, .val (.long q1), .second, .val (.long q2), .second, .val (.long q3), .second, .val (.int p4), .val (.int (own_b (¬ ((p4 &&& (1 : Int32)) = (0 : Int32))))), .val (.int (own_b (¬ ((p4 &&& (2 : Int32)) = (0 : Int32))))), .val (.long j38_s0), .second, .val (.long v45), .second, .val (.long j62_s0), .second, .val (.ref b64), .val (.ref b81), .unset, .unset, .unset, .unset, .unset, .unset, .unset]) rfl ?_
    show Steps p.tables e below (Tg94.setTop (mkF m 99 #[.val (.long q0), .second, .val (.long q1), .second, .val (.long q2), .second, .val (.long q3), .second, .val (.int p4), .val (.int (own_b (¬ ((p4 &&& (1 : Int32)) = (0 : Int32))))), .val (.int (own_b (¬ ((p4 &&& (2 : Int32)) = (0 : Int32))))), .val (.long j38_s0), .second, .val (.long v45), .second, .val (.long j62_s0), .second, .val (.ref b64), .val (.ref b81), .unset, .unset, .unset, .unset, .unset, .unset, .unset] [])) target
    refine XS.lloadN Xg94.here hx rfl (hb hby at_99) rfl ?_
    show Steps p.tables e below (Tg94.setTop (mkF m 100 #[.val (.long q0), .second, .val (.long q1), .second, .val (.long q2), .second, .val (.long q3), .second, .val (.int p4), .val (.int (own_b (¬ ((p4 &&& (1 : Int32)) = (0 : Int32))))), .val (.int (own_b (¬ ((p4 &&& (2 : Int32)) = (0 : Int32))))), .val (.long j38_s0), .second, .val (.long v45), .second, .val (.long j62_s0), .second, .val (.ref b64), .val (.ref b81), .unset, .unset, .unset, .unset, .unset, .unset, .unset] [(.long q0)])) target
    refine XS.lload Xg94.here hx rfl (hb hby at_100) rfl ?_
    show Steps p.tables e below (Tg94.setTop (mkF m 102 #[.val (.long q0), .second, .val (.long q1), .second, .val (.long q2), .second, .val (.long q3), .second, .val (.int p4), .val (.int (own_b (¬ ((p4 &&& (1 : Int32)) = (0 : Int32))))), .val (.int (own_b (¬ ((p4 &&& (2 : Int32)) = (0 : Int32))))), .val (.long j38_s0), .second, .val (.long v45), .second, .val (.long j62_s0), .second, .val (.ref b64), .val (.ref b81), .unset, .unset, .unset, .unset, .unset, .unset, .unset] [(.long j38_s0), (.long q0)])) target
    refine XS.lcmp Xg94.here hx rfl (hb hby at_102) rfl ?_
    exact kt
  obtain ⟨_, ⟨j111_s0, rfl, rfl⟩, st_M111⟩ : own_Lead p.tables e below (Tg94.setTop (mkF m 103 #[.val (.long q0), .second, .val (.long q1), .second, .val (.long q2), .second, .val (.long q3), .second, .val (.int p4), .val (.int (own_b (¬ ((p4 &&& (1 : Int32)) = (0 : Int32))))), .val (.int (own_b (¬ ((p4 &&& (2 : Int32)) = (0 : Int32))))), .val (.long j38_s0), .second, .val (.long v45), .second, .val (.long j62_s0), .second, .val (.ref b64), .val (.ref b81), .unset, .unset, .unset, .unset, .unset, .unset, .unset] [(.int (lcmpW q0 j38_s0))])) (fun B => ∃ (j111_s0 : Int32), B = Tg94.setTop (mkF m 111 #[.val (.long q0), .second, .val (.long q1), .second, .val (.long q2), .second, .val (.long q3), .second, .val (.int p4), .val (.int (own_b (¬ ((p4 &&& (1 : Int32)) = (0 : Int32))))), .val (.int (own_b (¬ ((p4 &&& (2 : Int32)) = (0 : Int32))))), .val (.long j38_s0), .second, .val (.long v45), .second, .val (.long j62_s0), .second, .val (.ref b64), .val (.ref b81), .unset, .unset, .unset, .unset, .unset, .unset, .unset] [(.int j111_s0)]) ∧ j111_s0 = own_b (q0 = j38_s0)) := by
    by_cases c103 : q0 = j38_s0
    · refine own_st (B := Tg94.setTop (mkF m 111 #[.val (.long q0), .second, .val (.long q1), .second, .val (.long q2), .second, .val (.long q3), .second, .val (.int p4), .val (.int (own_b (¬ ((p4 &&& (1 : Int32)) = (0 : Int32))))), .val (.int (own_b (¬ ((p4 &&& (2 : Int32)) = (0 : Int32))))), .val (.long j38_s0), .second, .val (.long v45), .second, .val (.long j62_s0), .second, .val (.ref b64), .val (.ref b81), .unset, .unset, .unset, .unset, .unset, .unset, .unset] [(.int (1 : Int32))])) (fun target kt => ?_) ?_
      · show Steps p.tables e below (Tg94.setTop (mkF m 103 #[.val (.long q0), .second, .val (.long q1), .second, .val (.long q2), .second, .val (.long q3), .second, .val (.int p4), .val (.int (own_b (¬ ((p4 &&& (1 : Int32)) = (0 : Int32))))), .val (.int (own_b (¬ ((p4 &&& (2 : Int32)) = (0 : Int32))))), .val (.long j38_s0), .second, .val (.long v45), .second, .val (.long j62_s0), .second, .val (.ref b64), .val (.ref b81), .unset, .unset, .unset, .unset, .unset, .unset, .unset] [(.int (lcmpW q0 j38_s0))])) target
        refine XS.ifNo Xg94.here hx rfl (hb hby at_103) rfl ((if0 _ _).trans (teq ((lw_eq q0 j38_s0).mpr c103)).2) ?_
        show Steps p.tables e below (Tg94.setTop (mkF m 106 #[.val (.long q0), .second, .val (.long q1), .second, .val (.long q2), .second, .val (.long q3), .second, .val (.int p4), .val (.int (own_b (¬ ((p4 &&& (1 : Int32)) = (0 : Int32))))), .val (.int (own_b (¬ ((p4 &&& (2 : Int32)) = (0 : Int32))))), .val (.long j38_s0), .second, .val (.long v45), .second, .val (.long j62_s0), .second, .val (.ref b64), .val (.ref b81), .unset, .unset, .unset, .unset, .unset, .unset, .unset] [])) target
        refine XS.iconst Xg94.here hx rfl (hb hby at_106) ?_
        show Steps p.tables e below (Tg94.setTop (mkF m 107 #[.val (.long q0), .second, .val (.long q1), .second, .val (.long q2), .second, .val (.long q3), .second, .val (.int p4), .val (.int (own_b (¬ ((p4 &&& (1 : Int32)) = (0 : Int32))))), .val (.int (own_b (¬ ((p4 &&& (2 : Int32)) = (0 : Int32))))), .val (.long j38_s0), .second, .val (.long v45), .second, .val (.long j62_s0), .second, .val (.ref b64), .val (.ref b81), .unset, .unset, .unset, .unset, .unset, .unset, .unset] [(.int (1 : Int32))])) target
        refine XS.goto Xg94.here hx rfl (pc0 := 107) (pc' := 111) rfl (hb hby at_107) (by decide) (by decide) ?_
        exact kt
      exact ⟨_, ⟨(1 : Int32), rfl, (own_b1 c103).symm⟩, fun _ k => k⟩
    · refine own_st (B := Tg94.setTop (mkF m 111 #[.val (.long q0), .second, .val (.long q1), .second, .val (.long q2), .second, .val (.long q3), .second, .val (.int p4), .val (.int (own_b (¬ ((p4 &&& (1 : Int32)) = (0 : Int32))))), .val (.int (own_b (¬ ((p4 &&& (2 : Int32)) = (0 : Int32))))), .val (.long j38_s0), .second, .val (.long v45), .second, .val (.long j62_s0), .second, .val (.ref b64), .val (.ref b81), .unset, .unset, .unset, .unset, .unset, .unset, .unset] [(.int (0 : Int32))])) (fun target kt => ?_) ?_
      · show Steps p.tables e below (Tg94.setTop (mkF m 103 #[.val (.long q0), .second, .val (.long q1), .second, .val (.long q2), .second, .val (.long q3), .second, .val (.int p4), .val (.int (own_b (¬ ((p4 &&& (1 : Int32)) = (0 : Int32))))), .val (.int (own_b (¬ ((p4 &&& (2 : Int32)) = (0 : Int32))))), .val (.long j38_s0), .second, .val (.long v45), .second, .val (.long j62_s0), .second, .val (.ref b64), .val (.ref b81), .unset, .unset, .unset, .unset, .unset, .unset, .unset] [(.int (lcmpW q0 j38_s0))])) target
        refine XS.ifYes Xg94.here hx rfl (pc0 := 103) (pc' := 110) rfl (hb hby at_103) rfl ((if0 _ _).trans (feq (fun q => c103 ((lw_eq q0 j38_s0).mp q))).2) (by decide) (by decide) ?_
        show Steps p.tables e below (Tg94.setTop (mkF m 110 #[.val (.long q0), .second, .val (.long q1), .second, .val (.long q2), .second, .val (.long q3), .second, .val (.int p4), .val (.int (own_b (¬ ((p4 &&& (1 : Int32)) = (0 : Int32))))), .val (.int (own_b (¬ ((p4 &&& (2 : Int32)) = (0 : Int32))))), .val (.long j38_s0), .second, .val (.long v45), .second, .val (.long j62_s0), .second, .val (.ref b64), .val (.ref b81), .unset, .unset, .unset, .unset, .unset, .unset, .unset] [])) target
        refine XS.iconst Xg94.here hx rfl (hb hby at_110) ?_
        exact kt
      exact ⟨_, ⟨(0 : Int32), rfl, (own_b0 c103).symm⟩, fun _ k => k⟩
  refine own_st st_M111 ?_
  refine own_st (B := Tg94.setTop (mkF m 115 #[.val (.long q0), .second, .val (.long q1), .second, .val (.long q2), .second, .val (.long q3), .second, .val (.int p4), .val (.int (own_b (¬ ((p4 &&& (1 : Int32)) = (0 : Int32))))), .val (.int (own_b (¬ ((p4 &&& (2 : Int32)) = (0 : Int32))))), .val (.long j38_s0), .second, .val (.long v45), .second, .val (.long j62_s0), .second, .val (.ref b64), .val (.ref b81), .val (.int (own_b (q0 = j38_s0))), .unset, .unset, .unset, .unset, .unset, .unset] [(.int (own_b (q0 = j38_s0)))])) (fun target kt => ?_) ?_
  · show Steps p.tables e below (Tg94.setTop (mkF m 111 #[.val (.long q0), .second, .val (.long q1), .second, .val (.long q2), .second, .val (.long q3), .second, .val (.int p4), .val (.int (own_b (¬ ((p4 &&& (1 : Int32)) = (0 : Int32))))), .val (.int (own_b (¬ ((p4 &&& (2 : Int32)) = (0 : Int32))))), .val (.long j38_s0), .second, .val (.long v45), .second, .val (.long j62_s0), .second, .val (.ref b64), .val (.ref b81), .unset, .unset, .unset, .unset, .unset, .unset, .unset] [(.int (own_b (q0 = j38_s0)))])) target
    refine XS.istore Xg94.here hx rfl (hb hby at_111) rfl (l' := #[.val (.long q0), .second, .val (.long q1), .second, .val (.long q2), .second, .val (.long q3), .second, .val (.int p4), .val (.int (own_b (¬ ((p4 &&& (1 : Int32)) = (0 : Int32))))), .val (.int (own_b (¬ ((p4 &&& (2 : Int32)) = (0 : Int32))))), .val (.long j38_s0), .second, .val (.long v45), .second, .val (.long j62_s0), .second, .val (.ref b64), .val (.ref b81), .val (.int (own_b (q0 = j38_s0))), .unset, .unset, .unset, .unset, .unset, .unset]) rfl ?_
    show Steps p.tables e below (Tg94.setTop (mkF m 113 #[.val (.long q0), .second, .val (.long q1), .second, .val (.long q2), .second, .val (.long q3), .second, .val (.int p4), .val (.int (own_b (¬ ((p4 &&& (1 : Int32)) = (0 : Int32))))), .val (.int (own_b (¬ ((p4 &&& (2 : Int32)) = (0 : Int32))))), .val (.long j38_s0), .second, .val (.long v45), .second, .val (.long j62_s0), .second, .val (.ref b64), .val (.ref b81), .val (.int (own_b (q0 = j38_s0))), .unset, .unset, .unset, .unset, .unset, .unset] [])) target
    refine XS.iload Xg94.here hx rfl (hb hby at_113) rfl ?_
    exact kt
  obtain ⟨_, ⟨j157_l20, j157_l21, rfl, rfl, rfl⟩, st_M157⟩ : own_Lead p.tables e below (Tg94.setTop (mkF m 115 #[.val (.long q0), .second, .val (.long q1), .second, .val (.long q2), .second, .val (.long q3), .second, .val (.int p4), .val (.int (own_b (¬ ((p4 &&& (1 : Int32)) = (0 : Int32))))), .val (.int (own_b (¬ ((p4 &&& (2 : Int32)) = (0 : Int32))))), .val (.long j38_s0), .second, .val (.long v45), .second, .val (.long j62_s0), .second, .val (.ref b64), .val (.ref b81), .val (.int (own_b (q0 = j38_s0))), .unset, .unset, .unset, .unset, .unset, .unset] [(.int (own_b (q0 = j38_s0)))])) (fun B => ∃ (j157_l20 : Int32) (j157_l21 : Int32), B = Tg94.setTop (mkF m 157 #[.val (.long q0), .second, .val (.long q1), .second, .val (.long q2), .second, .val (.long q3), .second, .val (.int p4), .val (.int (own_b (¬ ((p4 &&& (1 : Int32)) = (0 : Int32))))), .val (.int (own_b (¬ ((p4 &&& (2 : Int32)) = (0 : Int32))))), .val (.long j38_s0), .second, .val (.long v45), .second, .val (.long j62_s0), .second, .val (.ref b64), .val (.ref b81), .val (.int (own_b (q0 = j38_s0))), .val (.int j157_l20), .val (.int j157_l21), .unset, .unset, .unset, .unset] []) ∧ j157_l20 = own_b ((¬ (q0 = j38_s0) ∨ (j62_s0 < v45))) ∧ j157_l21 = own_b ((¬ (q0 = j38_s0) ∨ (v45 < j62_s0)))) := by
    by_cases c115 : q0 = j38_s0
    · refine own_st (B := Tg94.setTop (mkF m 123 #[.val (.long q0), .second, .val (.long q1), .second, .val (.long q2), .second, .val (.long q3), .second, .val (.int p4), .val (.int (own_b (¬ ((p4 &&& (1 : Int32)) = (0 : Int32))))), .val (.int (own_b (¬ ((p4 &&& (2 : Int32)) = (0 : Int32))))), .val (.long j38_s0), .second, .val (.long v45), .second, .val (.long j62_s0), .second, .val (.ref b64), .val (.ref b81), .val (.int (own_b (q0 = j38_s0))), .unset, .unset, .unset, .unset, .unset, .unset] [(.int (lcmpW v45 j62_s0))])) (fun target kt => ?_) ?_
      · show Steps p.tables e below (Tg94.setTop (mkF m 115 #[.val (.long q0), .second, .val (.long q1), .second, .val (.long q2), .second, .val (.long q3), .second, .val (.int p4), .val (.int (own_b (¬ ((p4 &&& (1 : Int32)) = (0 : Int32))))), .val (.int (own_b (¬ ((p4 &&& (2 : Int32)) = (0 : Int32))))), .val (.long j38_s0), .second, .val (.long v45), .second, .val (.long j62_s0), .second, .val (.ref b64), .val (.ref b81), .val (.int (own_b (q0 = j38_s0))), .unset, .unset, .unset, .unset, .unset, .unset] [(.int (own_b (q0 = j38_s0)))])) target
        refine XS.ifNo Xg94.here hx rfl (hb hby at_115) rfl ((if0 _ _).trans (feq (own_bn0 rfl c115)).1) ?_
        show Steps p.tables e below (Tg94.setTop (mkF m 118 #[.val (.long q0), .second, .val (.long q1), .second, .val (.long q2), .second, .val (.long q3), .second, .val (.int p4), .val (.int (own_b (¬ ((p4 &&& (1 : Int32)) = (0 : Int32))))), .val (.int (own_b (¬ ((p4 &&& (2 : Int32)) = (0 : Int32))))), .val (.long j38_s0), .second, .val (.long v45), .second, .val (.long j62_s0), .second, .val (.ref b64), .val (.ref b81), .val (.int (own_b (q0 = j38_s0))), .unset, .unset, .unset, .unset, .unset, .unset] [])) target
        refine XS.lload Xg94.here hx rfl (hb hby at_118) rfl ?_
        show Steps p.tables e below (Tg94.setTop (mkF m 120 #[.val (.long q0), .second, .val (.long q1), .second, .val (.long q2), .second, .val (.long q3), .second, .val (.int p4), .val (.int (own_b (¬ ((p4 &&& (1 : Int32)) = (0 : Int32))))), .val (.int (own_b (¬ ((p4 &&& (2 : Int32)) = (0 : Int32))))), .val (.long j38_s0), .second, .val (.long v45), .second, .val (.long j62_s0), .second, .val (.ref b64), .val (.ref b81), .val (.int (own_b (q0 = j38_s0))), .unset, .unset, .unset, .unset, .unset, .unset] [(.long v45)])) target
        refine XS.lload Xg94.here hx rfl (hb hby at_120) rfl ?_
        show Steps p.tables e below (Tg94.setTop (mkF m 122 #[.val (.long q0), .second, .val (.long q1), .second, .val (.long q2), .second, .val (.long q3), .second, .val (.int p4), .val (.int (own_b (¬ ((p4 &&& (1 : Int32)) = (0 : Int32))))), .val (.int (own_b (¬ ((p4 &&& (2 : Int32)) = (0 : Int32))))), .val (.long j38_s0), .second, .val (.long v45), .second, .val (.long j62_s0), .second, .val (.ref b64), .val (.ref b81), .val (.int (own_b (q0 = j38_s0))), .unset, .unset, .unset, .unset, .unset, .unset] [(.long j62_s0), (.long v45)])) target
        refine XS.lcmp Xg94.here hx rfl (hb hby at_122) rfl ?_
        exact kt
      obtain ⟨_, ⟨j131_s0, rfl, rfl⟩, st_M131⟩ : own_Lead p.tables e below (Tg94.setTop (mkF m 123 #[.val (.long q0), .second, .val (.long q1), .second, .val (.long q2), .second, .val (.long q3), .second, .val (.int p4), .val (.int (own_b (¬ ((p4 &&& (1 : Int32)) = (0 : Int32))))), .val (.int (own_b (¬ ((p4 &&& (2 : Int32)) = (0 : Int32))))), .val (.long j38_s0), .second, .val (.long v45), .second, .val (.long j62_s0), .second, .val (.ref b64), .val (.ref b81), .val (.int (own_b (q0 = j38_s0))), .unset, .unset, .unset, .unset, .unset, .unset] [(.int (lcmpW v45 j62_s0))])) (fun B => ∃ (j131_s0 : Int32), B = Tg94.setTop (mkF m 131 #[.val (.long q0), .second, .val (.long q1), .second, .val (.long q2), .second, .val (.long q3), .second, .val (.int p4), .val (.int (own_b (¬ ((p4 &&& (1 : Int32)) = (0 : Int32))))), .val (.int (own_b (¬ ((p4 &&& (2 : Int32)) = (0 : Int32))))), .val (.long j38_s0), .second, .val (.long v45), .second, .val (.long j62_s0), .second, .val (.ref b64), .val (.ref b81), .val (.int (own_b (q0 = j38_s0))), .unset, .unset, .unset, .unset, .unset, .unset] [(.int j131_s0)]) ∧ j131_s0 = own_b (j62_s0 < v45)) := by
        by_cases c123 : j62_s0 < v45
        · refine own_st (B := Tg94.setTop (mkF m 131 #[.val (.long q0), .second, .val (.long q1), .second, .val (.long q2), .second, .val (.long q3), .second, .val (.int p4), .val (.int (own_b (¬ ((p4 &&& (1 : Int32)) = (0 : Int32))))), .val (.int (own_b (¬ ((p4 &&& (2 : Int32)) = (0 : Int32))))), .val (.long j38_s0), .second, .val (.long v45), .second, .val (.long j62_s0), .second, .val (.ref b64), .val (.ref b81), .val (.int (own_b (q0 = j38_s0))), .unset, .unset, .unset, .unset, .unset, .unset] [(.int (1 : Int32))])) (fun target kt => ?_) ?_
          · show Steps p.tables e below (Tg94.setTop (mkF m 123 #[.val (.long q0), .second, .val (.long q1), .second, .val (.long q2), .second, .val (.long q3), .second, .val (.int p4), .val (.int (own_b (¬ ((p4 &&& (1 : Int32)) = (0 : Int32))))), .val (.int (own_b (¬ ((p4 &&& (2 : Int32)) = (0 : Int32))))), .val (.long j38_s0), .second, .val (.long v45), .second, .val (.long j62_s0), .second, .val (.ref b64), .val (.ref b81), .val (.int (own_b (q0 = j38_s0))), .unset, .unset, .unset, .unset, .unset, .unset] [(.int (lcmpW v45 j62_s0))])) target
            refine XS.ifNo Xg94.here hx rfl (hb hby at_123) rfl ((if0 _ _).trans (tlt ((lw_gt v45 j62_s0).mpr c123)).2.2.2) ?_
            show Steps p.tables e below (Tg94.setTop (mkF m 126 #[.val (.long q0), .second, .val (.long q1), .second, .val (.long q2), .second, .val (.long q3), .second, .val (.int p4), .val (.int (own_b (¬ ((p4 &&& (1 : Int32)) = (0 : Int32))))), .val (.int (own_b (¬ ((p4 &&& (2 : Int32)) = (0 : Int32))))), .val (.long j38_s0), .second, .val (.long v45), .second, .val (.long j62_s0), .second, .val (.ref b64), .val (.ref b81), .val (.int (own_b (q0 = j38_s0))), .unset, .unset, .unset, .unset, .unset, .unset] [])) target
            refine XS.iconst Xg94.here hx rfl (hb hby at_126) ?_
            show Steps p.tables e below (Tg94.setTop (mkF m 127 #[.val (.long q0), .second, .val (.long q1), .second, .val (.long q2), .second, .val (.long q3), .second, .val (.int p4), .val (.int (own_b (¬ ((p4 &&& (1 : Int32)) = (0 : Int32))))), .val (.int (own_b (¬ ((p4 &&& (2 : Int32)) = (0 : Int32))))), .val (.long j38_s0), .second, .val (.long v45), .second, .val (.long j62_s0), .second, .val (.ref b64), .val (.ref b81), .val (.int (own_b (q0 = j38_s0))), .unset, .unset, .unset, .unset, .unset, .unset] [(.int (1 : Int32))])) target
            refine XS.goto Xg94.here hx rfl (pc0 := 127) (pc' := 131) rfl (hb hby at_127) (by decide) (by decide) ?_
            exact kt
          exact ⟨_, ⟨(1 : Int32), rfl, (own_b1 c123).symm⟩, fun _ k => k⟩
        · refine own_st (B := Tg94.setTop (mkF m 131 #[.val (.long q0), .second, .val (.long q1), .second, .val (.long q2), .second, .val (.long q3), .second, .val (.int p4), .val (.int (own_b (¬ ((p4 &&& (1 : Int32)) = (0 : Int32))))), .val (.int (own_b (¬ ((p4 &&& (2 : Int32)) = (0 : Int32))))), .val (.long j38_s0), .second, .val (.long v45), .second, .val (.long j62_s0), .second, .val (.ref b64), .val (.ref b81), .val (.int (own_b (q0 = j38_s0))), .unset, .unset, .unset, .unset, .unset, .unset] [(.int (0 : Int32))])) (fun target kt => ?_) ?_
          · show Steps p.tables e below (Tg94.setTop (mkF m 123 #[.val (.long q0), .second, .val (.long q1), .second, .val (.long q2), .second, .val (.long q3), .second, .val (.int p4), .val (.int (own_b (¬ ((p4 &&& (1 : Int32)) = (0 : Int32))))), .val (.int (own_b (¬ ((p4 &&& (2 : Int32)) = (0 : Int32))))), .val (.long j38_s0), .second, .val (.long v45), .second, .val (.long j62_s0), .second, .val (.ref b64), .val (.ref b81), .val (.int (own_b (q0 = j38_s0))), .unset, .unset, .unset, .unset, .unset, .unset] [(.int (lcmpW v45 j62_s0))])) target
            refine XS.ifYes Xg94.here hx rfl (pc0 := 123) (pc' := 130) rfl (hb hby at_123) rfl ((if0 _ _).trans (flt (fun q => c123 ((lw_gt v45 j62_s0).mp q))).2.2.2) (by decide) (by decide) ?_
            show Steps p.tables e below (Tg94.setTop (mkF m 130 #[.val (.long q0), .second, .val (.long q1), .second, .val (.long q2), .second, .val (.long q3), .second, .val (.int p4), .val (.int (own_b (¬ ((p4 &&& (1 : Int32)) = (0 : Int32))))), .val (.int (own_b (¬ ((p4 &&& (2 : Int32)) = (0 : Int32))))), .val (.long j38_s0), .second, .val (.long v45), .second, .val (.long j62_s0), .second, .val (.ref b64), .val (.ref b81), .val (.int (own_b (q0 = j38_s0))), .unset, .unset, .unset, .unset, .unset, .unset] [])) target
            refine XS.iconst Xg94.here hx rfl (hb hby at_130) ?_
            exact kt
          exact ⟨_, ⟨(0 : Int32), rfl, (own_b0 c123).symm⟩, fun _ k => k⟩
      refine own_st st_M131 ?_
      refine own_st (B := Tg94.setTop (mkF m 138 #[.val (.long q0), .second, .val (.long q1), .second, .val (.long q2), .second, .val (.long q3), .second, .val (.int p4), .val (.int (own_b (¬ ((p4 &&& (1 : Int32)) = (0 : Int32))))), .val (.int (own_b (¬ ((p4 &&& (2 : Int32)) = (0 : Int32))))), .val (.long j38_s0), .second, .val (.long v45), .second, .val (.long j62_s0), .second, .val (.ref b64), .val (.ref b81), .val (.int (own_b (q0 = j38_s0))), .val (.int (own_b (j62_s0 < v45))), .unset, .unset, .unset, .unset, .unset] [(.int (lcmpW j62_s0 v45))])) (fun target kt => ?_) ?_
      · show Steps p.tables e below (Tg94.setTop (mkF m 131 #[.val (.long q0), .second, .val (.long q1), .second, .val (.long q2), .second, .val (.long q3), .second, .val (.int p4), .val (.int (own_b (¬ ((p4 &&& (1 : Int32)) = (0 : Int32))))), .val (.int (own_b (¬ ((p4 &&& (2 : Int32)) = (0 : Int32))))), .val (.long j38_s0), .second, .val (.long v45), .second, .val (.long j62_s0), .second, .val (.ref b64), .val (.ref b81), .val (.int (own_b (q0 = j38_s0))), .unset, .unset, .unset, .unset, .unset, .unset] [(.int (own_b (j62_s0 < v45)))])) target
        refine XS.istore Xg94.here hx rfl (hb hby at_131) rfl (l' := #[.val (.long q0), .second, .val (.long q1), .second, .val (.long q2), .second, .val (.long q3), .second, .val (.int p4), .val (.int (own_b (¬ ((p4 &&& (1 : Int32)) = (0 : Int32))))), .val (.int (own_b (¬ ((p4 &&& (2 : Int32)) = (0 : Int32))))), .val (.long j38_s0), .second, .val (.long v45), .second, .val (.long j62_s0), .second, .val (.ref b64), .val (.ref b81), .val (.int (own_b (q0 = j38_s0))), .val (.int (own_b (j62_s0 < v45))), .unset, .unset, .unset, .unset, .unset]) rfl ?_
        show Steps p.tables e below (Tg94.setTop (mkF m 133 #[.val (.long q0), .second, .val (.long q1), .second, .val (.long q2), .second, .val (.long q3), .second, .val (.int p4), .val (.int (own_b (¬ ((p4 &&& (1 : Int32)) = (0 : Int32))))), .val (.int (own_b (¬ ((p4 &&& (2 : Int32)) = (0 : Int32))))), .val (.long j38_s0), .second, .val (.long v45), .second, .val (.long j62_s0), .second, .val (.ref b64), .val (.ref b81), .val (.int (own_b (q0 = j38_s0))), .val (.int (own_b (j62_s0 < v45))), .unset, .unset, .unset, .unset, .unset] [])) target
        refine XS.lload Xg94.here hx rfl (hb hby at_133) rfl ?_
        show Steps p.tables e below (Tg94.setTop (mkF m 135 #[.val (.long q0), .second, .val (.long q1), .second, .val (.long q2), .second, .val (.long q3), .second, .val (.int p4), .val (.int (own_b (¬ ((p4 &&& (1 : Int32)) = (0 : Int32))))), .val (.int (own_b (¬ ((p4 &&& (2 : Int32)) = (0 : Int32))))), .val (.long j38_s0), .second, .val (.long v45), .second, .val (.long j62_s0), .second, .val (.ref b64), .val (.ref b81), .val (.int (own_b (q0 = j38_s0))), .val (.int (own_b (j62_s0 < v45))), .unset, .unset, .unset, .unset, .unset] [(.long j62_s0)])) target
        refine XS.lload Xg94.here hx rfl (hb hby at_135) rfl ?_
        show Steps p.tables e below (Tg94.setTop (mkF m 137 #[.val (.long q0), .second, .val (.long q1), .second, .val (.long q2), .second, .val (.long q3), .second, .val (.int p4), .val (.int (own_b (¬ ((p4 &&& (1 : Int32)) = (0 : Int32))))), .val (.int (own_b (¬ ((p4 &&& (2 : Int32)) = (0 : Int32))))), .val (.long j38_s0), .second, .val (.long v45), .second, .val (.long j62_s0), .second, .val (.ref b64), .val (.ref b81), .val (.int (own_b (q0 = j38_s0))), .val (.int (own_b (j62_s0 < v45))), .unset, .unset, .unset, .unset, .unset] [(.long v45), (.long j62_s0)])) target
        refine XS.lcmp Xg94.here hx rfl (hb hby at_137) rfl ?_
        exact kt
      obtain ⟨_, ⟨j146_s0, rfl, rfl⟩, st_M146⟩ : own_Lead p.tables e below (Tg94.setTop (mkF m 138 #[.val (.long q0), .second, .val (.long q1), .second, .val (.long q2), .second, .val (.long q3), .second, .val (.int p4), .val (.int (own_b (¬ ((p4 &&& (1 : Int32)) = (0 : Int32))))), .val (.int (own_b (¬ ((p4 &&& (2 : Int32)) = (0 : Int32))))), .val (.long j38_s0), .second, .val (.long v45), .second, .val (.long j62_s0), .second, .val (.ref b64), .val (.ref b81), .val (.int (own_b (q0 = j38_s0))), .val (.int (own_b (j62_s0 < v45))), .unset, .unset, .unset, .unset, .unset] [(.int (lcmpW j62_s0 v45))])) (fun B => ∃ (j146_s0 : Int32), B = Tg94.setTop (mkF m 146 #[.val (.long q0), .second, .val (.long q1), .second, .val (.long q2), .second, .val (.long q3), .second, .val (.int p4), .val (.int (own_b (¬ ((p4 &&& (1 : Int32)) = (0 : Int32))))), .val (.int (own_b (¬ ((p4 &&& (2 : Int32)) = (0 : Int32))))), .val (.long j38_s0), .second, .val (.long v45), .second, .val (.long j62_s0), .second, .val (.ref b64), .val (.ref b81), .val (.int (own_b (q0 = j38_s0))), .val (.int (own_b (j62_s0 < v45))), .unset, .unset, .unset, .unset, .unset] [(.int j146_s0)]) ∧ j146_s0 = own_b (v45 < j62_s0)) := by
        by_cases c138 : v45 < j62_s0
        · refine own_st (B := Tg94.setTop (mkF m 146 #[.val (.long q0), .second, .val (.long q1), .second, .val (.long q2), .second, .val (.long q3), .second, .val (.int p4), .val (.int (own_b (¬ ((p4 &&& (1 : Int32)) = (0 : Int32))))), .val (.int (own_b (¬ ((p4 &&& (2 : Int32)) = (0 : Int32))))), .val (.long j38_s0), .second, .val (.long v45), .second, .val (.long j62_s0), .second, .val (.ref b64), .val (.ref b81), .val (.int (own_b (q0 = j38_s0))), .val (.int (own_b (j62_s0 < v45))), .unset, .unset, .unset, .unset, .unset] [(.int (1 : Int32))])) (fun target kt => ?_) ?_
          · show Steps p.tables e below (Tg94.setTop (mkF m 138 #[.val (.long q0), .second, .val (.long q1), .second, .val (.long q2), .second, .val (.long q3), .second, .val (.int p4), .val (.int (own_b (¬ ((p4 &&& (1 : Int32)) = (0 : Int32))))), .val (.int (own_b (¬ ((p4 &&& (2 : Int32)) = (0 : Int32))))), .val (.long j38_s0), .second, .val (.long v45), .second, .val (.long j62_s0), .second, .val (.ref b64), .val (.ref b81), .val (.int (own_b (q0 = j38_s0))), .val (.int (own_b (j62_s0 < v45))), .unset, .unset, .unset, .unset, .unset] [(.int (lcmpW j62_s0 v45))])) target
            refine XS.ifNo Xg94.here hx rfl (hb hby at_138) rfl ((if0 _ _).trans (tlt ((lw_gt j62_s0 v45).mpr c138)).2.2.2) ?_
            show Steps p.tables e below (Tg94.setTop (mkF m 141 #[.val (.long q0), .second, .val (.long q1), .second, .val (.long q2), .second, .val (.long q3), .second, .val (.int p4), .val (.int (own_b (¬ ((p4 &&& (1 : Int32)) = (0 : Int32))))), .val (.int (own_b (¬ ((p4 &&& (2 : Int32)) = (0 : Int32))))), .val (.long j38_s0), .second, .val (.long v45), .second, .val (.long j62_s0), .second, .val (.ref b64), .val (.ref b81), .val (.int (own_b (q0 = j38_s0))), .val (.int (own_b (j62_s0 < v45))), .unset, .unset, .unset, .unset, .unset] [])) target
            refine XS.iconst Xg94.here hx rfl (hb hby at_141) ?_
            show Steps p.tables e below (Tg94.setTop (mkF m 142 #[.val (.long q0), .second, .val (.long q1), .second, .val (.long q2), .second, .val (.long q3), .second, .val (.int p4), .val (.int (own_b (¬ ((p4 &&& (1 : Int32)) = (0 : Int32))))), .val (.int (own_b (¬ ((p4 &&& (2 : Int32)) = (0 : Int32))))), .val (.long j38_s0), .second, .val (.long v45), .second, .val (.long j62_s0), .second, .val (.ref b64), .val (.ref b81), .val (.int (own_b (q0 = j38_s0))), .val (.int (own_b (j62_s0 < v45))), .unset, .unset, .unset, .unset, .unset] [(.int (1 : Int32))])) target
            refine XS.goto Xg94.here hx rfl (pc0 := 142) (pc' := 146) rfl (hb hby at_142) (by decide) (by decide) ?_
            exact kt
          exact ⟨_, ⟨(1 : Int32), rfl, (own_b1 c138).symm⟩, fun _ k => k⟩
        · refine own_st (B := Tg94.setTop (mkF m 146 #[.val (.long q0), .second, .val (.long q1), .second, .val (.long q2), .second, .val (.long q3), .second, .val (.int p4), .val (.int (own_b (¬ ((p4 &&& (1 : Int32)) = (0 : Int32))))), .val (.int (own_b (¬ ((p4 &&& (2 : Int32)) = (0 : Int32))))), .val (.long j38_s0), .second, .val (.long v45), .second, .val (.long j62_s0), .second, .val (.ref b64), .val (.ref b81), .val (.int (own_b (q0 = j38_s0))), .val (.int (own_b (j62_s0 < v45))), .unset, .unset, .unset, .unset, .unset] [(.int (0 : Int32))])) (fun target kt => ?_) ?_
          · show Steps p.tables e below (Tg94.setTop (mkF m 138 #[.val (.long q0), .second, .val (.long q1), .second, .val (.long q2), .second, .val (.long q3), .second, .val (.int p4), .val (.int (own_b (¬ ((p4 &&& (1 : Int32)) = (0 : Int32))))), .val (.int (own_b (¬ ((p4 &&& (2 : Int32)) = (0 : Int32))))), .val (.long j38_s0), .second, .val (.long v45), .second, .val (.long j62_s0), .second, .val (.ref b64), .val (.ref b81), .val (.int (own_b (q0 = j38_s0))), .val (.int (own_b (j62_s0 < v45))), .unset, .unset, .unset, .unset, .unset] [(.int (lcmpW j62_s0 v45))])) target
            refine XS.ifYes Xg94.here hx rfl (pc0 := 138) (pc' := 145) rfl (hb hby at_138) rfl ((if0 _ _).trans (flt (fun q => c138 ((lw_gt j62_s0 v45).mp q))).2.2.2) (by decide) (by decide) ?_
            show Steps p.tables e below (Tg94.setTop (mkF m 145 #[.val (.long q0), .second, .val (.long q1), .second, .val (.long q2), .second, .val (.long q3), .second, .val (.int p4), .val (.int (own_b (¬ ((p4 &&& (1 : Int32)) = (0 : Int32))))), .val (.int (own_b (¬ ((p4 &&& (2 : Int32)) = (0 : Int32))))), .val (.long j38_s0), .second, .val (.long v45), .second, .val (.long j62_s0), .second, .val (.ref b64), .val (.ref b81), .val (.int (own_b (q0 = j38_s0))), .val (.int (own_b (j62_s0 < v45))), .unset, .unset, .unset, .unset, .unset] [])) target
            refine XS.iconst Xg94.here hx rfl (hb hby at_145) ?_
            exact kt
          exact ⟨_, ⟨(0 : Int32), rfl, (own_b0 c138).symm⟩, fun _ k => k⟩
      refine own_st st_M146 ?_
      refine own_st (B := Tg94.setTop (mkF m 157 #[.val (.long q0), .second, .val (.long q1), .second, .val (.long q2), .second, .val (.long q3), .second, .val (.int p4), .val (.int (own_b (¬ ((p4 &&& (1 : Int32)) = (0 : Int32))))), .val (.int (own_b (¬ ((p4 &&& (2 : Int32)) = (0 : Int32))))), .val (.long j38_s0), .second, .val (.long v45), .second, .val (.long j62_s0), .second, .val (.ref b64), .val (.ref b81), .val (.int (own_b (q0 = j38_s0))), .val (.int (own_b (j62_s0 < v45))), .val (.int (own_b (v45 < j62_s0))), .unset, .unset, .unset, .unset] [])) (fun target kt => ?_) ?_
      · show Steps p.tables e below (Tg94.setTop (mkF m 146 #[.val (.long q0), .second, .val (.long q1), .second, .val (.long q2), .second, .val (.long q3), .second, .val (.int p4), .val (.int (own_b (¬ ((p4 &&& (1 : Int32)) = (0 : Int32))))), .val (.int (own_b (¬ ((p4 &&& (2 : Int32)) = (0 : Int32))))), .val (.long j38_s0), .second, .val (.long v45), .second, .val (.long j62_s0), .second, .val (.ref b64), .val (.ref b81), .val (.int (own_b (q0 = j38_s0))), .val (.int (own_b (j62_s0 < v45))), .unset, .unset, .unset, .unset, .unset] [(.int (own_b (v45 < j62_s0)))])) target
        refine XS.istore Xg94.here hx rfl (hb hby at_146) rfl (l' := #[.val (.long q0), .second, .val (.long q1), .second, .val (.long q2), .second, .val (.long q3), .second, .val (.int p4), .val (.int (own_b (¬ ((p4 &&& (1 : Int32)) = (0 : Int32))))), .val (.int (own_b (¬ ((p4 &&& (2 : Int32)) = (0 : Int32))))), .val (.long j38_s0), .second, .val (.long v45), .second, .val (.long j62_s0), .second, .val (.ref b64), .val (.ref b81), .val (.int (own_b (q0 = j38_s0))), .val (.int (own_b (j62_s0 < v45))), .val (.int (own_b (v45 < j62_s0))), .unset, .unset, .unset, .unset]) rfl ?_
        show Steps p.tables e below (Tg94.setTop (mkF m 148 #[.val (.long q0), .second, .val (.long q1), .second, .val (.long q2), .second, .val (.long q3), .second, .val (.int p4), .val (.int (own_b (¬ ((p4 &&& (1 : Int32)) = (0 : Int32))))), .val (.int (own_b (¬ ((p4 &&& (2 : Int32)) = (0 : Int32))))), .val (.long j38_s0), .second, .val (.long v45), .second, .val (.long j62_s0), .second, .val (.ref b64), .val (.ref b81), .val (.int (own_b (q0 = j38_s0))), .val (.int (own_b (j62_s0 < v45))), .val (.int (own_b (v45 < j62_s0))), .unset, .unset, .unset, .unset] [])) target
        refine XS.goto Xg94.here hx rfl (pc0 := 148) (pc' := 157) rfl (hb hby at_148) (by decide) (by decide) ?_
        exact kt
      exact ⟨_, ⟨(own_b (j62_s0 < v45)), (own_b (v45 < j62_s0)), rfl, (own_bj rfl (fun q => (Or.inr q)) (fun q => (fun w => w.elim (fun n => n c115) q))), (own_bj rfl (fun q => (Or.inr q)) (fun q => (fun w => w.elim (fun n => n c115) q)))⟩, fun _ k => k⟩
    · refine own_st (B := Tg94.setTop (mkF m 157 #[.val (.long q0), .second, .val (.long q1), .second, .val (.long q2), .second, .val (.long q3), .second, .val (.int p4), .val (.int (own_b (¬ ((p4 &&& (1 : Int32)) = (0 : Int32))))), .val (.int (own_b (¬ ((p4 &&& (2 : Int32)) = (0 : Int32))))), .val (.long j38_s0), .second, .val (.long v45), .second, .val (.long j62_s0), .second, .val (.ref b64), .val (.ref b81), .val (.int (own_b (q0 = j38_s0))), .val (.int (1 : Int32)), .val (.int (1 : Int32)), .unset, .unset, .unset, .unset] [])) (fun target kt => ?_) ?_
      · show Steps p.tables e below (Tg94.setTop (mkF m 115 #[.val (.long q0), .second, .val (.long q1), .second, .val (.long q2), .second, .val (.long q3), .second, .val (.int p4), .val (.int (own_b (¬ ((p4 &&& (1 : Int32)) = (0 : Int32))))), .val (.int (own_b (¬ ((p4 &&& (2 : Int32)) = (0 : Int32))))), .val (.long j38_s0), .second, .val (.long v45), .second, .val (.long j62_s0), .second, .val (.ref b64), .val (.ref b81), .val (.int (own_b (q0 = j38_s0))), .unset, .unset, .unset, .unset, .unset, .unset] [(.int (own_b (q0 = j38_s0)))])) target
        refine XS.ifYes Xg94.here hx rfl (pc0 := 115) (pc' := 151) rfl (hb hby at_115) rfl ((if0 _ _).trans (teq (own_b00 rfl c115)).1) (by decide) (by decide) ?_
        show Steps p.tables e below (Tg94.setTop (mkF m 151 #[.val (.long q0), .second, .val (.long q1), .second, .val (.long q2), .second, .val (.long q3), .second, .val (.int p4), .val (.int (own_b (¬ ((p4 &&& (1 : Int32)) = (0 : Int32))))), .val (.int (own_b (¬ ((p4 &&& (2 : Int32)) = (0 : Int32))))), .val (.long j38_s0), .second, .val (.long v45), .second, .val (.long j62_s0), .second, .val (.ref b64), .val (.ref b81), .val (.int (own_b (q0 = j38_s0))), .unset, .unset, .unset, .unset, .unset, .unset] [])) target
        refine XS.iconst Xg94.here hx rfl (hb hby at_151) ?_
        show Steps p.tables e below (Tg94.setTop (mkF m 152 #[.val (.long q0), .second, .val (.long q1), .second, .val (.long q2), .second, .val (.long q3), .second, .val (.int p4), .val (.int (own_b (¬ ((p4 &&& (1 : Int32)) = (0 : Int32))))), .val (.int (own_b (¬ ((p4 &&& (2 : Int32)) = (0 : Int32))))), .val (.long j38_s0), .second, .val (.long v45), .second, .val (.long j62_s0), .second, .val (.ref b64), .val (.ref b81), .val (.int (own_b (q0 = j38_s0))), .unset, .unset, .unset, .unset, .unset, .unset] [(.int (1 : Int32))])) target
        refine XS.istore Xg94.here hx rfl (hb hby at_152) rfl (l' := #[.val (.long q0), .second, .val (.long q1), .second, .val (.long q2), .second, .val (.long q3), .second, .val (.int p4), .val (.int (own_b (¬ ((p4 &&& (1 : Int32)) = (0 : Int32))))), .val (.int (own_b (¬ ((p4 &&& (2 : Int32)) = (0 : Int32))))), .val (.long j38_s0), .second, .val (.long v45), .second, .val (.long j62_s0), .second, .val (.ref b64), .val (.ref b81), .val (.int (own_b (q0 = j38_s0))), .val (.int (1 : Int32)), .unset, .unset, .unset, .unset, .unset]) rfl ?_
        show Steps p.tables e below (Tg94.setTop (mkF m 154 #[.val (.long q0), .second, .val (.long q1), .second, .val (.long q2), .second, .val (.long q3), .second, .val (.int p4), .val (.int (own_b (¬ ((p4 &&& (1 : Int32)) = (0 : Int32))))), .val (.int (own_b (¬ ((p4 &&& (2 : Int32)) = (0 : Int32))))), .val (.long j38_s0), .second, .val (.long v45), .second, .val (.long j62_s0), .second, .val (.ref b64), .val (.ref b81), .val (.int (own_b (q0 = j38_s0))), .val (.int (1 : Int32)), .unset, .unset, .unset, .unset, .unset] [])) target
        refine XS.iconst Xg94.here hx rfl (hb hby at_154) ?_
        show Steps p.tables e below (Tg94.setTop (mkF m 155 #[.val (.long q0), .second, .val (.long q1), .second, .val (.long q2), .second, .val (.long q3), .second, .val (.int p4), .val (.int (own_b (¬ ((p4 &&& (1 : Int32)) = (0 : Int32))))), .val (.int (own_b (¬ ((p4 &&& (2 : Int32)) = (0 : Int32))))), .val (.long j38_s0), .second, .val (.long v45), .second, .val (.long j62_s0), .second, .val (.ref b64), .val (.ref b81), .val (.int (own_b (q0 = j38_s0))), .val (.int (1 : Int32)), .unset, .unset, .unset, .unset, .unset] [(.int (1 : Int32))])) target
        refine XS.istore Xg94.here hx rfl (hb hby at_155) rfl (l' := #[.val (.long q0), .second, .val (.long q1), .second, .val (.long q2), .second, .val (.long q3), .second, .val (.int p4), .val (.int (own_b (¬ ((p4 &&& (1 : Int32)) = (0 : Int32))))), .val (.int (own_b (¬ ((p4 &&& (2 : Int32)) = (0 : Int32))))), .val (.long j38_s0), .second, .val (.long v45), .second, .val (.long j62_s0), .second, .val (.ref b64), .val (.ref b81), .val (.int (own_b (q0 = j38_s0))), .val (.int (1 : Int32)), .val (.int (1 : Int32)), .unset, .unset, .unset, .unset]) rfl ?_
        exact kt
      exact ⟨_, ⟨(1 : Int32), (1 : Int32), rfl, (own_b1 (Or.inl c115)).symm, (own_b1 (Or.inl c115)).symm⟩, fun _ k => k⟩
  refine own_st st_M157 ?_
  refine own_st (B := Tg94.setTop (mkF m 161 #[.val (.long q0), .second, .val (.long q1), .second, .val (.long q2), .second, .val (.long q3), .second, .val (.int p4), .val (.int (own_b (¬ ((p4 &&& (1 : Int32)) = (0 : Int32))))), .val (.int (own_b (¬ ((p4 &&& (2 : Int32)) = (0 : Int32))))), .val (.long j38_s0), .second, .val (.long v45), .second, .val (.long j62_s0), .second, .val (.ref b64), .val (.ref b81), .val (.int (own_b (q0 = j38_s0))), .val (.int (own_b (¬ (q0 = j38_s0) ∨ (j62_s0 < v45)))), .val (.int (own_b (¬ (q0 = j38_s0) ∨ (v45 < j62_s0)))), .unset, .unset, .unset, .unset] [(.ref b81), (.ref b64)])) (fun target kt => ?_) ?_
  · show Steps p.tables e below (Tg94.setTop (mkF m 157 #[.val (.long q0), .second, .val (.long q1), .second, .val (.long q2), .second, .val (.long q3), .second, .val (.int p4), .val (.int (own_b (¬ ((p4 &&& (1 : Int32)) = (0 : Int32))))), .val (.int (own_b (¬ ((p4 &&& (2 : Int32)) = (0 : Int32))))), .val (.long j38_s0), .second, .val (.long v45), .second, .val (.long j62_s0), .second, .val (.ref b64), .val (.ref b81), .val (.int (own_b (q0 = j38_s0))), .val (.int (own_b (¬ (q0 = j38_s0) ∨ (j62_s0 < v45)))), .val (.int (own_b (¬ (q0 = j38_s0) ∨ (v45 < j62_s0)))), .unset, .unset, .unset, .unset] [])) target
    refine XS.aload Xg94.here hx rfl (hb hby at_157) rfl rfl ?_
    show Steps p.tables e below (Tg94.setTop (mkF m 159 #[.val (.long q0), .second, .val (.long q1), .second, .val (.long q2), .second, .val (.long q3), .second, .val (.int p4), .val (.int (own_b (¬ ((p4 &&& (1 : Int32)) = (0 : Int32))))), .val (.int (own_b (¬ ((p4 &&& (2 : Int32)) = (0 : Int32))))), .val (.long j38_s0), .second, .val (.long v45), .second, .val (.long j62_s0), .second, .val (.ref b64), .val (.ref b81), .val (.int (own_b (q0 = j38_s0))), .val (.int (own_b (¬ (q0 = j38_s0) ∨ (j62_s0 < v45)))), .val (.int (own_b (¬ (q0 = j38_s0) ∨ (v45 < j62_s0)))), .unset, .unset, .unset, .unset] [(.ref b64)])) target
    refine XS.aload Xg94.here hx rfl (hb hby at_159) rfl rfl ?_
    exact kt
  obtain ⟨cqg161, kqg161, qg161a, qg161b, qg161c⟩ := isOf hZ rfl F_68
  obtain ⟨_, _, ⟨Tg161, Lg161, kg161, ng161⟩, -, Xg161, ⟨Lcg161, hQg161, lg161, yg161, zg161⟩, stg161⟩ := Xg94.virtualBack hx (y := (⟨"ringward/Message$Post", "isAfter", "(Lringward/Message$Post;)Z"⟩ : MethodName)) (z := (⟨"ringward/Message$Post", "isAfter", "(Lringward/Message$Post;)Z"⟩ : MethodName)) hown (mvT hZ (hw _ (List.mem_of_getElem? (i := 92) rfl))) (mvT hZ (hw _ (List.mem_of_getElem? (i := 93) rfl))) (notFace_of_selects (args := #[]) (mvT hZ (hw _ (List.mem_of_getElem? (i := 95) rfl)))) (mvT hZ (hw _ (List.mem_of_getElem? (i := 95) rfl))) (mvT hZ (hw _ (List.mem_of_getElem? (i := 94) rfl))) (by decide) (backOf (W := 0) (own_rm16 l Z a0 hw [] b64 b81 q0 v45 j38_s0 j62_s0 Tg94.heap n0 Zz_6 F_68 F_70 F_71 F_64 F_65) hZ (hw _ (List.mem_of_getElem? (i := 96) rfl)) (hw _ (List.mem_of_getElem? (i := 7) rfl)) (by decide) (by decide)) qg161a qg161c (g := (mkF m 161 #[.val (.long q0), .second, .val (.long q1), .second, .val (.long q2), .second, .val (.long q3), .second, .val (.int p4), .val (.int (own_b (¬ ((p4 &&& (1 : Int32)) = (0 : Int32))))), .val (.int (own_b (¬ ((p4 &&& (2 : Int32)) = (0 : Int32))))), .val (.long j38_s0), .second, .val (.long v45), .second, .val (.long j62_s0), .second, .val (.ref b64), .val (.ref b81), .val (.int (own_b (q0 = j38_s0))), .val (.int (own_b (¬ (q0 = j38_s0) ∨ (j62_s0 < v45)))), .val (.int (own_b (¬ (q0 = j38_s0) ∨ (v45 < j62_s0)))), .unset, .unset, .unset, .unset] [(.ref b81), (.ref b64)])) rfl (by rw [hml]; rfl) (Steps.refl _) (argsL := [(.ref b81)]) (rest := []) (lenOf own_pd13 rfl) rfl (by show 2 * 0 + _ ≤ _; exact Nat.le_of_eq rfl) (hb hby at_161) (fun _ _ => ⟨rfl, rfl, (by decide : 16 + 0 ≤ _), (by decide : 434 + 0 ≤ _)⟩)
  dsimp only [Pt.U, Pt.locs, Pt.cells, Pt.slots] at Xg161 lg161 yg161 zg161 stg161 hQg161
  subst lg161 yg161 zg161
  obtain ⟨rfl, Ng161q, eg161⟩ := hQg161
  have Ng161 := Fr.app Ng94 Ng161q
  refine own_st (fun _ k => stg161.trans k) ?_
  refine own_st (B := Tg161.setTop (mkF m 170 #[.val (.long q0), .second, .val (.long q1), .second, .val (.long q2), .second, .val (.long q3), .second, .val (.int p4), .val (.int (own_b (¬ ((p4 &&& (1 : Int32)) = (0 : Int32))))), .val (.int (own_b (¬ ((p4 &&& (2 : Int32)) = (0 : Int32))))), .val (.long j38_s0), .second, .val (.long v45), .second, .val (.long j62_s0), .second, .val (.ref b64), .val (.ref b81), .val (.int (own_b (q0 = j38_s0))), .val (.int (own_b (¬ (q0 = j38_s0) ∨ (j62_s0 < v45)))), .val (.int (own_b (¬ (q0 = j38_s0) ∨ (v45 < j62_s0)))), .val (.int (own_b (¬ (q0 = j38_s0) ∨ (j62_s0 < v45)))), .unset, .unset, .unset] [(.ref b64), (.ref b81)])) (fun target kt => ?_) ?_
  · show Steps p.tables e below (Tg161.setTop (mkF m 164 #[.val (.long q0), .second, .val (.long q1), .second, .val (.long q2), .second, .val (.long q3), .second, .val (.int p4), .val (.int (own_b (¬ ((p4 &&& (1 : Int32)) = (0 : Int32))))), .val (.int (own_b (¬ ((p4 &&& (2 : Int32)) = (0 : Int32))))), .val (.long j38_s0), .second, .val (.long v45), .second, .val (.long j62_s0), .second, .val (.ref b64), .val (.ref b81), .val (.int (own_b (q0 = j38_s0))), .val (.int (own_b (¬ (q0 = j38_s0) ∨ (j62_s0 < v45)))), .val (.int (own_b (¬ (q0 = j38_s0) ∨ (v45 < j62_s0)))), .unset, .unset, .unset, .unset] [(.int (own_b (¬ (q0 = j38_s0) ∨ (j62_s0 < v45))))])) target
    refine XS.istore Xg161.here hx rfl (hb hby at_164) rfl (l' := #[.val (.long q0), .second, .val (.long q1), .second, .val (.long q2), .second, .val (.long q3), .second, .val (.int p4), .val (.int (own_b (¬ ((p4 &&& (1 : Int32)) = (0 : Int32))))), .val (.int (own_b (¬ ((p4 &&& (2 : Int32)) = (0 : Int32))))), .val (.long j38_s0), .second, .val (.long v45), .second, .val (.long j62_s0), .second, .val (.ref b64), .val (.ref b81), .val (.int (own_b (q0 = j38_s0))), .val (.int (own_b (¬ (q0 = j38_s0) ∨ (j62_s0 < v45)))), .val (.int (own_b (¬ (q0 = j38_s0) ∨ (v45 < j62_s0)))), .val (.int (own_b (¬ (q0 = j38_s0) ∨ (j62_s0 < v45)))), .unset, .unset, .unset]) rfl ?_
    show Steps p.tables e below (Tg161.setTop (mkF m 166 #[.val (.long q0), .second, .val (.long q1), .second, .val (.long q2), .second, .val (.long q3), .second, .val (.int p4), .val (.int (own_b (¬ ((p4 &&& (1 : Int32)) = (0 : Int32))))), .val (.int (own_b (¬ ((p4 &&& (2 : Int32)) = (0 : Int32))))), .val (.long j38_s0), .second, .val (.long v45), .second, .val (.long j62_s0), .second, .val (.ref b64), .val (.ref b81), .val (.int (own_b (q0 = j38_s0))), .val (.int (own_b (¬ (q0 = j38_s0) ∨ (j62_s0 < v45)))), .val (.int (own_b (¬ (q0 = j38_s0) ∨ (v45 < j62_s0)))), .val (.int (own_b (¬ (q0 = j38_s0) ∨ (j62_s0 < v45)))), .unset, .unset, .unset] [])) target
    refine XS.aload Xg161.here hx rfl (hb hby at_166) rfl rfl ?_
    show Steps p.tables e below (Tg161.setTop (mkF m 168 #[.val (.long q0), .second, .val (.long q1), .second, .val (.long q2), .second, .val (.long q3), .second, .val (.int p4), .val (.int (own_b (¬ ((p4 &&& (1 : Int32)) = (0 : Int32))))), .val (.int (own_b (¬ ((p4 &&& (2 : Int32)) = (0 : Int32))))), .val (.long j38_s0), .second, .val (.long v45), .second, .val (.long j62_s0), .second, .val (.ref b64), .val (.ref b81), .val (.int (own_b (q0 = j38_s0))), .val (.int (own_b (¬ (q0 = j38_s0) ∨ (j62_s0 < v45)))), .val (.int (own_b (¬ (q0 = j38_s0) ∨ (v45 < j62_s0)))), .val (.int (own_b (¬ (q0 = j38_s0) ∨ (j62_s0 < v45)))), .unset, .unset, .unset] [(.ref b81)])) target
    refine XS.aload Xg161.here hx rfl (hb hby at_168) rfl rfl ?_
    exact kt
  obtain ⟨cqg170, kqg170, qg170a, qg170b, qg170c⟩ := isOf hZ eg161 F_62
  obtain ⟨_, _, ⟨Tg170, Lg170, kg170, ng170⟩, -, Xg170, ⟨Lcg170, hQg170, lg170, yg170, zg170⟩, stg170⟩ := Xg161.virtualBack hx (y := (⟨"ringward/Message$Post", "isAfter", "(Lringward/Message$Post;)Z"⟩ : MethodName)) (z := (⟨"ringward/Message$Post", "isAfter", "(Lringward/Message$Post;)Z"⟩ : MethodName)) hown (mvT hZ (hw _ (List.mem_of_getElem? (i := 92) rfl))) (mvT hZ (hw _ (List.mem_of_getElem? (i := 93) rfl))) (notFace_of_selects (args := #[]) (mvT hZ (hw _ (List.mem_of_getElem? (i := 95) rfl)))) (mvT hZ (hw _ (List.mem_of_getElem? (i := 95) rfl))) (mvT hZ (hw _ (List.mem_of_getElem? (i := 94) rfl))) (by decide) (backOf (W := 0) (own_rm16 l Z a0 hw [] b81 b64 j38_s0 j62_s0 q0 v45 Tg94.heap n0 Zz_6 F_62 F_64 F_65 F_70 F_71) hZ (hw _ (List.mem_of_getElem? (i := 96) rfl)) (hw _ (List.mem_of_getElem? (i := 7) rfl)) (by decide) (by decide)) qg170a qg170c (g := (mkF m 170 #[.val (.long q0), .second, .val (.long q1), .second, .val (.long q2), .second, .val (.long q3), .second, .val (.int p4), .val (.int (own_b (¬ ((p4 &&& (1 : Int32)) = (0 : Int32))))), .val (.int (own_b (¬ ((p4 &&& (2 : Int32)) = (0 : Int32))))), .val (.long j38_s0), .second, .val (.long v45), .second, .val (.long j62_s0), .second, .val (.ref b64), .val (.ref b81), .val (.int (own_b (q0 = j38_s0))), .val (.int (own_b (¬ (q0 = j38_s0) ∨ (j62_s0 < v45)))), .val (.int (own_b (¬ (q0 = j38_s0) ∨ (v45 < j62_s0)))), .val (.int (own_b (¬ (q0 = j38_s0) ∨ (j62_s0 < v45)))), .unset, .unset, .unset] [(.ref b64), (.ref b81)])) rfl (by rw [hml]; rfl) (Steps.refl _) (argsL := [(.ref b64)]) (rest := []) (lenOf own_pd13 rfl) rfl (by show 2 * 0 + _ ≤ _; exact Nat.le_of_eq rfl) (hb hby at_170) (fun _ _ => ⟨rfl, eg161, (by decide : 16 + 0 ≤ _), (by decide : 434 + 0 ≤ _)⟩)
  dsimp only [Pt.U, Pt.locs, Pt.cells, Pt.slots] at Xg170 lg170 yg170 zg170 stg170 hQg170
  subst lg170 yg170 zg170
  obtain ⟨rfl, Ng170q, eg170⟩ := hQg170
  have Ng170 := Fr.app Ng161 Ng170q
  refine own_st (fun _ k => stg170.trans k) ?_
  refine own_st (B := Tg170.setTop (mkF m 179 #[.val (.long q0), .second, .val (.long q1), .second, .val (.long q2), .second, .val (.long q3), .second, .val (.int p4), .val (.int (own_b (¬ ((p4 &&& (1 : Int32)) = (0 : Int32))))), .val (.int (own_b (¬ ((p4 &&& (2 : Int32)) = (0 : Int32))))), .val (.long j38_s0), .second, .val (.long v45), .second, .val (.long j62_s0), .second, .val (.ref b64), .val (.ref b81), .val (.int (own_b (q0 = j38_s0))), .val (.int (own_b (¬ (q0 = j38_s0) ∨ (j62_s0 < v45)))), .val (.int (own_b (¬ (q0 = j38_s0) ∨ (v45 < j62_s0)))), .val (.int (own_b (¬ (q0 = j38_s0) ∨ (j62_s0 < v45)))), .val (.int (own_b (¬ (j38_s0 = q0) ∨ (v45 < j62_s0)))), .unset, .unset] [(.ref b64), (.ref b64)])) (fun target kt => ?_) ?_
  · show Steps p.tables e below (Tg170.setTop (mkF m 173 #[.val (.long q0), .second, .val (.long q1), .second, .val (.long q2), .second, .val (.long q3), .second, .val (.int p4), .val (.int (own_b (¬ ((p4 &&& (1 : Int32)) = (0 : Int32))))), .val (.int (own_b (¬ ((p4 &&& (2 : Int32)) = (0 : Int32))))), .val (.long j38_s0), .second, .val (.long v45), .second, .val (.long j62_s0), .second, .val (.ref b64), .val (.ref b81), .val (.int (own_b (q0 = j38_s0))), .val (.int (own_b (¬ (q0 = j38_s0) ∨ (j62_s0 < v45)))), .val (.int (own_b (¬ (q0 = j38_s0) ∨ (v45 < j62_s0)))), .val (.int (own_b (¬ (q0 = j38_s0) ∨ (j62_s0 < v45)))), .unset, .unset, .unset] [(.int (own_b (¬ (j38_s0 = q0) ∨ (v45 < j62_s0))))])) target
    refine XS.istore Xg170.here hx rfl (hb hby at_173) rfl (l' := #[.val (.long q0), .second, .val (.long q1), .second, .val (.long q2), .second, .val (.long q3), .second, .val (.int p4), .val (.int (own_b (¬ ((p4 &&& (1 : Int32)) = (0 : Int32))))), .val (.int (own_b (¬ ((p4 &&& (2 : Int32)) = (0 : Int32))))), .val (.long j38_s0), .second, .val (.long v45), .second, .val (.long j62_s0), .second, .val (.ref b64), .val (.ref b81), .val (.int (own_b (q0 = j38_s0))), .val (.int (own_b (¬ (q0 = j38_s0) ∨ (j62_s0 < v45)))), .val (.int (own_b (¬ (q0 = j38_s0) ∨ (v45 < j62_s0)))), .val (.int (own_b (¬ (q0 = j38_s0) ∨ (j62_s0 < v45)))), .val (.int (own_b (¬ (j38_s0 = q0) ∨ (v45 < j62_s0)))), .unset, .unset]) rfl ?_
    show Steps p.tables e below (Tg170.setTop (mkF m 175 #[.val (.long q0), .second, .val (.long q1), .second, .val (.long q2), .second, .val (.long q3), .second, .val (.int p4), .val (.int (own_b (¬ ((p4 &&& (1 : Int32)) = (0 : Int32))))), .val (.int (own_b (¬ ((p4 &&& (2 : Int32)) = (0 : Int32))))), .val (.long j38_s0), .second, .val (.long v45), .second, .val (.long j62_s0), .second, .val (.ref b64), .val (.ref b81), .val (.int (own_b (q0 = j38_s0))), .val (.int (own_b (¬ (q0 = j38_s0) ∨ (j62_s0 < v45)))), .val (.int (own_b (¬ (q0 = j38_s0) ∨ (v45 < j62_s0)))), .val (.int (own_b (¬ (q0 = j38_s0) ∨ (j62_s0 < v45)))), .val (.int (own_b (¬ (j38_s0 = q0) ∨ (v45 < j62_s0)))), .unset, .unset] [])) target
    refine XS.aload Xg170.here hx rfl (hb hby at_175) rfl rfl ?_
    show Steps p.tables e below (Tg170.setTop (mkF m 177 #[.val (.long q0), .second, .val (.long q1), .second, .val (.long q2), .second, .val (.long q3), .second, .val (.int p4), .val (.int (own_b (¬ ((p4 &&& (1 : Int32)) = (0 : Int32))))), .val (.int (own_b (¬ ((p4 &&& (2 : Int32)) = (0 : Int32))))), .val (.long j38_s0), .second, .val (.long v45), .second, .val (.long j62_s0), .second, .val (.ref b64), .val (.ref b81), .val (.int (own_b (q0 = j38_s0))), .val (.int (own_b (¬ (q0 = j38_s0) ∨ (j62_s0 < v45)))), .val (.int (own_b (¬ (q0 = j38_s0) ∨ (v45 < j62_s0)))), .val (.int (own_b (¬ (q0 = j38_s0) ∨ (j62_s0 < v45)))), .val (.int (own_b (¬ (j38_s0 = q0) ∨ (v45 < j62_s0)))), .unset, .unset] [(.ref b64)])) target
    refine XS.aload Xg170.here hx rfl (hb hby at_177) rfl rfl ?_
    exact kt
  obtain ⟨cqg179, kqg179, qg179a, qg179b, qg179c⟩ := isOf hZ eg170 F_68
  obtain ⟨_, _, ⟨Tg179, Lg179, kg179, ng179⟩, -, Xg179, ⟨Lcg179, hQg179, lg179, yg179, zg179⟩, stg179⟩ := Xg170.virtualBack hx (y := (⟨"ringward/Message$Post", "isAfter", "(Lringward/Message$Post;)Z"⟩ : MethodName)) (z := (⟨"ringward/Message$Post", "isAfter", "(Lringward/Message$Post;)Z"⟩ : MethodName)) hown (mvT hZ (hw _ (List.mem_of_getElem? (i := 92) rfl))) (mvT hZ (hw _ (List.mem_of_getElem? (i := 93) rfl))) (notFace_of_selects (args := #[]) (mvT hZ (hw _ (List.mem_of_getElem? (i := 95) rfl)))) (mvT hZ (hw _ (List.mem_of_getElem? (i := 95) rfl))) (mvT hZ (hw _ (List.mem_of_getElem? (i := 94) rfl))) (by decide) (backOf (W := 0) (own_rm16 l Z a0 hw [] b64 b64 q0 v45 q0 v45 Tg94.heap n0 Zz_6 F_68 F_70 F_71 F_70 F_71) hZ (hw _ (List.mem_of_getElem? (i := 96) rfl)) (hw _ (List.mem_of_getElem? (i := 7) rfl)) (by decide) (by decide)) qg179a qg179c (g := (mkF m 179 #[.val (.long q0), .second, .val (.long q1), .second, .val (.long q2), .second, .val (.long q3), .second, .val (.int p4), .val (.int (own_b (¬ ((p4 &&& (1 : Int32)) = (0 : Int32))))), .val (.int (own_b (¬ ((p4 &&& (2 : Int32)) = (0 : Int32))))), .val (.long j38_s0), .second, .val (.long v45), .second, .val (.long j62_s0), .second, .val (.ref b64), .val (.ref b81), .val (.int (own_b (q0 = j38_s0))), .val (.int (own_b (¬ (q0 = j38_s0) ∨ (j62_s0 < v45)))), .val (.int (own_b (¬ (q0 = j38_s0) ∨ (v45 < j62_s0)))), .val (.int (own_b (¬ (q0 = j38_s0) ∨ (j62_s0 < v45)))), .val (.int (own_b (¬ (j38_s0 = q0) ∨ (v45 < j62_s0)))), .unset, .unset] [(.ref b64), (.ref b64)])) rfl (by rw [hml]; rfl) (Steps.refl _) (argsL := [(.ref b64)]) (rest := []) (lenOf own_pd13 rfl) rfl (by show 2 * 0 + _ ≤ _; exact Nat.le_of_eq rfl) (hb hby at_179) (fun _ _ => ⟨rfl, eg170, (by decide : 16 + 0 ≤ _), (by decide : 434 + 0 ≤ _)⟩)
  dsimp only [Pt.U, Pt.locs, Pt.cells, Pt.slots] at Xg179 lg179 yg179 zg179 stg179 hQg179
  subst lg179 yg179 zg179
  obtain ⟨rfl, Ng179q, eg179⟩ := hQg179
  have Ng179 := Fr.app Ng170 Ng179q
  refine own_st (fun _ k => stg179.trans k) ?_
  refine own_st (B := Tg179.setTop (mkF m 186 #[.val (.long q0), .second, .val (.long q1), .second, .val (.long q2), .second, .val (.long q3), .second, .val (.int p4), .val (.int (own_b (¬ ((p4 &&& (1 : Int32)) = (0 : Int32))))), .val (.int (own_b (¬ ((p4 &&& (2 : Int32)) = (0 : Int32))))), .val (.long j38_s0), .second, .val (.long v45), .second, .val (.long j62_s0), .second, .val (.ref b64), .val (.ref b81), .val (.int (own_b (q0 = j38_s0))), .val (.int (own_b (¬ (q0 = j38_s0) ∨ (j62_s0 < v45)))), .val (.int (own_b (¬ (q0 = j38_s0) ∨ (v45 < j62_s0)))), .val (.int (own_b (¬ (q0 = j38_s0) ∨ (j62_s0 < v45)))), .val (.int (own_b (¬ (j38_s0 = q0) ∨ (v45 < j62_s0)))), .val (.int (own_b (¬ (q0 = q0) ∨ (v45 < v45)))), .unset] [(.int (own_b (q0 = j38_s0)))])) (fun target kt => ?_) ?_
  · show Steps p.tables e below (Tg179.setTop (mkF m 182 #[.val (.long q0), .second, .val (.long q1), .second, .val (.long q2), .second, .val (.long q3), .second, .val (.int p4), .val (.int (own_b (¬ ((p4 &&& (1 : Int32)) = (0 : Int32))))), .val (.int (own_b (¬ ((p4 &&& (2 : Int32)) = (0 : Int32))))), .val (.long j38_s0), .second, .val (.long v45), .second, .val (.long j62_s0), .second, .val (.ref b64), .val (.ref b81), .val (.int (own_b (q0 = j38_s0))), .val (.int (own_b (¬ (q0 = j38_s0) ∨ (j62_s0 < v45)))), .val (.int (own_b (¬ (q0 = j38_s0) ∨ (v45 < j62_s0)))), .val (.int (own_b (¬ (q0 = j38_s0) ∨ (j62_s0 < v45)))), .val (.int (own_b (¬ (j38_s0 = q0) ∨ (v45 < j62_s0)))), .unset, .unset] [(.int (own_b (¬ (q0 = q0) ∨ (v45 < v45))))])) target
    refine XS.istore Xg179.here hx rfl (hb hby at_182) rfl (l' := #[.val (.long q0), .second, .val (.long q1), .second, .val (.long q2), .second, .val (.long q3), .second, .val (.int p4), .val (.int (own_b (¬ ((p4 &&& (1 : Int32)) = (0 : Int32))))), .val (.int (own_b (¬ ((p4 &&& (2 : Int32)) = (0 : Int32))))), .val (.long j38_s0), .second, .val (.long v45), .second, .val (.long j62_s0), .second, .val (.ref b64), .val (.ref b81), .val (.int (own_b (q0 = j38_s0))), .val (.int (own_b (¬ (q0 = j38_s0) ∨ (j62_s0 < v45)))), .val (.int (own_b (¬ (q0 = j38_s0) ∨ (v45 < j62_s0)))), .val (.int (own_b (¬ (q0 = j38_s0) ∨ (j62_s0 < v45)))), .val (.int (own_b (¬ (j38_s0 = q0) ∨ (v45 < j62_s0)))), .val (.int (own_b (¬ (q0 = q0) ∨ (v45 < v45)))), .unset]) rfl ?_
    show Steps p.tables e below (Tg179.setTop (mkF m 184 #[.val (.long q0), .second, .val (.long q1), .second, .val (.long q2), .second, .val (.long q3), .second, .val (.int p4), .val (.int (own_b (¬ ((p4 &&& (1 : Int32)) = (0 : Int32))))), .val (.int (own_b (¬ ((p4 &&& (2 : Int32)) = (0 : Int32))))), .val (.long j38_s0), .second, .val (.long v45), .second, .val (.long j62_s0), .second, .val (.ref b64), .val (.ref b81), .val (.int (own_b (q0 = j38_s0))), .val (.int (own_b (¬ (q0 = j38_s0) ∨ (j62_s0 < v45)))), .val (.int (own_b (¬ (q0 = j38_s0) ∨ (v45 < j62_s0)))), .val (.int (own_b (¬ (q0 = j38_s0) ∨ (j62_s0 < v45)))), .val (.int (own_b (¬ (j38_s0 = q0) ∨ (v45 < j62_s0)))), .val (.int (own_b (¬ (q0 = q0) ∨ (v45 < v45)))), .unset] [])) target
    refine XS.iload Xg179.here hx rfl (hb hby at_184) rfl ?_
    exact kt
  obtain ⟨_, ⟨j204_s0, rfl, rfl⟩, st_M204⟩ : own_Lead p.tables e below (Tg179.setTop (mkF m 186 #[.val (.long q0), .second, .val (.long q1), .second, .val (.long q2), .second, .val (.long q3), .second, .val (.int p4), .val (.int (own_b (¬ ((p4 &&& (1 : Int32)) = (0 : Int32))))), .val (.int (own_b (¬ ((p4 &&& (2 : Int32)) = (0 : Int32))))), .val (.long j38_s0), .second, .val (.long v45), .second, .val (.long j62_s0), .second, .val (.ref b64), .val (.ref b81), .val (.int (own_b (q0 = j38_s0))), .val (.int (own_b (¬ (q0 = j38_s0) ∨ (j62_s0 < v45)))), .val (.int (own_b (¬ (q0 = j38_s0) ∨ (v45 < j62_s0)))), .val (.int (own_b (¬ (q0 = j38_s0) ∨ (j62_s0 < v45)))), .val (.int (own_b (¬ (j38_s0 = q0) ∨ (v45 < j62_s0)))), .val (.int (own_b (¬ (q0 = q0) ∨ (v45 < v45)))), .unset] [(.int (own_b (q0 = j38_s0)))])) (fun B => ∃ (j204_s0 : Int32), B = Tg179.setTop (mkF m 204 #[.val (.long q0), .second, .val (.long q1), .second, .val (.long q2), .second, .val (.long q3), .second, .val (.int p4), .val (.int (own_b (¬ ((p4 &&& (1 : Int32)) = (0 : Int32))))), .val (.int (own_b (¬ ((p4 &&& (2 : Int32)) = (0 : Int32))))), .val (.long j38_s0), .second, .val (.long v45), .second, .val (.long j62_s0), .second, .val (.ref b64), .val (.ref b81), .val (.int (own_b (q0 = j38_s0))), .val (.int (own_b (¬ (q0 = j38_s0) ∨ (j62_s0 < v45)))), .val (.int (own_b (¬ (q0 = j38_s0) ∨ (v45 < j62_s0)))), .val (.int (own_b (¬ (q0 = j38_s0) ∨ (j62_s0 < v45)))), .val (.int (own_b (¬ (j38_s0 = q0) ∨ (v45 < j62_s0)))), .val (.int (own_b (¬ (q0 = q0) ∨ (v45 < v45)))), .unset] [(.int j204_s0)]) ∧ j204_s0 = own_b ((¬ (q0 = j38_s0) ∨ ((¬ (¬ (q0 = j38_s0) ∨ (j62_s0 < v45)) ∨ (¬ (¬ (j38_s0 = q0) ∨ (v45 < j62_s0)))))))) := by
    by_cases c186 : q0 = j38_s0
    · refine own_st (B := Tg179.setTop (mkF m 191 #[.val (.long q0), .second, .val (.long q1), .second, .val (.long q2), .second, .val (.long q3), .second, .val (.int p4), .val (.int (own_b (¬ ((p4 &&& (1 : Int32)) = (0 : Int32))))), .val (.int (own_b (¬ ((p4 &&& (2 : Int32)) = (0 : Int32))))), .val (.long j38_s0), .second, .val (.long v45), .second, .val (.long j62_s0), .second, .val (.ref b64), .val (.ref b81), .val (.int (own_b (q0 = j38_s0))), .val (.int (own_b (¬ (q0 = j38_s0) ∨ (j62_s0 < v45)))), .val (.int (own_b (¬ (q0 = j38_s0) ∨ (v45 < j62_s0)))), .val (.int (own_b (¬ (q0 = j38_s0) ∨ (j62_s0 < v45)))), .val (.int (own_b (¬ (j38_s0 = q0) ∨ (v45 < j62_s0)))), .val (.int (own_b (¬ (q0 = q0) ∨ (v45 < v45)))), .unset] [(.int (own_b (¬ (q0 = j38_s0) ∨ (j62_s0 < v45))))])) (fun target kt => ?_) ?_
      · show Steps p.tables e below (Tg179.setTop (mkF m 186 #[.val (.long q0), .second, .val (.long q1), .second, .val (.long q2), .second, .val (.long q3), .second, .val (.int p4), .val (.int (own_b (¬ ((p4 &&& (1 : Int32)) = (0 : Int32))))), .val (.int (own_b (¬ ((p4 &&& (2 : Int32)) = (0 : Int32))))), .val (.long j38_s0), .second, .val (.long v45), .second, .val (.long j62_s0), .second, .val (.ref b64), .val (.ref b81), .val (.int (own_b (q0 = j38_s0))), .val (.int (own_b (¬ (q0 = j38_s0) ∨ (j62_s0 < v45)))), .val (.int (own_b (¬ (q0 = j38_s0) ∨ (v45 < j62_s0)))), .val (.int (own_b (¬ (q0 = j38_s0) ∨ (j62_s0 < v45)))), .val (.int (own_b (¬ (j38_s0 = q0) ∨ (v45 < j62_s0)))), .val (.int (own_b (¬ (q0 = q0) ∨ (v45 < v45)))), .unset] [(.int (own_b (q0 = j38_s0)))])) target
        refine XS.ifNo Xg179.here hx rfl (hb hby at_186) rfl ((if0 _ _).trans (feq (own_bn0 rfl c186)).1) ?_
        show Steps p.tables e below (Tg179.setTop (mkF m 189 #[.val (.long q0), .second, .val (.long q1), .second, .val (.long q2), .second, .val (.long q3), .second, .val (.int p4), .val (.int (own_b (¬ ((p4 &&& (1 : Int32)) = (0 : Int32))))), .val (.int (own_b (¬ ((p4 &&& (2 : Int32)) = (0 : Int32))))), .val (.long j38_s0), .second, .val (.long v45), .second, .val (.long j62_s0), .second, .val (.ref b64), .val (.ref b81), .val (.int (own_b (q0 = j38_s0))), .val (.int (own_b (¬ (q0 = j38_s0) ∨ (j62_s0 < v45)))), .val (.int (own_b (¬ (q0 = j38_s0) ∨ (v45 < j62_s0)))), .val (.int (own_b (¬ (q0 = j38_s0) ∨ (j62_s0 < v45)))), .val (.int (own_b (¬ (j38_s0 = q0) ∨ (v45 < j62_s0)))), .val (.int (own_b (¬ (q0 = q0) ∨ (v45 < v45)))), .unset] [])) target
        refine XS.iload Xg179.here hx rfl (hb hby at_189) rfl ?_
        exact kt
      by_cases c191 : ¬ (q0 = j38_s0) ∨ (j62_s0 < v45)
      · refine own_st (B := Tg179.setTop (mkF m 196 #[.val (.long q0), .second, .val (.long q1), .second, .val (.long q2), .second, .val (.long q3), .second, .val (.int p4), .val (.int (own_b (¬ ((p4 &&& (1 : Int32)) = (0 : Int32))))), .val (.int (own_b (¬ ((p4 &&& (2 : Int32)) = (0 : Int32))))), .val (.long j38_s0), .second, .val (.long v45), .second, .val (.long j62_s0), .second, .val (.ref b64), .val (.ref b81), .val (.int (own_b (q0 = j38_s0))), .val (.int (own_b (¬ (q0 = j38_s0) ∨ (j62_s0 < v45)))), .val (.int (own_b (¬ (q0 = j38_s0) ∨ (v45 < j62_s0)))), .val (.int (own_b (¬ (q0 = j38_s0) ∨ (j62_s0 < v45)))), .val (.int (own_b (¬ (j38_s0 = q0) ∨ (v45 < j62_s0)))), .val (.int (own_b (¬ (q0 = q0) ∨ (v45 < v45)))), .unset] [(.int (own_b (¬ (j38_s0 = q0) ∨ (v45 < j62_s0))))])) (fun target kt => ?_) ?_
        · show Steps p.tables e below (Tg179.setTop (mkF m 191 #[.val (.long q0), .second, .val (.long q1), .second, .val (.long q2), .second, .val (.long q3), .second, .val (.int p4), .val (.int (own_b (¬ ((p4 &&& (1 : Int32)) = (0 : Int32))))), .val (.int (own_b (¬ ((p4 &&& (2 : Int32)) = (0 : Int32))))), .val (.long j38_s0), .second, .val (.long v45), .second, .val (.long j62_s0), .second, .val (.ref b64), .val (.ref b81), .val (.int (own_b (q0 = j38_s0))), .val (.int (own_b (¬ (q0 = j38_s0) ∨ (j62_s0 < v45)))), .val (.int (own_b (¬ (q0 = j38_s0) ∨ (v45 < j62_s0)))), .val (.int (own_b (¬ (q0 = j38_s0) ∨ (j62_s0 < v45)))), .val (.int (own_b (¬ (j38_s0 = q0) ∨ (v45 < j62_s0)))), .val (.int (own_b (¬ (q0 = q0) ∨ (v45 < v45)))), .unset] [(.int (own_b (¬ (q0 = j38_s0) ∨ (j62_s0 < v45))))])) target
          refine XS.ifNo Xg179.here hx rfl (hb hby at_191) rfl ((if0 _ _).trans (feq (own_bn0 rfl c191)).1) ?_
          show Steps p.tables e below (Tg179.setTop (mkF m 194 #[.val (.long q0), .second, .val (.long q1), .second, .val (.long q2), .second, .val (.long q3), .second, .val (.int p4), .val (.int (own_b (¬ ((p4 &&& (1 : Int32)) = (0 : Int32))))), .val (.int (own_b (¬ ((p4 &&& (2 : Int32)) = (0 : Int32))))), .val (.long j38_s0), .second, .val (.long v45), .second, .val (.long j62_s0), .second, .val (.ref b64), .val (.ref b81), .val (.int (own_b (q0 = j38_s0))), .val (.int (own_b (¬ (q0 = j38_s0) ∨ (j62_s0 < v45)))), .val (.int (own_b (¬ (q0 = j38_s0) ∨ (v45 < j62_s0)))), .val (.int (own_b (¬ (q0 = j38_s0) ∨ (j62_s0 < v45)))), .val (.int (own_b (¬ (j38_s0 = q0) ∨ (v45 < j62_s0)))), .val (.int (own_b (¬ (q0 = q0) ∨ (v45 < v45)))), .unset] [])) target
          refine XS.iload Xg179.here hx rfl (hb hby at_194) rfl ?_
          exact kt
        by_cases c196 : ¬ (j38_s0 = q0) ∨ (v45 < j62_s0)
        · refine own_st (B := Tg179.setTop (mkF m 204 #[.val (.long q0), .second, .val (.long q1), .second, .val (.long q2), .second, .val (.long q3), .second, .val (.int p4), .val (.int (own_b (¬ ((p4 &&& (1 : Int32)) = (0 : Int32))))), .val (.int (own_b (¬ ((p4 &&& (2 : Int32)) = (0 : Int32))))), .val (.long j38_s0), .second, .val (.long v45), .second, .val (.long j62_s0), .second, .val (.ref b64), .val (.ref b81), .val (.int (own_b (q0 = j38_s0))), .val (.int (own_b (¬ (q0 = j38_s0) ∨ (j62_s0 < v45)))), .val (.int (own_b (¬ (q0 = j38_s0) ∨ (v45 < j62_s0)))), .val (.int (own_b (¬ (q0 = j38_s0) ∨ (j62_s0 < v45)))), .val (.int (own_b (¬ (j38_s0 = q0) ∨ (v45 < j62_s0)))), .val (.int (own_b (¬ (q0 = q0) ∨ (v45 < v45)))), .unset] [(.int (0 : Int32))])) (fun target kt => ?_) ?_
          · show Steps p.tables e below (Tg179.setTop (mkF m 196 #[.val (.long q0), .second, .val (.long q1), .second, .val (.long q2), .second, .val (.long q3), .second, .val (.int p4), .val (.int (own_b (¬ ((p4 &&& (1 : Int32)) = (0 : Int32))))), .val (.int (own_b (¬ ((p4 &&& (2 : Int32)) = (0 : Int32))))), .val (.long j38_s0), .second, .val (.long v45), .second, .val (.long j62_s0), .second, .val (.ref b64), .val (.ref b81), .val (.int (own_b (q0 = j38_s0))), .val (.int (own_b (¬ (q0 = j38_s0) ∨ (j62_s0 < v45)))), .val (.int (own_b (¬ (q0 = j38_s0) ∨ (v45 < j62_s0)))), .val (.int (own_b (¬ (q0 = j38_s0) ∨ (j62_s0 < v45)))), .val (.int (own_b (¬ (j38_s0 = q0) ∨ (v45 < j62_s0)))), .val (.int (own_b (¬ (q0 = q0) ∨ (v45 < v45)))), .unset] [(.int (own_b (¬ (j38_s0 = q0) ∨ (v45 < j62_s0))))])) target
            refine XS.ifYes Xg179.here hx rfl (pc0 := 196) (pc' := 203) rfl (hb hby at_196) rfl ((if0 _ _).trans (feq (own_bn0 rfl c196)).2) (by decide) (by decide) ?_
            show Steps p.tables e below (Tg179.setTop (mkF m 203 #[.val (.long q0), .second, .val (.long q1), .second, .val (.long q2), .second, .val (.long q3), .second, .val (.int p4), .val (.int (own_b (¬ ((p4 &&& (1 : Int32)) = (0 : Int32))))), .val (.int (own_b (¬ ((p4 &&& (2 : Int32)) = (0 : Int32))))), .val (.long j38_s0), .second, .val (.long v45), .second, .val (.long j62_s0), .second, .val (.ref b64), .val (.ref b81), .val (.int (own_b (q0 = j38_s0))), .val (.int (own_b (¬ (q0 = j38_s0) ∨ (j62_s0 < v45)))), .val (.int (own_b (¬ (q0 = j38_s0) ∨ (v45 < j62_s0)))), .val (.int (own_b (¬ (q0 = j38_s0) ∨ (j62_s0 < v45)))), .val (.int (own_b (¬ (j38_s0 = q0) ∨ (v45 < j62_s0)))), .val (.int (own_b (¬ (q0 = q0) ∨ (v45 < v45)))), .unset] [])) target
            refine XS.iconst Xg179.here hx rfl (hb hby at_203) ?_
            exact kt
          exact ⟨_, ⟨(0 : Int32), rfl, (own_b0 (fun w => w.elim (fun n => n c186) (fun w => w.elim (fun n => n c191) (fun w => w c196)))).symm⟩, fun _ k => k⟩
        · refine own_st (B := Tg179.setTop (mkF m 204 #[.val (.long q0), .second, .val (.long q1), .second, .val (.long q2), .second, .val (.long q3), .second, .val (.int p4), .val (.int (own_b (¬ ((p4 &&& (1 : Int32)) = (0 : Int32))))), .val (.int (own_b (¬ ((p4 &&& (2 : Int32)) = (0 : Int32))))), .val (.long j38_s0), .second, .val (.long v45), .second, .val (.long j62_s0), .second, .val (.ref b64), .val (.ref b81), .val (.int (own_b (q0 = j38_s0))), .val (.int (own_b (¬ (q0 = j38_s0) ∨ (j62_s0 < v45)))), .val (.int (own_b (¬ (q0 = j38_s0) ∨ (v45 < j62_s0)))), .val (.int (own_b (¬ (q0 = j38_s0) ∨ (j62_s0 < v45)))), .val (.int (own_b (¬ (j38_s0 = q0) ∨ (v45 < j62_s0)))), .val (.int (own_b (¬ (q0 = q0) ∨ (v45 < v45)))), .unset] [(.int (1 : Int32))])) (fun target kt => ?_) ?_
          · show Steps p.tables e below (Tg179.setTop (mkF m 196 #[.val (.long q0), .second, .val (.long q1), .second, .val (.long q2), .second, .val (.long q3), .second, .val (.int p4), .val (.int (own_b (¬ ((p4 &&& (1 : Int32)) = (0 : Int32))))), .val (.int (own_b (¬ ((p4 &&& (2 : Int32)) = (0 : Int32))))), .val (.long j38_s0), .second, .val (.long v45), .second, .val (.long j62_s0), .second, .val (.ref b64), .val (.ref b81), .val (.int (own_b (q0 = j38_s0))), .val (.int (own_b (¬ (q0 = j38_s0) ∨ (j62_s0 < v45)))), .val (.int (own_b (¬ (q0 = j38_s0) ∨ (v45 < j62_s0)))), .val (.int (own_b (¬ (q0 = j38_s0) ∨ (j62_s0 < v45)))), .val (.int (own_b (¬ (j38_s0 = q0) ∨ (v45 < j62_s0)))), .val (.int (own_b (¬ (q0 = q0) ∨ (v45 < v45)))), .unset] [(.int (own_b (¬ (j38_s0 = q0) ∨ (v45 < j62_s0))))])) target
            refine XS.ifNo Xg179.here hx rfl (hb hby at_196) rfl ((if0 _ _).trans (teq (own_b00 rfl c196)).2) ?_
            show Steps p.tables e below (Tg179.setTop (mkF m 199 #[.val (.long q0), .second, .val (.long q1), .second, .val (.long q2), .second, .val (.long q3), .second, .val (.int p4), .val (.int (own_b (¬ ((p4 &&& (1 : Int32)) = (0 : Int32))))), .val (.int (own_b (¬ ((p4 &&& (2 : Int32)) = (0 : Int32))))), .val (.long j38_s0), .second, .val (.long v45), .second, .val (.long j62_s0), .second, .val (.ref b64), .val (.ref b81), .val (.int (own_b (q0 = j38_s0))), .val (.int (own_b (¬ (q0 = j38_s0) ∨ (j62_s0 < v45)))), .val (.int (own_b (¬ (q0 = j38_s0) ∨ (v45 < j62_s0)))), .val (.int (own_b (¬ (q0 = j38_s0) ∨ (j62_s0 < v45)))), .val (.int (own_b (¬ (j38_s0 = q0) ∨ (v45 < j62_s0)))), .val (.int (own_b (¬ (q0 = q0) ∨ (v45 < v45)))), .unset] [])) target
            refine XS.iconst Xg179.here hx rfl (hb hby at_199) ?_
            show Steps p.tables e below (Tg179.setTop (mkF m 200 #[.val (.long q0), .second, .val (.long q1), .second, .val (.long q2), .second, .val (.long q3), .second, .val (.int p4), .val (.int (own_b (¬ ((p4 &&& (1 : Int32)) = (0 : Int32))))), .val (.int (own_b (¬ ((p4 &&& (2 : Int32)) = (0 : Int32))))), .val (.long j38_s0), .second, .val (.long v45), .second, .val (.long j62_s0), .second, .val (.ref b64), .val (.ref b81), .val (.int (own_b (q0 = j38_s0))), .val (.int (own_b (¬ (q0 = j38_s0) ∨ (j62_s0 < v45)))), .val (.int (own_b (¬ (q0 = j38_s0) ∨ (v45 < j62_s0)))), .val (.int (own_b (¬ (q0 = j38_s0) ∨ (j62_s0 < v45)))), .val (.int (own_b (¬ (j38_s0 = q0) ∨ (v45 < j62_s0)))), .val (.int (own_b (¬ (q0 = q0) ∨ (v45 < v45)))), .unset] [(.int (1 : Int32))])) target
            refine XS.goto Xg179.here hx rfl (pc0 := 200) (pc' := 204) rfl (hb hby at_200) (by decide) (by decide) ?_
            exact kt
          exact ⟨_, ⟨(1 : Int32), rfl, (own_b1 (Or.inr (Or.inr c196))).symm⟩, fun _ k => k⟩
      · refine own_st (B := Tg179.setTop (mkF m 204 #[.val (.long q0), .second, .val (.long q1), .second, .val (.long q2), .second, .val (.long q3), .second, .val (.int p4), .val (.int (own_b (¬ ((p4 &&& (1 : Int32)) = (0 : Int32))))), .val (.int (own_b (¬ ((p4 &&& (2 : Int32)) = (0 : Int32))))), .val (.long j38_s0), .second, .val (.long v45), .second, .val (.long j62_s0), .second, .val (.ref b64), .val (.ref b81), .val (.int (own_b (q0 = j38_s0))), .val (.int (own_b (¬ (q0 = j38_s0) ∨ (j62_s0 < v45)))), .val (.int (own_b (¬ (q0 = j38_s0) ∨ (v45 < j62_s0)))), .val (.int (own_b (¬ (q0 = j38_s0) ∨ (j62_s0 < v45)))), .val (.int (own_b (¬ (j38_s0 = q0) ∨ (v45 < j62_s0)))), .val (.int (own_b (¬ (q0 = q0) ∨ (v45 < v45)))), .unset] [(.int (1 : Int32))])) (fun target kt => ?_) ?_
        · show Steps p.tables e below (Tg179.setTop (mkF m 191 #[.val (.long q0), .second, .val (.long q1), .second, .val (.long q2), .second, .val (.long q3), .second, .val (.int p4), .val (.int (own_b (¬ ((p4 &&& (1 : Int32)) = (0 : Int32))))), .val (.int (own_b (¬ ((p4 &&& (2 : Int32)) = (0 : Int32))))), .val (.long j38_s0), .second, .val (.long v45), .second, .val (.long j62_s0), .second, .val (.ref b64), .val (.ref b81), .val (.int (own_b (q0 = j38_s0))), .val (.int (own_b (¬ (q0 = j38_s0) ∨ (j62_s0 < v45)))), .val (.int (own_b (¬ (q0 = j38_s0) ∨ (v45 < j62_s0)))), .val (.int (own_b (¬ (q0 = j38_s0) ∨ (j62_s0 < v45)))), .val (.int (own_b (¬ (j38_s0 = q0) ∨ (v45 < j62_s0)))), .val (.int (own_b (¬ (q0 = q0) ∨ (v45 < v45)))), .unset] [(.int (own_b (¬ (q0 = j38_s0) ∨ (j62_s0 < v45))))])) target
          refine XS.ifYes Xg179.here hx rfl (pc0 := 191) (pc' := 199) rfl (hb hby at_191) rfl ((if0 _ _).trans (teq (own_b00 rfl c191)).1) (by decide) (by decide) ?_
          show Steps p.tables e below (Tg179.setTop (mkF m 199 #[.val (.long q0), .second, .val (.long q1), .second, .val (.long q2), .second, .val (.long q3), .second, .val (.int p4), .val (.int (own_b (¬ ((p4 &&& (1 : Int32)) = (0 : Int32))))), .val (.int (own_b (¬ ((p4 &&& (2 : Int32)) = (0 : Int32))))), .val (.long j38_s0), .second, .val (.long v45), .second, .val (.long j62_s0), .second, .val (.ref b64), .val (.ref b81), .val (.int (own_b (q0 = j38_s0))), .val (.int (own_b (¬ (q0 = j38_s0) ∨ (j62_s0 < v45)))), .val (.int (own_b (¬ (q0 = j38_s0) ∨ (v45 < j62_s0)))), .val (.int (own_b (¬ (q0 = j38_s0) ∨ (j62_s0 < v45)))), .val (.int (own_b (¬ (j38_s0 = q0) ∨ (v45 < j62_s0)))), .val (.int (own_b (¬ (q0 = q0) ∨ (v45 < v45)))), .unset] [])) target
          refine XS.iconst Xg179.here hx rfl (hb hby at_199) ?_
          show Steps p.tables e below (Tg179.setTop (mkF m 200 #[.val (.long q0), .second, .val (.long q1), .second, .val (.long q2), .second, .val (.long q3), .second, .val (.int p4), .val (.int (own_b (¬ ((p4 &&& (1 : Int32)) = (0 : Int32))))), .val (.int (own_b (¬ ((p4 &&& (2 : Int32)) = (0 : Int32))))), .val (.long j38_s0), .second, .val (.long v45), .second, .val (.long j62_s0), .second, .val (.ref b64), .val (.ref b81), .val (.int (own_b (q0 = j38_s0))), .val (.int (own_b (¬ (q0 = j38_s0) ∨ (j62_s0 < v45)))), .val (.int (own_b (¬ (q0 = j38_s0) ∨ (v45 < j62_s0)))), .val (.int (own_b (¬ (q0 = j38_s0) ∨ (j62_s0 < v45)))), .val (.int (own_b (¬ (j38_s0 = q0) ∨ (v45 < j62_s0)))), .val (.int (own_b (¬ (q0 = q0) ∨ (v45 < v45)))), .unset] [(.int (1 : Int32))])) target
          refine XS.goto Xg179.here hx rfl (pc0 := 200) (pc' := 204) rfl (hb hby at_200) (by decide) (by decide) ?_
          exact kt
        exact ⟨_, ⟨(1 : Int32), rfl, (own_b1 (Or.inr (Or.inl c191))).symm⟩, fun _ k => k⟩
    · refine own_st (B := Tg179.setTop (mkF m 204 #[.val (.long q0), .second, .val (.long q1), .second, .val (.long q2), .second, .val (.long q3), .second, .val (.int p4), .val (.int (own_b (¬ ((p4 &&& (1 : Int32)) = (0 : Int32))))), .val (.int (own_b (¬ ((p4 &&& (2 : Int32)) = (0 : Int32))))), .val (.long j38_s0), .second, .val (.long v45), .second, .val (.long j62_s0), .second, .val (.ref b64), .val (.ref b81), .val (.int (own_b (q0 = j38_s0))), .val (.int (own_b (¬ (q0 = j38_s0) ∨ (j62_s0 < v45)))), .val (.int (own_b (¬ (q0 = j38_s0) ∨ (v45 < j62_s0)))), .val (.int (own_b (¬ (q0 = j38_s0) ∨ (j62_s0 < v45)))), .val (.int (own_b (¬ (j38_s0 = q0) ∨ (v45 < j62_s0)))), .val (.int (own_b (¬ (q0 = q0) ∨ (v45 < v45)))), .unset] [(.int (1 : Int32))])) (fun target kt => ?_) ?_
      · show Steps p.tables e below (Tg179.setTop (mkF m 186 #[.val (.long q0), .second, .val (.long q1), .second, .val (.long q2), .second, .val (.long q3), .second, .val (.int p4), .val (.int (own_b (¬ ((p4 &&& (1 : Int32)) = (0 : Int32))))), .val (.int (own_b (¬ ((p4 &&& (2 : Int32)) = (0 : Int32))))), .val (.long j38_s0), .second, .val (.long v45), .second, .val (.long j62_s0), .second, .val (.ref b64), .val (.ref b81), .val (.int (own_b (q0 = j38_s0))), .val (.int (own_b (¬ (q0 = j38_s0) ∨ (j62_s0 < v45)))), .val (.int (own_b (¬ (q0 = j38_s0) ∨ (v45 < j62_s0)))), .val (.int (own_b (¬ (q0 = j38_s0) ∨ (j62_s0 < v45)))), .val (.int (own_b (¬ (j38_s0 = q0) ∨ (v45 < j62_s0)))), .val (.int (own_b (¬ (q0 = q0) ∨ (v45 < v45)))), .unset] [(.int (own_b (q0 = j38_s0)))])) target
        refine XS.ifYes Xg179.here hx rfl (pc0 := 186) (pc' := 199) rfl (hb hby at_186) rfl ((if0 _ _).trans (teq (own_b00 rfl c186)).1) (by decide) (by decide) ?_
        show Steps p.tables e below (Tg179.setTop (mkF m 199 #[.val (.long q0), .second, .val (.long q1), .second, .val (.long q2), .second, .val (.long q3), .second, .val (.int p4), .val (.int (own_b (¬ ((p4 &&& (1 : Int32)) = (0 : Int32))))), .val (.int (own_b (¬ ((p4 &&& (2 : Int32)) = (0 : Int32))))), .val (.long j38_s0), .second, .val (.long v45), .second, .val (.long j62_s0), .second, .val (.ref b64), .val (.ref b81), .val (.int (own_b (q0 = j38_s0))), .val (.int (own_b (¬ (q0 = j38_s0) ∨ (j62_s0 < v45)))), .val (.int (own_b (¬ (q0 = j38_s0) ∨ (v45 < j62_s0)))), .val (.int (own_b (¬ (q0 = j38_s0) ∨ (j62_s0 < v45)))), .val (.int (own_b (¬ (j38_s0 = q0) ∨ (v45 < j62_s0)))), .val (.int (own_b (¬ (q0 = q0) ∨ (v45 < v45)))), .unset] [])) target
        refine XS.iconst Xg179.here hx rfl (hb hby at_199) ?_
        show Steps p.tables e below (Tg179.setTop (mkF m 200 #[.val (.long q0), .second, .val (.long q1), .second, .val (.long q2), .second, .val (.long q3), .second, .val (.int p4), .val (.int (own_b (¬ ((p4 &&& (1 : Int32)) = (0 : Int32))))), .val (.int (own_b (¬ ((p4 &&& (2 : Int32)) = (0 : Int32))))), .val (.long j38_s0), .second, .val (.long v45), .second, .val (.long j62_s0), .second, .val (.ref b64), .val (.ref b81), .val (.int (own_b (q0 = j38_s0))), .val (.int (own_b (¬ (q0 = j38_s0) ∨ (j62_s0 < v45)))), .val (.int (own_b (¬ (q0 = j38_s0) ∨ (v45 < j62_s0)))), .val (.int (own_b (¬ (q0 = j38_s0) ∨ (j62_s0 < v45)))), .val (.int (own_b (¬ (j38_s0 = q0) ∨ (v45 < j62_s0)))), .val (.int (own_b (¬ (q0 = q0) ∨ (v45 < v45)))), .unset] [(.int (1 : Int32))])) target
        refine XS.goto Xg179.here hx rfl (pc0 := 200) (pc' := 204) rfl (hb hby at_200) (by decide) (by decide) ?_
        exact kt
      exact ⟨_, ⟨(1 : Int32), rfl, (own_b1 (Or.inl c186)).symm⟩, fun _ k => k⟩
  refine own_st st_M204 ?_
  refine own_st (B := Tg179.setTop (mkF m 210 #[.val (.long q0), .second, .val (.long q1), .second, .val (.long q2), .second, .val (.long q3), .second, .val (.int p4), .val (.int (own_b (¬ ((p4 &&& (1 : Int32)) = (0 : Int32))))), .val (.int (own_b (¬ ((p4 &&& (2 : Int32)) = (0 : Int32))))), .val (.long j38_s0), .second, .val (.long v45), .second, .val (.long j62_s0), .second, .val (.ref b64), .val (.ref b81), .val (.int (own_b (q0 = j38_s0))), .val (.int (own_b (¬ (q0 = j38_s0) ∨ (j62_s0 < v45)))), .val (.int (own_b (¬ (q0 = j38_s0) ∨ (v45 < j62_s0)))), .val (.int (own_b (¬ (q0 = j38_s0) ∨ (j62_s0 < v45)))), .val (.int (own_b (¬ (j38_s0 = q0) ∨ (v45 < j62_s0)))), .val (.int (own_b (¬ (q0 = q0) ∨ (v45 < v45)))), .val (.int (own_b (¬ (q0 = j38_s0) ∨ ((¬ (¬ (q0 = j38_s0) ∨ (j62_s0 < v45)) ∨ (¬ (¬ (j38_s0 = q0) ∨ (v45 < j62_s0))))))))] [(.int (own_b (¬ (q0 = j38_s0) ∨ (j62_s0 < v45)))), (.int (own_b (¬ (q0 = j38_s0) ∨ (j62_s0 < v45))))])) (fun target kt => ?_) ?_
  · show Steps p.tables e below (Tg179.setTop (mkF m 204 #[.val (.long q0), .second, .val (.long q1), .second, .val (.long q2), .second, .val (.long q3), .second, .val (.int p4), .val (.int (own_b (¬ ((p4 &&& (1 : Int32)) = (0 : Int32))))), .val (.int (own_b (¬ ((p4 &&& (2 : Int32)) = (0 : Int32))))), .val (.long j38_s0), .second, .val (.long v45), .second, .val (.long j62_s0), .second, .val (.ref b64), .val (.ref b81), .val (.int (own_b (q0 = j38_s0))), .val (.int (own_b (¬ (q0 = j38_s0) ∨ (j62_s0 < v45)))), .val (.int (own_b (¬ (q0 = j38_s0) ∨ (v45 < j62_s0)))), .val (.int (own_b (¬ (q0 = j38_s0) ∨ (j62_s0 < v45)))), .val (.int (own_b (¬ (j38_s0 = q0) ∨ (v45 < j62_s0)))), .val (.int (own_b (¬ (q0 = q0) ∨ (v45 < v45)))), .unset] [(.int (own_b (¬ (q0 = j38_s0) ∨ ((¬ (¬ (q0 = j38_s0) ∨ (j62_s0 < v45)) ∨ (¬ (¬ (j38_s0 = q0) ∨ (v45 < j62_s0))))))))])) target
    refine XS.istore Xg179.here hx rfl (hb hby at_204) rfl (l' := #[.val (.long q0), .second, .val (.long q1), .second, .val (.long q2), .second, .val (.long q3), .second, .val (.int p4), .val (.int (own_b (¬ ((p4 &&& (1 : Int32)) = (0 : Int32))))), .val (.int (own_b (¬ ((p4 &&& (2 : Int32)) = (0 : Int32))))), .val (.long j38_s0), .second, .val (.long v45), .second, .val (.long j62_s0), .second, .val (.ref b64), .val (.ref b81), .val (.int (own_b (q0 = j38_s0))), .val (.int (own_b (¬ (q0 = j38_s0) ∨ (j62_s0 < v45)))), .val (.int (own_b (¬ (q0 = j38_s0) ∨ (v45 < j62_s0)))), .val (.int (own_b (¬ (q0 = j38_s0) ∨ (j62_s0 < v45)))), .val (.int (own_b (¬ (j38_s0 = q0) ∨ (v45 < j62_s0)))), .val (.int (own_b (¬ (q0 = q0) ∨ (v45 < v45)))), .val (.int (own_b (¬ (q0 = j38_s0) ∨ ((¬ (¬ (q0 = j38_s0) ∨ (j62_s0 < v45)) ∨ (¬ (¬ (j38_s0 = q0) ∨ (v45 < j62_s0))))))))]) rfl ?_
    show Steps p.tables e below (Tg179.setTop (mkF m 206 #[.val (.long q0), .second, .val (.long q1), .second, .val (.long q2), .second, .val (.long q3), .second, .val (.int p4), .val (.int (own_b (¬ ((p4 &&& (1 : Int32)) = (0 : Int32))))), .val (.int (own_b (¬ ((p4 &&& (2 : Int32)) = (0 : Int32))))), .val (.long j38_s0), .second, .val (.long v45), .second, .val (.long j62_s0), .second, .val (.ref b64), .val (.ref b81), .val (.int (own_b (q0 = j38_s0))), .val (.int (own_b (¬ (q0 = j38_s0) ∨ (j62_s0 < v45)))), .val (.int (own_b (¬ (q0 = j38_s0) ∨ (v45 < j62_s0)))), .val (.int (own_b (¬ (q0 = j38_s0) ∨ (j62_s0 < v45)))), .val (.int (own_b (¬ (j38_s0 = q0) ∨ (v45 < j62_s0)))), .val (.int (own_b (¬ (q0 = q0) ∨ (v45 < v45)))), .val (.int (own_b (¬ (q0 = j38_s0) ∨ ((¬ (¬ (q0 = j38_s0) ∨ (j62_s0 < v45)) ∨ (¬ (¬ (j38_s0 = q0) ∨ (v45 < j62_s0))))))))] [])) target
    refine XS.iload Xg179.here hx rfl (hb hby at_206) rfl ?_
    show Steps p.tables e below (Tg179.setTop (mkF m 208 #[.val (.long q0), .second, .val (.long q1), .second, .val (.long q2), .second, .val (.long q3), .second, .val (.int p4), .val (.int (own_b (¬ ((p4 &&& (1 : Int32)) = (0 : Int32))))), .val (.int (own_b (¬ ((p4 &&& (2 : Int32)) = (0 : Int32))))), .val (.long j38_s0), .second, .val (.long v45), .second, .val (.long j62_s0), .second, .val (.ref b64), .val (.ref b81), .val (.int (own_b (q0 = j38_s0))), .val (.int (own_b (¬ (q0 = j38_s0) ∨ (j62_s0 < v45)))), .val (.int (own_b (¬ (q0 = j38_s0) ∨ (v45 < j62_s0)))), .val (.int (own_b (¬ (q0 = j38_s0) ∨ (j62_s0 < v45)))), .val (.int (own_b (¬ (j38_s0 = q0) ∨ (v45 < j62_s0)))), .val (.int (own_b (¬ (q0 = q0) ∨ (v45 < v45)))), .val (.int (own_b (¬ (q0 = j38_s0) ∨ ((¬ (¬ (q0 = j38_s0) ∨ (j62_s0 < v45)) ∨ (¬ (¬ (j38_s0 = q0) ∨ (v45 < j62_s0))))))))] [(.int (own_b (¬ (q0 = j38_s0) ∨ (j62_s0 < v45))))])) target
    refine XS.iload Xg179.here hx rfl (hb hby at_208) rfl ?_
    exact kt
  obtain ⟨_, ⟨j235_s0, rfl, rfl⟩, st_M235⟩ : own_Lead p.tables e below (Tg179.setTop (mkF m 210 #[.val (.long q0), .second, .val (.long q1), .second, .val (.long q2), .second, .val (.long q3), .second, .val (.int p4), .val (.int (own_b (¬ ((p4 &&& (1 : Int32)) = (0 : Int32))))), .val (.int (own_b (¬ ((p4 &&& (2 : Int32)) = (0 : Int32))))), .val (.long j38_s0), .second, .val (.long v45), .second, .val (.long j62_s0), .second, .val (.ref b64), .val (.ref b81), .val (.int (own_b (q0 = j38_s0))), .val (.int (own_b (¬ (q0 = j38_s0) ∨ (j62_s0 < v45)))), .val (.int (own_b (¬ (q0 = j38_s0) ∨ (v45 < j62_s0)))), .val (.int (own_b (¬ (q0 = j38_s0) ∨ (j62_s0 < v45)))), .val (.int (own_b (¬ (j38_s0 = q0) ∨ (v45 < j62_s0)))), .val (.int (own_b (¬ (q0 = q0) ∨ (v45 < v45)))), .val (.int (own_b (¬ (q0 = j38_s0) ∨ ((¬ (¬ (q0 = j38_s0) ∨ (j62_s0 < v45)) ∨ (¬ (¬ (j38_s0 = q0) ∨ (v45 < j62_s0))))))))] [(.int (own_b (¬ (q0 = j38_s0) ∨ (j62_s0 < v45)))), (.int (own_b (¬ (q0 = j38_s0) ∨ (j62_s0 < v45))))])) (fun B => ∃ (j235_s0 : Int32), B = Tg179.setTop (mkF m 235 #[.val (.long q0), .second, .val (.long q1), .second, .val (.long q2), .second, .val (.long q3), .second, .val (.int p4), .val (.int (own_b (¬ ((p4 &&& (1 : Int32)) = (0 : Int32))))), .val (.int (own_b (¬ ((p4 &&& (2 : Int32)) = (0 : Int32))))), .val (.long j38_s0), .second, .val (.long v45), .second, .val (.long j62_s0), .second, .val (.ref b64), .val (.ref b81), .val (.int (own_b (q0 = j38_s0))), .val (.int (own_b (¬ (q0 = j38_s0) ∨ (j62_s0 < v45)))), .val (.int (own_b (¬ (q0 = j38_s0) ∨ (v45 < j62_s0)))), .val (.int (own_b (¬ (q0 = j38_s0) ∨ (j62_s0 < v45)))), .val (.int (own_b (¬ (j38_s0 = q0) ∨ (v45 < j62_s0)))), .val (.int (own_b (¬ (q0 = q0) ∨ (v45 < v45)))), .val (.int (own_b (¬ (q0 = j38_s0) ∨ ((¬ (¬ (q0 = j38_s0) ∨ (j62_s0 < v45)) ∨ (¬ (¬ (j38_s0 = q0) ∨ (v45 < j62_s0))))))))] [(.int j235_s0)]) ∧ j235_s0 = own_b ((((¬ (q0 = j38_s0) ∨ (j62_s0 < v45)) ↔ (¬ (q0 = j38_s0) ∨ (j62_s0 < v45))) ∧ ((((¬ (j38_s0 = q0) ∨ (v45 < j62_s0)) ↔ (¬ (q0 = j38_s0) ∨ (v45 < j62_s0))) ∧ ((¬ (¬ (q0 = q0) ∨ (v45 < v45)) ∧ (¬ (q0 = j38_s0) ∨ ((¬ (¬ (q0 = j38_s0) ∨ (j62_s0 < v45)) ∨ (¬ (¬ (j38_s0 = q0) ∨ (v45 < j62_s0))))))))))))) := by
    by_cases c210 : (¬ (q0 = j38_s0) ∨ (j62_s0 < v45)) ↔ (¬ (q0 = j38_s0) ∨ (j62_s0 < v45))
    · refine own_st (B := Tg179.setTop (mkF m 217 #[.val (.long q0), .second, .val (.long q1), .second, .val (.long q2), .second, .val (.long q3), .second, .val (.int p4), .val (.int (own_b (¬ ((p4 &&& (1 : Int32)) = (0 : Int32))))), .val (.int (own_b (¬ ((p4 &&& (2 : Int32)) = (0 : Int32))))), .val (.long j38_s0), .second, .val (.long v45), .second, .val (.long j62_s0), .second, .val (.ref b64), .val (.ref b81), .val (.int (own_b (q0 = j38_s0))), .val (.int (own_b (¬ (q0 = j38_s0) ∨ (j62_s0 < v45)))), .val (.int (own_b (¬ (q0 = j38_s0) ∨ (v45 < j62_s0)))), .val (.int (own_b (¬ (q0 = j38_s0) ∨ (j62_s0 < v45)))), .val (.int (own_b (¬ (j38_s0 = q0) ∨ (v45 < j62_s0)))), .val (.int (own_b (¬ (q0 = q0) ∨ (v45 < v45)))), .val (.int (own_b (¬ (q0 = j38_s0) ∨ ((¬ (¬ (q0 = j38_s0) ∨ (j62_s0 < v45)) ∨ (¬ (¬ (j38_s0 = q0) ∨ (v45 < j62_s0))))))))] [(.int (own_b (¬ (q0 = j38_s0) ∨ (v45 < j62_s0)))), (.int (own_b (¬ (j38_s0 = q0) ∨ (v45 < j62_s0))))])) (fun target kt => ?_) ?_
      · show Steps p.tables e below (Tg179.setTop (mkF m 210 #[.val (.long q0), .second, .val (.long q1), .second, .val (.long q2), .second, .val (.long q3), .second, .val (.int p4), .val (.int (own_b (¬ ((p4 &&& (1 : Int32)) = (0 : Int32))))), .val (.int (own_b (¬ ((p4 &&& (2 : Int32)) = (0 : Int32))))), .val (.long j38_s0), .second, .val (.long v45), .second, .val (.long j62_s0), .second, .val (.ref b64), .val (.ref b81), .val (.int (own_b (q0 = j38_s0))), .val (.int (own_b (¬ (q0 = j38_s0) ∨ (j62_s0 < v45)))), .val (.int (own_b (¬ (q0 = j38_s0) ∨ (v45 < j62_s0)))), .val (.int (own_b (¬ (q0 = j38_s0) ∨ (j62_s0 < v45)))), .val (.int (own_b (¬ (j38_s0 = q0) ∨ (v45 < j62_s0)))), .val (.int (own_b (¬ (q0 = q0) ∨ (v45 < v45)))), .val (.int (own_b (¬ (q0 = j38_s0) ∨ ((¬ (¬ (q0 = j38_s0) ∨ (j62_s0 < v45)) ∨ (¬ (¬ (j38_s0 = q0) ∨ (v45 < j62_s0))))))))] [(.int (own_b (¬ (q0 = j38_s0) ∨ (j62_s0 < v45)))), (.int (own_b (¬ (q0 = j38_s0) ∨ (j62_s0 < v45))))])) target
        refine XS.icmpNo Xg179.here hx rfl (hb hby at_210) rfl (teq (own_bb rfl rfl c210)).2 ?_
        show Steps p.tables e below (Tg179.setTop (mkF m 213 #[.val (.long q0), .second, .val (.long q1), .second, .val (.long q2), .second, .val (.long q3), .second, .val (.int p4), .val (.int (own_b (¬ ((p4 &&& (1 : Int32)) = (0 : Int32))))), .val (.int (own_b (¬ ((p4 &&& (2 : Int32)) = (0 : Int32))))), .val (.long j38_s0), .second, .val (.long v45), .second, .val (.long j62_s0), .second, .val (.ref b64), .val (.ref b81), .val (.int (own_b (q0 = j38_s0))), .val (.int (own_b (¬ (q0 = j38_s0) ∨ (j62_s0 < v45)))), .val (.int (own_b (¬ (q0 = j38_s0) ∨ (v45 < j62_s0)))), .val (.int (own_b (¬ (q0 = j38_s0) ∨ (j62_s0 < v45)))), .val (.int (own_b (¬ (j38_s0 = q0) ∨ (v45 < j62_s0)))), .val (.int (own_b (¬ (q0 = q0) ∨ (v45 < v45)))), .val (.int (own_b (¬ (q0 = j38_s0) ∨ ((¬ (¬ (q0 = j38_s0) ∨ (j62_s0 < v45)) ∨ (¬ (¬ (j38_s0 = q0) ∨ (v45 < j62_s0))))))))] [])) target
        refine XS.iload Xg179.here hx rfl (hb hby at_213) rfl ?_
        show Steps p.tables e below (Tg179.setTop (mkF m 215 #[.val (.long q0), .second, .val (.long q1), .second, .val (.long q2), .second, .val (.long q3), .second, .val (.int p4), .val (.int (own_b (¬ ((p4 &&& (1 : Int32)) = (0 : Int32))))), .val (.int (own_b (¬ ((p4 &&& (2 : Int32)) = (0 : Int32))))), .val (.long j38_s0), .second, .val (.long v45), .second, .val (.long j62_s0), .second, .val (.ref b64), .val (.ref b81), .val (.int (own_b (q0 = j38_s0))), .val (.int (own_b (¬ (q0 = j38_s0) ∨ (j62_s0 < v45)))), .val (.int (own_b (¬ (q0 = j38_s0) ∨ (v45 < j62_s0)))), .val (.int (own_b (¬ (q0 = j38_s0) ∨ (j62_s0 < v45)))), .val (.int (own_b (¬ (j38_s0 = q0) ∨ (v45 < j62_s0)))), .val (.int (own_b (¬ (q0 = q0) ∨ (v45 < v45)))), .val (.int (own_b (¬ (q0 = j38_s0) ∨ ((¬ (¬ (q0 = j38_s0) ∨ (j62_s0 < v45)) ∨ (¬ (¬ (j38_s0 = q0) ∨ (v45 < j62_s0))))))))] [(.int (own_b (¬ (j38_s0 = q0) ∨ (v45 < j62_s0))))])) target
        refine XS.iload Xg179.here hx rfl (hb hby at_215) rfl ?_
        exact kt
      by_cases c217 : (¬ (j38_s0 = q0) ∨ (v45 < j62_s0)) ↔ (¬ (q0 = j38_s0) ∨ (v45 < j62_s0))
      · refine own_st (B := Tg179.setTop (mkF m 222 #[.val (.long q0), .second, .val (.long q1), .second, .val (.long q2), .second, .val (.long q3), .second, .val (.int p4), .val (.int (own_b (¬ ((p4 &&& (1 : Int32)) = (0 : Int32))))), .val (.int (own_b (¬ ((p4 &&& (2 : Int32)) = (0 : Int32))))), .val (.long j38_s0), .second, .val (.long v45), .second, .val (.long j62_s0), .second, .val (.ref b64), .val (.ref b81), .val (.int (own_b (q0 = j38_s0))), .val (.int (own_b (¬ (q0 = j38_s0) ∨ (j62_s0 < v45)))), .val (.int (own_b (¬ (q0 = j38_s0) ∨ (v45 < j62_s0)))), .val (.int (own_b (¬ (q0 = j38_s0) ∨ (j62_s0 < v45)))), .val (.int (own_b (¬ (j38_s0 = q0) ∨ (v45 < j62_s0)))), .val (.int (own_b (¬ (q0 = q0) ∨ (v45 < v45)))), .val (.int (own_b (¬ (q0 = j38_s0) ∨ ((¬ (¬ (q0 = j38_s0) ∨ (j62_s0 < v45)) ∨ (¬ (¬ (j38_s0 = q0) ∨ (v45 < j62_s0))))))))] [(.int (own_b (¬ (q0 = q0) ∨ (v45 < v45))))])) (fun target kt => ?_) ?_
        · show Steps p.tables e below (Tg179.setTop (mkF m 217 #[.val (.long q0), .second, .val (.long q1), .second, .val (.long q2), .second, .val (.long q3), .second, .val (.int p4), .val (.int (own_b (¬ ((p4 &&& (1 : Int32)) = (0 : Int32))))), .val (.int (own_b (¬ ((p4 &&& (2 : Int32)) = (0 : Int32))))), .val (.long j38_s0), .second, .val (.long v45), .second, .val (.long j62_s0), .second, .val (.ref b64), .val (.ref b81), .val (.int (own_b (q0 = j38_s0))), .val (.int (own_b (¬ (q0 = j38_s0) ∨ (j62_s0 < v45)))), .val (.int (own_b (¬ (q0 = j38_s0) ∨ (v45 < j62_s0)))), .val (.int (own_b (¬ (q0 = j38_s0) ∨ (j62_s0 < v45)))), .val (.int (own_b (¬ (j38_s0 = q0) ∨ (v45 < j62_s0)))), .val (.int (own_b (¬ (q0 = q0) ∨ (v45 < v45)))), .val (.int (own_b (¬ (q0 = j38_s0) ∨ ((¬ (¬ (q0 = j38_s0) ∨ (j62_s0 < v45)) ∨ (¬ (¬ (j38_s0 = q0) ∨ (v45 < j62_s0))))))))] [(.int (own_b (¬ (q0 = j38_s0) ∨ (v45 < j62_s0)))), (.int (own_b (¬ (j38_s0 = q0) ∨ (v45 < j62_s0))))])) target
          refine XS.icmpNo Xg179.here hx rfl (hb hby at_217) rfl (teq (own_bb rfl rfl c217)).2 ?_
          show Steps p.tables e below (Tg179.setTop (mkF m 220 #[.val (.long q0), .second, .val (.long q1), .second, .val (.long q2), .second, .val (.long q3), .second, .val (.int p4), .val (.int (own_b (¬ ((p4 &&& (1 : Int32)) = (0 : Int32))))), .val (.int (own_b (¬ ((p4 &&& (2 : Int32)) = (0 : Int32))))), .val (.long j38_s0), .second, .val (.long v45), .second, .val (.long j62_s0), .second, .val (.ref b64), .val (.ref b81), .val (.int (own_b (q0 = j38_s0))), .val (.int (own_b (¬ (q0 = j38_s0) ∨ (j62_s0 < v45)))), .val (.int (own_b (¬ (q0 = j38_s0) ∨ (v45 < j62_s0)))), .val (.int (own_b (¬ (q0 = j38_s0) ∨ (j62_s0 < v45)))), .val (.int (own_b (¬ (j38_s0 = q0) ∨ (v45 < j62_s0)))), .val (.int (own_b (¬ (q0 = q0) ∨ (v45 < v45)))), .val (.int (own_b (¬ (q0 = j38_s0) ∨ ((¬ (¬ (q0 = j38_s0) ∨ (j62_s0 < v45)) ∨ (¬ (¬ (j38_s0 = q0) ∨ (v45 < j62_s0))))))))] [])) target
          refine XS.iload Xg179.here hx rfl (hb hby at_220) rfl ?_
          exact kt
        by_cases c222 : ¬ (q0 = q0) ∨ (v45 < v45)
        · refine own_st (B := Tg179.setTop (mkF m 235 #[.val (.long q0), .second, .val (.long q1), .second, .val (.long q2), .second, .val (.long q3), .second, .val (.int p4), .val (.int (own_b (¬ ((p4 &&& (1 : Int32)) = (0 : Int32))))), .val (.int (own_b (¬ ((p4 &&& (2 : Int32)) = (0 : Int32))))), .val (.long j38_s0), .second, .val (.long v45), .second, .val (.long j62_s0), .second, .val (.ref b64), .val (.ref b81), .val (.int (own_b (q0 = j38_s0))), .val (.int (own_b (¬ (q0 = j38_s0) ∨ (j62_s0 < v45)))), .val (.int (own_b (¬ (q0 = j38_s0) ∨ (v45 < j62_s0)))), .val (.int (own_b (¬ (q0 = j38_s0) ∨ (j62_s0 < v45)))), .val (.int (own_b (¬ (j38_s0 = q0) ∨ (v45 < j62_s0)))), .val (.int (own_b (¬ (q0 = q0) ∨ (v45 < v45)))), .val (.int (own_b (¬ (q0 = j38_s0) ∨ ((¬ (¬ (q0 = j38_s0) ∨ (j62_s0 < v45)) ∨ (¬ (¬ (j38_s0 = q0) ∨ (v45 < j62_s0))))))))] [(.int (0 : Int32))])) (fun target kt => ?_) ?_
          · show Steps p.tables e below (Tg179.setTop (mkF m 222 #[.val (.long q0), .second, .val (.long q1), .second, .val (.long q2), .second, .val (.long q3), .second, .val (.int p4), .val (.int (own_b (¬ ((p4 &&& (1 : Int32)) = (0 : Int32))))), .val (.int (own_b (¬ ((p4 &&& (2 : Int32)) = (0 : Int32))))), .val (.long j38_s0), .second, .val (.long v45), .second, .val (.long j62_s0), .second, .val (.ref b64), .val (.ref b81), .val (.int (own_b (q0 = j38_s0))), .val (.int (own_b (¬ (q0 = j38_s0) ∨ (j62_s0 < v45)))), .val (.int (own_b (¬ (q0 = j38_s0) ∨ (v45 < j62_s0)))), .val (.int (own_b (¬ (q0 = j38_s0) ∨ (j62_s0 < v45)))), .val (.int (own_b (¬ (j38_s0 = q0) ∨ (v45 < j62_s0)))), .val (.int (own_b (¬ (q0 = q0) ∨ (v45 < v45)))), .val (.int (own_b (¬ (q0 = j38_s0) ∨ ((¬ (¬ (q0 = j38_s0) ∨ (j62_s0 < v45)) ∨ (¬ (¬ (j38_s0 = q0) ∨ (v45 < j62_s0))))))))] [(.int (own_b (¬ (q0 = q0) ∨ (v45 < v45))))])) target
            refine XS.ifYes Xg179.here hx rfl (pc0 := 222) (pc' := 234) rfl (hb hby at_222) rfl ((if0 _ _).trans (feq (own_bn0 rfl c222)).2) (by decide) (by decide) ?_
            show Steps p.tables e below (Tg179.setTop (mkF m 234 #[.val (.long q0), .second, .val (.long q1), .second, .val (.long q2), .second, .val (.long q3), .second, .val (.int p4), .val (.int (own_b (¬ ((p4 &&& (1 : Int32)) = (0 : Int32))))), .val (.int (own_b (¬ ((p4 &&& (2 : Int32)) = (0 : Int32))))), .val (.long j38_s0), .second, .val (.long v45), .second, .val (.long j62_s0), .second, .val (.ref b64), .val (.ref b81), .val (.int (own_b (q0 = j38_s0))), .val (.int (own_b (¬ (q0 = j38_s0) ∨ (j62_s0 < v45)))), .val (.int (own_b (¬ (q0 = j38_s0) ∨ (v45 < j62_s0)))), .val (.int (own_b (¬ (q0 = j38_s0) ∨ (j62_s0 < v45)))), .val (.int (own_b (¬ (j38_s0 = q0) ∨ (v45 < j62_s0)))), .val (.int (own_b (¬ (q0 = q0) ∨ (v45 < v45)))), .val (.int (own_b (¬ (q0 = j38_s0) ∨ ((¬ (¬ (q0 = j38_s0) ∨ (j62_s0 < v45)) ∨ (¬ (¬ (j38_s0 = q0) ∨ (v45 < j62_s0))))))))] [])) target
            refine XS.iconst Xg179.here hx rfl (hb hby at_234) ?_
            exact kt
          exact ⟨_, ⟨(0 : Int32), rfl, (own_b0 (fun w => (fun w => (fun w => w.1 c222) w.2) w.2)).symm⟩, fun _ k => k⟩
        · refine own_st (B := Tg179.setTop (mkF m 227 #[.val (.long q0), .second, .val (.long q1), .second, .val (.long q2), .second, .val (.long q3), .second, .val (.int p4), .val (.int (own_b (¬ ((p4 &&& (1 : Int32)) = (0 : Int32))))), .val (.int (own_b (¬ ((p4 &&& (2 : Int32)) = (0 : Int32))))), .val (.long j38_s0), .second, .val (.long v45), .second, .val (.long j62_s0), .second, .val (.ref b64), .val (.ref b81), .val (.int (own_b (q0 = j38_s0))), .val (.int (own_b (¬ (q0 = j38_s0) ∨ (j62_s0 < v45)))), .val (.int (own_b (¬ (q0 = j38_s0) ∨ (v45 < j62_s0)))), .val (.int (own_b (¬ (q0 = j38_s0) ∨ (j62_s0 < v45)))), .val (.int (own_b (¬ (j38_s0 = q0) ∨ (v45 < j62_s0)))), .val (.int (own_b (¬ (q0 = q0) ∨ (v45 < v45)))), .val (.int (own_b (¬ (q0 = j38_s0) ∨ ((¬ (¬ (q0 = j38_s0) ∨ (j62_s0 < v45)) ∨ (¬ (¬ (j38_s0 = q0) ∨ (v45 < j62_s0))))))))] [(.int (own_b (¬ (q0 = j38_s0) ∨ ((¬ (¬ (q0 = j38_s0) ∨ (j62_s0 < v45)) ∨ (¬ (¬ (j38_s0 = q0) ∨ (v45 < j62_s0))))))))])) (fun target kt => ?_) ?_
          · show Steps p.tables e below (Tg179.setTop (mkF m 222 #[.val (.long q0), .second, .val (.long q1), .second, .val (.long q2), .second, .val (.long q3), .second, .val (.int p4), .val (.int (own_b (¬ ((p4 &&& (1 : Int32)) = (0 : Int32))))), .val (.int (own_b (¬ ((p4 &&& (2 : Int32)) = (0 : Int32))))), .val (.long j38_s0), .second, .val (.long v45), .second, .val (.long j62_s0), .second, .val (.ref b64), .val (.ref b81), .val (.int (own_b (q0 = j38_s0))), .val (.int (own_b (¬ (q0 = j38_s0) ∨ (j62_s0 < v45)))), .val (.int (own_b (¬ (q0 = j38_s0) ∨ (v45 < j62_s0)))), .val (.int (own_b (¬ (q0 = j38_s0) ∨ (j62_s0 < v45)))), .val (.int (own_b (¬ (j38_s0 = q0) ∨ (v45 < j62_s0)))), .val (.int (own_b (¬ (q0 = q0) ∨ (v45 < v45)))), .val (.int (own_b (¬ (q0 = j38_s0) ∨ ((¬ (¬ (q0 = j38_s0) ∨ (j62_s0 < v45)) ∨ (¬ (¬ (j38_s0 = q0) ∨ (v45 < j62_s0))))))))] [(.int (own_b (¬ (q0 = q0) ∨ (v45 < v45))))])) target
            refine XS.ifNo Xg179.here hx rfl (hb hby at_222) rfl ((if0 _ _).trans (teq (own_b00 rfl c222)).2) ?_
            show Steps p.tables e below (Tg179.setTop (mkF m 225 #[.val (.long q0), .second, .val (.long q1), .second, .val (.long q2), .second, .val (.long q3), .second, .val (.int p4), .val (.int (own_b (¬ ((p4 &&& (1 : Int32)) = (0 : Int32))))), .val (.int (own_b (¬ ((p4 &&& (2 : Int32)) = (0 : Int32))))), .val (.long j38_s0), .second, .val (.long v45), .second, .val (.long j62_s0), .second, .val (.ref b64), .val (.ref b81), .val (.int (own_b (q0 = j38_s0))), .val (.int (own_b (¬ (q0 = j38_s0) ∨ (j62_s0 < v45)))), .val (.int (own_b (¬ (q0 = j38_s0) ∨ (v45 < j62_s0)))), .val (.int (own_b (¬ (q0 = j38_s0) ∨ (j62_s0 < v45)))), .val (.int (own_b (¬ (j38_s0 = q0) ∨ (v45 < j62_s0)))), .val (.int (own_b (¬ (q0 = q0) ∨ (v45 < v45)))), .val (.int (own_b (¬ (q0 = j38_s0) ∨ ((¬ (¬ (q0 = j38_s0) ∨ (j62_s0 < v45)) ∨ (¬ (¬ (j38_s0 = q0) ∨ (v45 < j62_s0))))))))] [])) target
            refine XS.iload Xg179.here hx rfl (hb hby at_225) rfl ?_
            exact kt
          by_cases c227 : ¬ (q0 = j38_s0) ∨ ((¬ (¬ (q0 = j38_s0) ∨ (j62_s0 < v45)) ∨ (¬ (¬ (j38_s0 = q0) ∨ (v45 < j62_s0)))))
          · refine own_st (B := Tg179.setTop (mkF m 235 #[.val (.long q0), .second, .val (.long q1), .second, .val (.long q2), .second, .val (.long q3), .second, .val (.int p4), .val (.int (own_b (¬ ((p4 &&& (1 : Int32)) = (0 : Int32))))), .val (.int (own_b (¬ ((p4 &&& (2 : Int32)) = (0 : Int32))))), .val (.long j38_s0), .second, .val (.long v45), .second, .val (.long j62_s0), .second, .val (.ref b64), .val (.ref b81), .val (.int (own_b (q0 = j38_s0))), .val (.int (own_b (¬ (q0 = j38_s0) ∨ (j62_s0 < v45)))), .val (.int (own_b (¬ (q0 = j38_s0) ∨ (v45 < j62_s0)))), .val (.int (own_b (¬ (q0 = j38_s0) ∨ (j62_s0 < v45)))), .val (.int (own_b (¬ (j38_s0 = q0) ∨ (v45 < j62_s0)))), .val (.int (own_b (¬ (q0 = q0) ∨ (v45 < v45)))), .val (.int (own_b (¬ (q0 = j38_s0) ∨ ((¬ (¬ (q0 = j38_s0) ∨ (j62_s0 < v45)) ∨ (¬ (¬ (j38_s0 = q0) ∨ (v45 < j62_s0))))))))] [(.int (1 : Int32))])) (fun target kt => ?_) ?_
            · show Steps p.tables e below (Tg179.setTop (mkF m 227 #[.val (.long q0), .second, .val (.long q1), .second, .val (.long q2), .second, .val (.long q3), .second, .val (.int p4), .val (.int (own_b (¬ ((p4 &&& (1 : Int32)) = (0 : Int32))))), .val (.int (own_b (¬ ((p4 &&& (2 : Int32)) = (0 : Int32))))), .val (.long j38_s0), .second, .val (.long v45), .second, .val (.long j62_s0), .second, .val (.ref b64), .val (.ref b81), .val (.int (own_b (q0 = j38_s0))), .val (.int (own_b (¬ (q0 = j38_s0) ∨ (j62_s0 < v45)))), .val (.int (own_b (¬ (q0 = j38_s0) ∨ (v45 < j62_s0)))), .val (.int (own_b (¬ (q0 = j38_s0) ∨ (j62_s0 < v45)))), .val (.int (own_b (¬ (j38_s0 = q0) ∨ (v45 < j62_s0)))), .val (.int (own_b (¬ (q0 = q0) ∨ (v45 < v45)))), .val (.int (own_b (¬ (q0 = j38_s0) ∨ ((¬ (¬ (q0 = j38_s0) ∨ (j62_s0 < v45)) ∨ (¬ (¬ (j38_s0 = q0) ∨ (v45 < j62_s0))))))))] [(.int (own_b (¬ (q0 = j38_s0) ∨ ((¬ (¬ (q0 = j38_s0) ∨ (j62_s0 < v45)) ∨ (¬ (¬ (j38_s0 = q0) ∨ (v45 < j62_s0))))))))])) target
              refine XS.ifNo Xg179.here hx rfl (hb hby at_227) rfl ((if0 _ _).trans (feq (own_bn0 rfl c227)).1) ?_
              show Steps p.tables e below (Tg179.setTop (mkF m 230 #[.val (.long q0), .second, .val (.long q1), .second, .val (.long q2), .second, .val (.long q3), .second, .val (.int p4), .val (.int (own_b (¬ ((p4 &&& (1 : Int32)) = (0 : Int32))))), .val (.int (own_b (¬ ((p4 &&& (2 : Int32)) = (0 : Int32))))), .val (.long j38_s0), .second, .val (.long v45), .second, .val (.long j62_s0), .second, .val (.ref b64), .val (.ref b81), .val (.int (own_b (q0 = j38_s0))), .val (.int (own_b (¬ (q0 = j38_s0) ∨ (j62_s0 < v45)))), .val (.int (own_b (¬ (q0 = j38_s0) ∨ (v45 < j62_s0)))), .val (.int (own_b (¬ (q0 = j38_s0) ∨ (j62_s0 < v45)))), .val (.int (own_b (¬ (j38_s0 = q0) ∨ (v45 < j62_s0)))), .val (.int (own_b (¬ (q0 = q0) ∨ (v45 < v45)))), .val (.int (own_b (¬ (q0 = j38_s0) ∨ ((¬ (¬ (q0 = j38_s0) ∨ (j62_s0 < v45)) ∨ (¬ (¬ (j38_s0 = q0) ∨ (v45 < j62_s0))))))))] [])) target
              refine XS.iconst Xg179.here hx rfl (hb hby at_230) ?_
              show Steps p.tables e below (Tg179.setTop (mkF m 231 #[.val (.long q0), .second, .val (.long q1), .second, .val (.long q2), .second, .val (.long q3), .second, .val (.int p4), .val (.int (own_b (¬ ((p4 &&& (1 : Int32)) = (0 : Int32))))), .val (.int (own_b (¬ ((p4 &&& (2 : Int32)) = (0 : Int32))))), .val (.long j38_s0), .second, .val (.long v45), .second, .val (.long j62_s0), .second, .val (.ref b64), .val (.ref b81), .val (.int (own_b (q0 = j38_s0))), .val (.int (own_b (¬ (q0 = j38_s0) ∨ (j62_s0 < v45)))), .val (.int (own_b (¬ (q0 = j38_s0) ∨ (v45 < j62_s0)))), .val (.int (own_b (¬ (q0 = j38_s0) ∨ (j62_s0 < v45)))), .val (.int (own_b (¬ (j38_s0 = q0) ∨ (v45 < j62_s0)))), .val (.int (own_b (¬ (q0 = q0) ∨ (v45 < v45)))), .val (.int (own_b (¬ (q0 = j38_s0) ∨ ((¬ (¬ (q0 = j38_s0) ∨ (j62_s0 < v45)) ∨ (¬ (¬ (j38_s0 = q0) ∨ (v45 < j62_s0))))))))] [(.int (1 : Int32))])) target
              refine XS.goto Xg179.here hx rfl (pc0 := 231) (pc' := 235) rfl (hb hby at_231) (by decide) (by decide) ?_
              exact kt
            exact ⟨_, ⟨(1 : Int32), rfl, (own_b1 ⟨c210, ⟨c217, ⟨c222, c227⟩⟩⟩).symm⟩, fun _ k => k⟩
          · refine own_st (B := Tg179.setTop (mkF m 235 #[.val (.long q0), .second, .val (.long q1), .second, .val (.long q2), .second, .val (.long q3), .second, .val (.int p4), .val (.int (own_b (¬ ((p4 &&& (1 : Int32)) = (0 : Int32))))), .val (.int (own_b (¬ ((p4 &&& (2 : Int32)) = (0 : Int32))))), .val (.long j38_s0), .second, .val (.long v45), .second, .val (.long j62_s0), .second, .val (.ref b64), .val (.ref b81), .val (.int (own_b (q0 = j38_s0))), .val (.int (own_b (¬ (q0 = j38_s0) ∨ (j62_s0 < v45)))), .val (.int (own_b (¬ (q0 = j38_s0) ∨ (v45 < j62_s0)))), .val (.int (own_b (¬ (q0 = j38_s0) ∨ (j62_s0 < v45)))), .val (.int (own_b (¬ (j38_s0 = q0) ∨ (v45 < j62_s0)))), .val (.int (own_b (¬ (q0 = q0) ∨ (v45 < v45)))), .val (.int (own_b (¬ (q0 = j38_s0) ∨ ((¬ (¬ (q0 = j38_s0) ∨ (j62_s0 < v45)) ∨ (¬ (¬ (j38_s0 = q0) ∨ (v45 < j62_s0))))))))] [(.int (0 : Int32))])) (fun target kt => ?_) ?_
            · show Steps p.tables e below (Tg179.setTop (mkF m 227 #[.val (.long q0), .second, .val (.long q1), .second, .val (.long q2), .second, .val (.long q3), .second, .val (.int p4), .val (.int (own_b (¬ ((p4 &&& (1 : Int32)) = (0 : Int32))))), .val (.int (own_b (¬ ((p4 &&& (2 : Int32)) = (0 : Int32))))), .val (.long j38_s0), .second, .val (.long v45), .second, .val (.long j62_s0), .second, .val (.ref b64), .val (.ref b81), .val (.int (own_b (q0 = j38_s0))), .val (.int (own_b (¬ (q0 = j38_s0) ∨ (j62_s0 < v45)))), .val (.int (own_b (¬ (q0 = j38_s0) ∨ (v45 < j62_s0)))), .val (.int (own_b (¬ (q0 = j38_s0) ∨ (j62_s0 < v45)))), .val (.int (own_b (¬ (j38_s0 = q0) ∨ (v45 < j62_s0)))), .val (.int (own_b (¬ (q0 = q0) ∨ (v45 < v45)))), .val (.int (own_b (¬ (q0 = j38_s0) ∨ ((¬ (¬ (q0 = j38_s0) ∨ (j62_s0 < v45)) ∨ (¬ (¬ (j38_s0 = q0) ∨ (v45 < j62_s0))))))))] [(.int (own_b (¬ (q0 = j38_s0) ∨ ((¬ (¬ (q0 = j38_s0) ∨ (j62_s0 < v45)) ∨ (¬ (¬ (j38_s0 = q0) ∨ (v45 < j62_s0))))))))])) target
              refine XS.ifYes Xg179.here hx rfl (pc0 := 227) (pc' := 234) rfl (hb hby at_227) rfl ((if0 _ _).trans (teq (own_b00 rfl c227)).1) (by decide) (by decide) ?_
              show Steps p.tables e below (Tg179.setTop (mkF m 234 #[.val (.long q0), .second, .val (.long q1), .second, .val (.long q2), .second, .val (.long q3), .second, .val (.int p4), .val (.int (own_b (¬ ((p4 &&& (1 : Int32)) = (0 : Int32))))), .val (.int (own_b (¬ ((p4 &&& (2 : Int32)) = (0 : Int32))))), .val (.long j38_s0), .second, .val (.long v45), .second, .val (.long j62_s0), .second, .val (.ref b64), .val (.ref b81), .val (.int (own_b (q0 = j38_s0))), .val (.int (own_b (¬ (q0 = j38_s0) ∨ (j62_s0 < v45)))), .val (.int (own_b (¬ (q0 = j38_s0) ∨ (v45 < j62_s0)))), .val (.int (own_b (¬ (q0 = j38_s0) ∨ (j62_s0 < v45)))), .val (.int (own_b (¬ (j38_s0 = q0) ∨ (v45 < j62_s0)))), .val (.int (own_b (¬ (q0 = q0) ∨ (v45 < v45)))), .val (.int (own_b (¬ (q0 = j38_s0) ∨ ((¬ (¬ (q0 = j38_s0) ∨ (j62_s0 < v45)) ∨ (¬ (¬ (j38_s0 = q0) ∨ (v45 < j62_s0))))))))] [])) target
              refine XS.iconst Xg179.here hx rfl (hb hby at_234) ?_
              exact kt
            exact ⟨_, ⟨(0 : Int32), rfl, (own_b0 (fun w => (fun w => (fun w => c227 w.2) w.2) w.2)).symm⟩, fun _ k => k⟩
      · refine own_st (B := Tg179.setTop (mkF m 235 #[.val (.long q0), .second, .val (.long q1), .second, .val (.long q2), .second, .val (.long q3), .second, .val (.int p4), .val (.int (own_b (¬ ((p4 &&& (1 : Int32)) = (0 : Int32))))), .val (.int (own_b (¬ ((p4 &&& (2 : Int32)) = (0 : Int32))))), .val (.long j38_s0), .second, .val (.long v45), .second, .val (.long j62_s0), .second, .val (.ref b64), .val (.ref b81), .val (.int (own_b (q0 = j38_s0))), .val (.int (own_b (¬ (q0 = j38_s0) ∨ (j62_s0 < v45)))), .val (.int (own_b (¬ (q0 = j38_s0) ∨ (v45 < j62_s0)))), .val (.int (own_b (¬ (q0 = j38_s0) ∨ (j62_s0 < v45)))), .val (.int (own_b (¬ (j38_s0 = q0) ∨ (v45 < j62_s0)))), .val (.int (own_b (¬ (q0 = q0) ∨ (v45 < v45)))), .val (.int (own_b (¬ (q0 = j38_s0) ∨ ((¬ (¬ (q0 = j38_s0) ∨ (j62_s0 < v45)) ∨ (¬ (¬ (j38_s0 = q0) ∨ (v45 < j62_s0))))))))] [(.int (0 : Int32))])) (fun target kt => ?_) ?_
        · show Steps p.tables e below (Tg179.setTop (mkF m 217 #[.val (.long q0), .second, .val (.long q1), .second, .val (.long q2), .second, .val (.long q3), .second, .val (.int p4), .val (.int (own_b (¬ ((p4 &&& (1 : Int32)) = (0 : Int32))))), .val (.int (own_b (¬ ((p4 &&& (2 : Int32)) = (0 : Int32))))), .val (.long j38_s0), .second, .val (.long v45), .second, .val (.long j62_s0), .second, .val (.ref b64), .val (.ref b81), .val (.int (own_b (q0 = j38_s0))), .val (.int (own_b (¬ (q0 = j38_s0) ∨ (j62_s0 < v45)))), .val (.int (own_b (¬ (q0 = j38_s0) ∨ (v45 < j62_s0)))), .val (.int (own_b (¬ (q0 = j38_s0) ∨ (j62_s0 < v45)))), .val (.int (own_b (¬ (j38_s0 = q0) ∨ (v45 < j62_s0)))), .val (.int (own_b (¬ (q0 = q0) ∨ (v45 < v45)))), .val (.int (own_b (¬ (q0 = j38_s0) ∨ ((¬ (¬ (q0 = j38_s0) ∨ (j62_s0 < v45)) ∨ (¬ (¬ (j38_s0 = q0) ∨ (v45 < j62_s0))))))))] [(.int (own_b (¬ (q0 = j38_s0) ∨ (v45 < j62_s0)))), (.int (own_b (¬ (j38_s0 = q0) ∨ (v45 < j62_s0))))])) target
          refine XS.icmpYes Xg179.here hx rfl (pc0 := 217) (pc' := 234) rfl (hb hby at_217) rfl (feq (own_bbn rfl rfl c217)).2 (by decide) (by decide) ?_
          show Steps p.tables e below (Tg179.setTop (mkF m 234 #[.val (.long q0), .second, .val (.long q1), .second, .val (.long q2), .second, .val (.long q3), .second, .val (.int p4), .val (.int (own_b (¬ ((p4 &&& (1 : Int32)) = (0 : Int32))))), .val (.int (own_b (¬ ((p4 &&& (2 : Int32)) = (0 : Int32))))), .val (.long j38_s0), .second, .val (.long v45), .second, .val (.long j62_s0), .second, .val (.ref b64), .val (.ref b81), .val (.int (own_b (q0 = j38_s0))), .val (.int (own_b (¬ (q0 = j38_s0) ∨ (j62_s0 < v45)))), .val (.int (own_b (¬ (q0 = j38_s0) ∨ (v45 < j62_s0)))), .val (.int (own_b (¬ (q0 = j38_s0) ∨ (j62_s0 < v45)))), .val (.int (own_b (¬ (j38_s0 = q0) ∨ (v45 < j62_s0)))), .val (.int (own_b (¬ (q0 = q0) ∨ (v45 < v45)))), .val (.int (own_b (¬ (q0 = j38_s0) ∨ ((¬ (¬ (q0 = j38_s0) ∨ (j62_s0 < v45)) ∨ (¬ (¬ (j38_s0 = q0) ∨ (v45 < j62_s0))))))))] [])) target
          refine XS.iconst Xg179.here hx rfl (hb hby at_234) ?_
          exact kt
        exact ⟨_, ⟨(0 : Int32), rfl, (own_b0 (fun w => (fun w => c217 w.1) w.2)).symm⟩, fun _ k => k⟩
    · refine own_st (B := Tg179.setTop (mkF m 235 #[.val (.long q0), .second, .val (.long q1), .second, .val (.long q2), .second, .val (.long q3), .second, .val (.int p4), .val (.int (own_b (¬ ((p4 &&& (1 : Int32)) = (0 : Int32))))), .val (.int (own_b (¬ ((p4 &&& (2 : Int32)) = (0 : Int32))))), .val (.long j38_s0), .second, .val (.long v45), .second, .val (.long j62_s0), .second, .val (.ref b64), .val (.ref b81), .val (.int (own_b (q0 = j38_s0))), .val (.int (own_b (¬ (q0 = j38_s0) ∨ (j62_s0 < v45)))), .val (.int (own_b (¬ (q0 = j38_s0) ∨ (v45 < j62_s0)))), .val (.int (own_b (¬ (q0 = j38_s0) ∨ (j62_s0 < v45)))), .val (.int (own_b (¬ (j38_s0 = q0) ∨ (v45 < j62_s0)))), .val (.int (own_b (¬ (q0 = q0) ∨ (v45 < v45)))), .val (.int (own_b (¬ (q0 = j38_s0) ∨ ((¬ (¬ (q0 = j38_s0) ∨ (j62_s0 < v45)) ∨ (¬ (¬ (j38_s0 = q0) ∨ (v45 < j62_s0))))))))] [(.int (0 : Int32))])) (fun target kt => ?_) ?_
      · show Steps p.tables e below (Tg179.setTop (mkF m 210 #[.val (.long q0), .second, .val (.long q1), .second, .val (.long q2), .second, .val (.long q3), .second, .val (.int p4), .val (.int (own_b (¬ ((p4 &&& (1 : Int32)) = (0 : Int32))))), .val (.int (own_b (¬ ((p4 &&& (2 : Int32)) = (0 : Int32))))), .val (.long j38_s0), .second, .val (.long v45), .second, .val (.long j62_s0), .second, .val (.ref b64), .val (.ref b81), .val (.int (own_b (q0 = j38_s0))), .val (.int (own_b (¬ (q0 = j38_s0) ∨ (j62_s0 < v45)))), .val (.int (own_b (¬ (q0 = j38_s0) ∨ (v45 < j62_s0)))), .val (.int (own_b (¬ (q0 = j38_s0) ∨ (j62_s0 < v45)))), .val (.int (own_b (¬ (j38_s0 = q0) ∨ (v45 < j62_s0)))), .val (.int (own_b (¬ (q0 = q0) ∨ (v45 < v45)))), .val (.int (own_b (¬ (q0 = j38_s0) ∨ ((¬ (¬ (q0 = j38_s0) ∨ (j62_s0 < v45)) ∨ (¬ (¬ (j38_s0 = q0) ∨ (v45 < j62_s0))))))))] [(.int (own_b (¬ (q0 = j38_s0) ∨ (j62_s0 < v45)))), (.int (own_b (¬ (q0 = j38_s0) ∨ (j62_s0 < v45))))])) target
        refine XS.icmpYes Xg179.here hx rfl (pc0 := 210) (pc' := 234) rfl (hb hby at_210) rfl (feq (own_bbn rfl rfl c210)).2 (by decide) (by decide) ?_
        show Steps p.tables e below (Tg179.setTop (mkF m 234 #[.val (.long q0), .second, .val (.long q1), .second, .val (.long q2), .second, .val (.long q3), .second, .val (.int p4), .val (.int (own_b (¬ ((p4 &&& (1 : Int32)) = (0 : Int32))))), .val (.int (own_b (¬ ((p4 &&& (2 : Int32)) = (0 : Int32))))), .val (.long j38_s0), .second, .val (.long v45), .second, .val (.long j62_s0), .second, .val (.ref b64), .val (.ref b81), .val (.int (own_b (q0 = j38_s0))), .val (.int (own_b (¬ (q0 = j38_s0) ∨ (j62_s0 < v45)))), .val (.int (own_b (¬ (q0 = j38_s0) ∨ (v45 < j62_s0)))), .val (.int (own_b (¬ (q0 = j38_s0) ∨ (j62_s0 < v45)))), .val (.int (own_b (¬ (j38_s0 = q0) ∨ (v45 < j62_s0)))), .val (.int (own_b (¬ (q0 = q0) ∨ (v45 < v45)))), .val (.int (own_b (¬ (q0 = j38_s0) ∨ ((¬ (¬ (q0 = j38_s0) ∨ (j62_s0 < v45)) ∨ (¬ (¬ (j38_s0 = q0) ∨ (v45 < j62_s0))))))))] [])) target
        refine XS.iconst Xg179.here hx rfl (hb hby at_234) ?_
        exact kt
      exact ⟨_, ⟨(0 : Int32), rfl, (own_b0 (fun w => c210 w.1)).symm⟩, fun _ k => k⟩
  refine own_st st_M235 ?_
  have h1v : (own_b (((¬ (q0 = j38_s0) ∨ (j62_s0 < v45)) ↔ (¬ (q0 = j38_s0) ∨ (j62_s0 < v45))) ∧ ((((¬ (j38_s0 = q0) ∨ (v45 < j62_s0)) ↔ (¬ (q0 = j38_s0) ∨ (v45 < j62_s0))) ∧ ((¬ (¬ (q0 = q0) ∨ (v45 < v45)) ∧ (¬ (q0 = j38_s0) ∨ ((¬ (¬ (q0 = j38_s0) ∨ (j62_s0 < v45)) ∨ (¬ (¬ (j38_s0 = q0) ∨ (v45 < j62_s0)))))))))))) = 1 := by
    exact own_b1 (own_law q0 j38_s0 j62_s0 v45)
  rw [h1v]
  obtain ⟨fs, hr, hrun, hended, hRW⟩ := Xg179.leaveW hS (show _ ≤ Tg179.heap.size by rw [eg179]; exact hk) (v := some (.int (1 : Int32))) (fun h => by rw [Bd.returns] at h; cases h)
  have hend : Steps p.tables e below (Tg179.setTop (mkF m 235 #[.val (.long q0), .second, .val (.long q1), .second, .val (.long q2), .second, .val (.long q3), .second, .val (.int p4), .val (.int (own_b (¬ ((p4 &&& (1 : Int32)) = (0 : Int32))))), .val (.int (own_b (¬ ((p4 &&& (2 : Int32)) = (0 : Int32))))), .val (.long j38_s0), .second, .val (.long v45), .second, .val (.long j62_s0), .second, .val (.ref b64), .val (.ref b81), .val (.int (own_b (q0 = j38_s0))), .val (.int (own_b (¬ (q0 = j38_s0) ∨ (j62_s0 < v45)))), .val (.int (own_b (¬ (q0 = j38_s0) ∨ (v45 < j62_s0)))), .val (.int (own_b (¬ (q0 = j38_s0) ∨ (j62_s0 < v45)))), .val (.int (own_b (¬ (j38_s0 = q0) ∨ (v45 < j62_s0)))), .val (.int (own_b (¬ (q0 = q0) ∨ (v45 < v45)))), .val (.int (own_b (¬ (q0 = j38_s0) ∨ ((¬ (¬ (q0 = j38_s0) ∨ (j62_s0 < v45)) ∨ (¬ (¬ (j38_s0 = q0) ∨ (v45 < j62_s0))))))))] [(.int (1 : Int32))])) (Tg179.setFrames fs) := by
    exact retN Xg179 hx (t := .boolean) Bd.returns (by simp) (hb hby at_235) hr
  refine own_fin hend ⟨_, hrun, hended, _, _, rfl, ?_, ⟨_, rfl⟩, hRW.2.1, hRW.2.2.1, hRW.2.2.2.mono (by decide) (by decide)⟩
  show own_Q0 Z q0 q1 q2 q3 p4 cs vf h0 n0 _ Tg179.heap _
  rw [eg179]
  exact ⟨rfl, Ng179⟩
set_option maxRecDepth 65536 in
set_option maxHeartbeats 40000000 in
theorem own_comes_1 {Post : Tables → Env → Array Value → State → Outcome → State → Prop} (hpost : ∀ tb e args s v u, (limb_1_1.after args s (.returned v) u = true ∧ limb_1_2.after args s (.returned v) u = true ∧ True) → ReturnedEndW s (.returned v) u (Jvm.fieldLocs frame_1_writes args s ++ Jvm.arrayLocs frame_1_arrays args s ++ Jvm.staticLocs frame_1_statics s) 24 4224 → Post tb e args s (.returned v) u) :
    ArmFor flags0 classFile x code maxLocals ret World_1 tables_1 room_1 Calls_1 rest_1 Pre_1 Post := by
  intro l hfl _ _ p e ha hc hk s m args below hf hA hF happ hP
  obtain ⟨hcalls, hrest, hpre⟩ := hP
  obtain ⟨-, -, -, hnamed, -, -, -, hat⟩ := (Spec.applies_iff hf).mp happ
  obtain ⟨hg, hn⟩ := and_e (Cond.before_iff.mp (show (Jvm.Cond.and given_1 narrow_1).before args s = true from hpre))
  obtain ⟨g1, g2⟩ := and_e hg
  obtain ⟨g3, g4⟩ := and_e g2
  obtain ⟨g5, g6⟩ := and_e g4
  obtain ⟨g7, g8⟩ := and_e g6
  obtain ⟨g9, g10⟩ := and_e g8
  obtain ⟨w0, w1, w2, w3, w4, rfl⟩ : ∃ w0 w1 w2 w3 w4 : Value, args = #[w0, w1, w2, w3, w4] := by
    have hs : args.size = 5 := by simpa [Cond.value, given_1] using g1
    obtain ⟨L⟩ := args
    match L, hs with
    | [w0, w1, w2, w3, w4], _ => exact ⟨w0, w1, w2, w3, w4, rfl⟩
  have hw := fun d (hd : d ∈ tables_1) => atoms_spec (ws := Jvm.Cond.code x code maxLocals ret :: tables_1) hat d (List.mem_cons_of_mem _ hd)
  obtain ⟨hsets, hown0⟩ := atoms_of _ (rest_1_c_eq ▸ (show rest_1_c.before _ s = true from hrest))
  have n3 := not_v (Cond.before_iff.mp (hsets _ (List.mem_of_getElem? (i := 2) rfl)))
  obtain ⟨cs, e6⟩ := is_v (Cond.before_iff.mp (hsets _ (List.mem_of_getElem? (i := 1) rfl)))
  have S8 : Sta s s.heap "java/lang/String" "COMPACT_STRINGS" "Z" (.int cs) := Sta.start e6 (Or.inl (hsets _ (List.mem_of_getElem? (i := 0) rfl)))
  obtain ⟨vf, e10, r11⟩ := isR_v (Cond.before_iff.mp (hsets _ (List.mem_of_getElem? (i := 8) rfl)))
  have S12 : Sta s s.heap "jdk/internal/util/Preconditions" "SIOOBE_FORMATTER" "Ljava/util/function/BiFunction;" vf := Sta.start e10 (Or.inl (hsets _ (List.mem_of_getElem? (i := 7) rfl)))
  have c13 : ¬ (cs = (0 : Int32)) := gotF (Cond.eq_ints e6 (Term.int_eval (0))) n3
  have hcw0 : Jvm.Lit.compactW.before _ s = true := hsets _ (List.mem_of_getElem? (i := 2) rfl)
  have hheld0 : Jvm.D.constsHeld consts_1 s := (show call_1_1 _ _ _ s ∧ True from hcalls).1
  have hheld1 : Jvm.Lit.constHeld s "ringward/PostIsAfterPinLaw" 19 := hheld0 ("ringward/PostIsAfterPinLaw", 19) (List.mem_of_getElem? (i := 2) rfl)
  obtain ⟨i0, ei0⟩ := isL_v g3
  obtain rfl : w0 = (.long i0) := Option.some.inj ei0
  obtain ⟨i1, ei1⟩ := isL_v g5
  obtain rfl : w1 = (.long i1) := Option.some.inj ei1
  obtain ⟨i2, ei2⟩ := isL_v g7
  obtain rfl : w2 = (.long i2) := Option.some.inj ei2
  obtain ⟨i3, ei3⟩ := isL_v g9
  obtain rfl : w3 = (.long i3) := Option.some.inj ei3
  obtain ⟨i4, ei4⟩ := is_v g10
  obtain rfl : w4 = (.int i4) := Option.some.inj ei4
  obtain ⟨n, o, h1, h2, h3, _, L, rfl, ⟨rfl, N⟩, hq⟩ := own_rm0 l s _ hw tables_1 i0 i1 i2 i3 i4 cs vf s.heap s.heap.size (Nat.le_refl _) S8 c13 S12 r11 hheld1 hcw0 rfl p e ha hc hk s m _ below hf ((Spec.applies_iff_loose hf).mp happ).1 ⟨rfl, State.Warmed39.refl s, rfl, IB.start, fun _ _ q => q⟩ trivial
  refine ⟨n, _, h1, h2, h3, hpost _ _ _ _ _ _ ⟨Cond.after_iff.mpr rfl, Cond.after_iff.mpr (eq_i res_at (Term.int_eval (1)) rfl), trivial⟩ ⟨hq.1, hq.2.1, hq.2.2.1, (hq.2.2.2.sift fun y hy => Or.inr (N y hy)).mono (by decide) (by decide)⟩⟩
theorem main_1_1 : Claimed_1_1 := own_comes_1 fun _ _ _ _ _ _ h hF => ⟨h.1, hF⟩
theorem main_1_2 : Claimed_1_2 := own_comes_1 fun _ _ _ _ _ _ h hF => ⟨h.2.1, hF⟩
end Jvm.Pilot.@@N@@
namespace Jvm.Pilot.@@N@@
open Jvm Jvm.ClassFile Sem Op Lib Jvm.Free Jvm.Stand Jvm.Pilot.@@N@@.Jvm.D
/-! MADE BY PROGRAM (witnessworld.py) out of the Statement's table words and the real class files: 21 classes; the members and pool entries that the words name. The judged class is class 1, her method 2. -/
namespace start1
open Jvm.ClassFile
def u (s : String) : CpInfo := .utf8 (stringToUtf16 s)
/-- a pool by its gaps: so many unusable entries, then the entry; so many at the end -/
def gap : Nat → List CpInfo → List CpInfo
  | 0, r => r
  | n + 1, r => .unusable :: gap n r
def poolList (es : List (Nat × CpInfo)) (last : Nat) : List CpInfo := es.foldr (fun e r => gap e.1 (e.2 :: r)) (gap last [])
def pool (es : List (Nat × CpInfo)) (last : Nat) : Array CpInfo := ⟨poolList es last⟩
def fileOf (pool : Array CpInfo) (this : Nat) (attrs : Array Attribute := #[]) (ms : Array MethodInfo := #[]) (fl : Nat := 33) (sup : Nat := 0) (ifs : Array Nat := #[]) (fds : Array FieldInfo := #[]) : ClassFile where
  minorVersion := 0
  majorVersion := 65
  constantPool := pool
  accessFlags := fl
  thisClass := this
  superClass := sup
  interfaces := ifs
  fields := fds
  methods := ms
  attributes := attrs
def plain (name : String) (sup : Option ClassId) : Class where
  name := name
  kind := .ordinary
  loader := none
  accessFlags := 33
  super := sup
  interfaces := #[]
  cf := none
  fields := #[]
  methods := #[]
  instanceTypes := #[]
  staticTypes := #[]
  resolved := #[]
  callSites := []
  init := .initialized
  statics := none
  mirror := none

def pool0 : Array CpInfo := pool [(5, u "<init>"), (0, u "()V"), (1, .class_ 10), (1, u "java/lang/Object")] 113

def k0c0 : Code := { maxStack := 0, maxLocals := 1, code := object_method_1_code, exceptionTable := #[], attributes := #[] }
def k0m0 : Method := { name := "<init>", desc := "()V", sig := { parameters := [], returnType := none }, accessFlags := 1, code := some k0c0 }
/-- java/lang/Object -/
def k0 : Class := { plain "java/lang/Object" none with
  accessFlags := 33
  interfaces := #[]
  cf := some (fileOf pool0 8 #[] #[{ accessFlags := 1, nameIndex := 5, descriptorIndex := 6, attributes := #[] }] 33 0 #[] #[])
  fields := #[]
  methods := #[k0m0]
  instanceTypes := #[]
  staticTypes := #[]
  resolved := Array.replicate 124 none
  statics := none }

def pool1 : Array CpInfo := pool [(2, .class_ 4), (1, u "java/lang/Object"), (0, u "<init>"), (0, u "()V"), (2, .long 9223372036854775807), (1, .methodref 12 13), (0, .class_ 14), (0, .nameAndType 15 16), (0, u "ringward/PostIsAfterPinLaw"), (0, u "number"), (0, u "(J)J"), (0, .class_ 18), (0, u "ringward/Message$Post"), (0, .string 20), (0, u "n"), (0, .string 22), (0, u ""), (0, .methodref 17 24), (0, .nameAndType 5 25), (0, u "(Ljava/lang/String;JJJLjava/lang/String;)V"), (0, .methodref 17 27), (0, .nameAndType 28 29), (0, u "isAfter"), (0, u "(Lringward/Message$Post;)Z"), (3, u "law"), (0, u "(JJJJI)Z")] 6

def k1m0 : Method := { name := "<init>", desc := "()V", sig := { parameters := [], returnType := none }, accessFlags := 1, code := none }
def k1c1 : Code := { maxStack := 4, maxLocals := 4, code := method_2_code, exceptionTable := #[], attributes := #[] }
def k1m1 : Method := { name := "number", desc := "(J)J", sig := { parameters := [.long], returnType := some .long }, accessFlags := 10, code := some k1c1 }
def k1c2 : Code := { maxStack := 10, maxLocals := 26, code := code, exceptionTable := #[], attributes := #[] }
def k1m2 : Method := { name := "law", desc := "(JJJJI)Z", sig := { parameters := [.long, .long, .long, .long, .int], returnType := some .boolean }, accessFlags := 9, code := some k1c2 }
/-- ringward/PostIsAfterPinLaw -/
def k1 : Class := { plain "ringward/PostIsAfterPinLaw" (some 0) with
  accessFlags := 49
  interfaces := #[]
  cf := some (fileOf pool1 12 #[] #[{ accessFlags := 1, nameIndex := 5, descriptorIndex := 6, attributes := #[] }, { accessFlags := 10, nameIndex := 15, descriptorIndex := 16, attributes := #[] }, { accessFlags := 9, nameIndex := 33, descriptorIndex := 34, attributes := #[] }] 49 2 #[] #[])
  fields := #[]
  methods := #[k1m0, k1m1, k1m2]
  instanceTypes := #[]
  staticTypes := #[]
  resolved := Array.replicate 41 none
  statics := none }

def pool2 : Array CpInfo := pool [(1, .methodref 2 3), (0, .class_ 4), (0, .nameAndType 5 6), (0, u "java/lang/Object"), (0, u "<init>"), (0, u "()V"), (0, .class_ 8), (0, u "java/lang/Record")] 13

def k2c0 : Code := { maxStack := 1, maxLocals := 1, code := jdk_30_method_1_code, exceptionTable := #[], attributes := #[] }
def k2m0 : Method := { name := "<init>", desc := "()V", sig := { parameters := [], returnType := none }, accessFlags := 4, code := some k2c0 }
/-- java/lang/Record -/
def k2 : Class := { plain "java/lang/Record" (some 0) with
  accessFlags := 1057
  interfaces := #[]
  cf := some (fileOf pool2 7 #[] #[{ accessFlags := 4, nameIndex := 5, descriptorIndex := 6, attributes := #[] }] 1057 2 #[] #[])
  fields := #[]
  methods := #[k2m0]
  instanceTypes := #[]
  staticTypes := #[]
  resolved := Array.replicate 22 none
  statics := none }

def pool3 : Array CpInfo := pool [(11, .class_ 12), (0, u "ringward/Message"), (0, .class_ 14), (0, u "java/lang/Object"), (8, .class_ 24), (0, u "ringward/Message$From"), (0, .class_ 26), (0, u "ringward/Message$Attached"), (0, .class_ 28), (0, u "ringward/Message$Follow"), (0, .class_ 30), (0, u "ringward/Message$Removed"), (0, .class_ 32), (0, u "ringward/Message$Leave"), (0, .class_ 34), (0, u "ringward/Message$SilentSoon"), (0, .class_ 36), (0, u "ringward/Message$Silent"), (0, .class_ 38), (0, u "ringward/Message$Pong"), (0, .class_ 40), (0, u "ringward/Message$Ping"), (0, .class_ 42), (0, u "ringward/Message$BatchCommit"), (0, .class_ 44), (0, u "ringward/Message$BatchApplied"), (0, .class_ 46), (0, u "ringward/Message$BatchHeld"), (0, .class_ 48), (0, u "ringward/Message$Batch"), (0, .class_ 50), (0, u "ringward/Message$Post"), (0, .class_ 52), (0, u "ringward/Message$Commit"), (0, .class_ 54), (0, u "ringward/Message$Applied"), (0, .class_ 56), (0, u "ringward/Message$Prepared"), (0, .class_ 58), (0, u "ringward/Message$Prepare"), (0, .class_ 60), (0, u "ringward/Message$StepCommit"), (0, .class_ 62), (0, u "ringward/Message$Offer"), (0, .class_ 64), (0, u "ringward/Message$Welcome"), (0, .class_ 66), (0, u "ringward/Message$Refused"), (0, .class_ 68), (0, u "ringward/Message$Accepted"), (0, .class_ 70), (0, u "ringward/Message$Redirect"), (0, .class_ 72), (0, u "ringward/Message$NotMember"), (0, .class_ 74), (0, u "ringward/Message$JoinRequest")] 42

/-- ringward/Message -/
def k3 : Class := { plain "ringward/Message" (some 0) with
  accessFlags := 1536
  interfaces := #[]
  cf := some (fileOf pool3 11 #[.nestMembers #[23, 25, 27, 29, 31, 33, 35, 37, 39, 41, 43, 45, 47, 49, 51, 53, 55, 57, 59, 61, 63, 65, 67, 69, 71, 73]] #[] 1536 13 #[] #[])
  fields := #[]
  methods := #[]
  instanceTypes := #[]
  staticTypes := #[]
  resolved := Array.replicate 117 none
  statics := none }

def pool4 : Array CpInfo := pool [(1, .methodref 2 3), (0, .class_ 4), (0, .nameAndType 5 6), (0, u "java/lang/Record"), (0, u "<init>"), (0, u "()V"), (0, .methodref 8 9), (0, .class_ 10), (0, .nameAndType 11 12), (0, u "ringward/NodeConfig"), (0, u "requireValidName"), (0, u "(Ljava/lang/String;)Ljava/lang/String;"), (0, .string 14), (0, u "'payload' must not be null"), (0, .methodref 16 17), (0, .class_ 18), (0, .nameAndType 19 20), (0, u "java/util/Objects"), (0, u "requireNonNull"), (0, u "(Ljava/lang/Object;Ljava/lang/String;)Ljava/lang/Object;"), (9, .fieldref 31 32), (0, .class_ 33), (0, .nameAndType 34 35), (0, u "ringward/Message$Post"), (0, u "sender"), (0, u "Ljava/lang/String;"), (0, .fieldref 31 37), (0, .nameAndType 38 39), (0, u "run"), (0, u "J"), (0, .fieldref 31 41), (0, .nameAndType 42 39), (0, u "number"), (0, .fieldref 31 44), (0, .nameAndType 45 39), (0, u "first"), (0, .fieldref 31 47), (0, .nameAndType 48 35), (0, u "payload"), (37, .class_ 87), (0, u "ringward/Message"), (0, u "MAX_PAYLOAD_BYTES"), (0, u "I"), (2, u "(Ljava/lang/String;JJJLjava/lang/String;)V"), (4, u "isAfter"), (0, u "(Lringward/Message$Post;)Z")] 41

def k4c0 : Code := { maxStack := 6, maxLocals := 9, code := prog_41_method_1_code, exceptionTable := #[], attributes := #[] }
def k4m0 : Method := { name := "<init>", desc := "(Ljava/lang/String;JJJLjava/lang/String;)V", sig := { parameters := [(.object "java/lang/String"), .long, .long, .long, (.object "java/lang/String")], returnType := none }, accessFlags := 1, code := some k4c0 }
def k4c1 : Code := { maxStack := 4, maxLocals := 2, code := prog_41_method_2_code, exceptionTable := #[], attributes := #[] }
def k4m1 : Method := { name := "isAfter", desc := "(Lringward/Message$Post;)Z", sig := { parameters := [(.object "ringward/Message$Post")], returnType := some .boolean }, accessFlags := 0, code := some k4c1 }
/-- ringward/Message$Post -/
def k4 : Class := { plain "ringward/Message$Post" (some 2) with
  accessFlags := 49
  interfaces := #[3]
  cf := some (fileOf pool4 31 #[.nestHost 86] #[{ accessFlags := 1, nameIndex := 5, descriptorIndex := 92, attributes := #[] }, { accessFlags := 0, nameIndex := 97, descriptorIndex := 98, attributes := #[] }] 49 2 #[86] #[{ accessFlags := 18, nameIndex := 34, descriptorIndex := 35, attributes := #[] }, { accessFlags := 18, nameIndex := 38, descriptorIndex := 39, attributes := #[] }, { accessFlags := 18, nameIndex := 42, descriptorIndex := 39, attributes := #[] }, { accessFlags := 18, nameIndex := 45, descriptorIndex := 39, attributes := #[] }, { accessFlags := 18, nameIndex := 48, descriptorIndex := 35, attributes := #[] }, { accessFlags := 24, nameIndex := 88, descriptorIndex := 89, attributes := #[] }])
  fields := #[{ name := "sender", type := (.object "java/lang/String"), accessFlags := 18, slot := 0, constantValue := 0 }, { name := "run", type := .long, accessFlags := 18, slot := 1, constantValue := 0 }, { name := "number", type := .long, accessFlags := 18, slot := 2, constantValue := 0 }, { name := "first", type := .long, accessFlags := 18, slot := 3, constantValue := 0 }, { name := "payload", type := (.object "java/lang/String"), accessFlags := 18, slot := 4, constantValue := 0 }, { name := "MAX_PAYLOAD_BYTES", type := .int, accessFlags := 24, slot := 0, constantValue := 0 }]
  methods := #[k4m0, k4m1]
  instanceTypes := #[(.object "java/lang/String"), .long, .long, .long, (.object "java/lang/String")]
  staticTypes := #[.int]
  resolved := Array.replicate 140 none
  statics := none }

def pool5 : Array CpInfo := pool [(1, .class_ 2), (0, u "java/io/Serializable"), (0, .class_ 4), (0, u "java/lang/Object")] 2

/-- java/io/Serializable -/
def k5 : Class := { plain "java/io/Serializable" (some 0) with
  accessFlags := 1537
  interfaces := #[]
  cf := some (fileOf pool5 1 #[] #[] 1537 3 #[] #[])
  fields := #[]
  methods := #[]
  instanceTypes := #[]
  staticTypes := #[]
  resolved := Array.replicate 7 none
  statics := none }

def pool6 : Array CpInfo := pool [(1, .class_ 2), (0, u "java/lang/Comparable"), (0, .class_ 4), (0, u "java/lang/Object")] 7

/-- java/lang/Comparable -/
def k6 : Class := { plain "java/lang/Comparable" (some 0) with
  accessFlags := 1537
  interfaces := #[]
  cf := some (fileOf pool6 1 #[] #[] 1537 3 #[] #[])
  fields := #[]
  methods := #[]
  instanceTypes := #[]
  staticTypes := #[]
  resolved := Array.replicate 12 none
  statics := none }

def pool7 : Array CpInfo := pool [(2, .class_ 4), (1, u "java/lang/CharSequence"), (42, .class_ 48), (0, u "java/lang/CharSequence$1CodePointIterator"), (10, .class_ 60), (0, u "java/lang/CharSequence$1CharIterator"), (5, .class_ 67), (0, u "java/lang/Object")] 63

/-- java/lang/CharSequence -/
def k7 : Class := { plain "java/lang/CharSequence" (some 0) with
  accessFlags := 1537
  interfaces := #[]
  cf := some (fileOf pool7 2 #[.nestMembers #[47, 59]] #[] 1537 66 #[] #[])
  fields := #[]
  methods := #[]
  instanceTypes := #[]
  staticTypes := #[]
  resolved := Array.replicate 131 none
  statics := none }

def pool8 : Array CpInfo := pool [(1, .class_ 2), (0, u "java/lang/constant/Constable"), (0, .class_ 4), (0, u "java/lang/Object")] 6

/-- java/lang/constant/Constable -/
def k8 : Class := { plain "java/lang/constant/Constable" (some 0) with
  accessFlags := 1537
  interfaces := #[]
  cf := some (fileOf pool8 1 #[] #[] 1537 3 #[] #[])
  fields := #[]
  methods := #[]
  instanceTypes := #[]
  staticTypes := #[]
  resolved := Array.replicate 11 none
  statics := none }

def pool9 : Array CpInfo := pool [(1, .class_ 2), (0, u "java/lang/constant/ConstantDesc"), (0, .class_ 4), (0, u "java/lang/Object")] 32

/-- java/lang/constant/ConstantDesc -/
def k9 : Class := { plain "java/lang/constant/ConstantDesc" (some 0) with
  accessFlags := 1537
  interfaces := #[]
  cf := some (fileOf pool9 1 #[] #[] 1537 3 #[] #[])
  fields := #[]
  methods := #[]
  instanceTypes := #[]
  staticTypes := #[]
  resolved := Array.replicate 37 none
  statics := none }

def pool10 : Array CpInfo := pool [(2, .class_ 4), (1, u "java/lang/Object"), (0, u "<init>"), (0, u "()V"), (2, .fieldref 10 11), (0, .class_ 12), (0, .nameAndType 13 14), (0, u "java/lang/String"), (0, u "value"), (0, u "[B"), (0, .fieldref 10 16), (0, .nameAndType 17 18), (0, u "coder"), (0, u "B"), (2, u "hash"), (0, u "I"), (2, u "hashIsZero"), (0, u "Z"), (11, .fieldref 10 39), (0, .nameAndType 40 26), (0, u "COMPACT_STRINGS"), (66, .class_ 109), (1, u "java/lang/StringLatin1"), (32, u "()Z"), (191, u "()I"), (0, .methodref 10 336), (0, .nameAndType 17 337), (0, u "()B"), (25, u "([BI)C"), (27, u "(II)V"), (35, u "(I)C"), (64, .methodref 10 493), (0, .nameAndType 494 142), (0, u "isLatin1"), (0, .methodref 107 496), (0, .nameAndType 497 363), (0, u "charAt"), (3, u "checkIndex"), (5, u "length"), (67, .class_ 576), (0, u "java/lang/CharSequence"), (22, u "CASE_INSENSITIVE_ORDER"), (0, u "Ljava/util/Comparator;"), (91, u "isEmpty"), (360, .fieldref 1054 1055), (0, .class_ 1056), (0, .nameAndType 1057 1058), (0, u "jdk/internal/util/Preconditions"), (0, u "SIOOBE_FORMATTER"), (0, u "Ljava/util/function/BiFunction;"), (0, .methodref 1054 1060), (0, .nameAndType 501 1061), (0, u "(IILjava/util/function/BiFunction;)I"), (39, u "serialPersistentFields"), (0, u "[Ljava/io/ObjectStreamField;"), (0, .class_ 1104), (0, u "java/lang/String$CaseInsensitiveComparator"), (1, .class_ 1107), (0, u "java/io/Serializable"), (0, .class_ 1109), (0, u "java/lang/Comparable"), (0, .class_ 1111), (0, u "java/lang/constant/Constable"), (0, .class_ 1113), (0, u "java/lang/constant/ConstantDesc"), (2, u "serialVersionUID"), (0, u "J"), (3, u "REPL"), (0, u "C"), (2, u "LATIN1"), (1, u "UTF16")] 323

def k10m0 : Method := { name := "<init>", desc := "()V", sig := { parameters := [], returnType := none }, accessFlags := 1, code := none }
def k10c1 : Code := { maxStack := 2, maxLocals := 1, code := jdk_42_method_54_code, exceptionTable := #[], attributes := #[] }
def k10m1 : Method := { name := "length", desc := "()I", sig := { parameters := [], returnType := some .int }, accessFlags := 1, code := some k10c1 }
def k10c2 : Code := { maxStack := 1, maxLocals := 1, code := jdk_42_method_55_code, exceptionTable := #[], attributes := #[] }
def k10m2 : Method := { name := "isEmpty", desc := "()Z", sig := { parameters := [], returnType := some .boolean }, accessFlags := 1, code := some k10c2 }
def k10c3 : Code := { maxStack := 2, maxLocals := 2, code := jdk_42_method_56_code, exceptionTable := #[], attributes := #[] }
def k10m3 : Method := { name := "charAt", desc := "(I)C", sig := { parameters := [.int], returnType := some .char }, accessFlags := 1, code := some k10c3 }
def k10c4 : Code := { maxStack := 1, maxLocals := 1, code := jdk_42_method_152_code, exceptionTable := #[], attributes := #[] }
def k10m4 : Method := { name := "coder", desc := "()B", sig := { parameters := [], returnType := some .byte }, accessFlags := 0, code := some k10c4 }
def k10c5 : Code := { maxStack := 1, maxLocals := 1, code := jdk_42_method_154_code, exceptionTable := #[], attributes := #[] }
def k10m5 : Method := { name := "isLatin1", desc := "()Z", sig := { parameters := [], returnType := some .boolean }, accessFlags := 0, code := some k10c5 }
def k10c6 : Code := { maxStack := 3, maxLocals := 2, code := jdk_42_method_155_code, exceptionTable := #[], attributes := #[] }
def k10m6 : Method := { name := "checkIndex", desc := "(II)V", sig := { parameters := [.int, .int], returnType := none }, accessFlags := 8, code := some k10c6 }
/-- java/lang/String -/
def k10 : Class := { plain "java/lang/String" (some 0) with
  accessFlags := 49
  interfaces := #[5, 6, 7, 8, 9]
  cf := some (fileOf pool10 10 #[.nestMembers #[1103]] #[{ accessFlags := 1, nameIndex := 5, descriptorIndex := 6, attributes := #[] }, { accessFlags := 1, nameIndex := 507, descriptorIndex := 334, attributes := #[] }, { accessFlags := 1, nameIndex := 692, descriptorIndex := 142, attributes := #[] }, { accessFlags := 1, nameIndex := 497, descriptorIndex := 427, attributes := #[] }, { accessFlags := 0, nameIndex := 17, descriptorIndex := 337, attributes := #[] }, { accessFlags := 0, nameIndex := 494, descriptorIndex := 142, attributes := #[] }, { accessFlags := 8, nameIndex := 501, descriptorIndex := 391, attributes := #[] }] 49 2 #[1106, 1108, 575, 1110, 1112] #[{ accessFlags := 18, nameIndex := 13, descriptorIndex := 14, attributes := #[] }, { accessFlags := 18, nameIndex := 17, descriptorIndex := 18, attributes := #[] }, { accessFlags := 2, nameIndex := 21, descriptorIndex := 22, attributes := #[] }, { accessFlags := 2, nameIndex := 25, descriptorIndex := 26, attributes := #[] }, { accessFlags := 26, nameIndex := 1116, descriptorIndex := 1117, attributes := #[] }, { accessFlags := 24, nameIndex := 40, descriptorIndex := 26, attributes := #[] }, { accessFlags := 26, nameIndex := 1101, descriptorIndex := 1102, attributes := #[] }, { accessFlags := 26, nameIndex := 1121, descriptorIndex := 1122, attributes := #[] }, { accessFlags := 25, nameIndex := 599, descriptorIndex := 600, attributes := #[] }, { accessFlags := 24, nameIndex := 1125, descriptorIndex := 18, attributes := #[] }, { accessFlags := 24, nameIndex := 1127, descriptorIndex := 18, attributes := #[] }])
  fields := #[{ name := "value", type := (.array .byte), accessFlags := 18, slot := 0, constantValue := 0 }, { name := "coder", type := .byte, accessFlags := 18, slot := 1, constantValue := 0 }, { name := "hash", type := .int, accessFlags := 2, slot := 2, constantValue := 0 }, { name := "hashIsZero", type := .boolean, accessFlags := 2, slot := 3, constantValue := 0 }, { name := "serialVersionUID", type := .long, accessFlags := 26, slot := 0, constantValue := 0 }, { name := "COMPACT_STRINGS", type := .boolean, accessFlags := 24, slot := 1, constantValue := 0 }, { name := "serialPersistentFields", type := (.array (.object "java/io/ObjectStreamField")), accessFlags := 26, slot := 2, constantValue := 0 }, { name := "REPL", type := .char, accessFlags := 26, slot := 3, constantValue := 0 }, { name := "CASE_INSENSITIVE_ORDER", type := (.object "java/util/Comparator"), accessFlags := 25, slot := 4, constantValue := 0 }, { name := "LATIN1", type := .byte, accessFlags := 24, slot := 5, constantValue := 0 }, { name := "UTF16", type := .byte, accessFlags := 24, slot := 6, constantValue := 0 }]
  methods := #[k10m0, k10m1, k10m2, k10m3, k10m4, k10m5, k10m6]
  instanceTypes := #[(.array .byte), .byte, .int, .boolean]
  staticTypes := #[.long, .boolean, (.array (.object "java/io/ObjectStreamField")), .char, (.object "java/util/Comparator"), .byte, .byte]
  resolved := Array.replicate 1451 none
  statics := some 0 }

def pool11 : Array CpInfo := pool [(2, .class_ 4), (1, u "java/lang/Object"), (3, .class_ 10), (1, u "ringward/NodeConfig$Builder"), (0, u "name"), (0, u "Ljava/lang/String;"), (1, .class_ 15), (0, u "ringward/NodeConfig"), (2, u "host"), (5, u "port"), (0, u "I"), (3, u "seeds"), (0, u "Ljava/util/List;"), (3, u "failureDetectionTimeoutMillis"), (0, u "J"), (3, u "joinTimeoutMillis"), (3, u "attributes"), (0, u "Ljava/util/Map;"), (3, u "secret"), (0, u "Lringward/Secret;"), (3, u "client"), (0, u "Z"), (2, .string 58), (0, u "'name' must not be null"), (0, .methodref 60 61), (0, .class_ 62), (0, .nameAndType 63 64), (0, u "java/util/Objects"), (0, u "requireNonNull"), (0, u "(Ljava/lang/Object;Ljava/lang/String;)Ljava/lang/Object;"), (0, .methodref 66 67), (0, .class_ 68), (0, .nameAndType 69 70), (0, u "java/lang/String"), (0, u "isEmpty"), (0, u "()Z"), (0, .methodref 66 72), (0, .nameAndType 73 74), (0, u "length"), (0, u "()I"), (0, .methodref 66 76), (0, .nameAndType 77 78), (0, u "charAt"), (0, u "(I)C"), (0, .methodref 14 80), (0, .nameAndType 81 82), (0, u "isNameCharacter"), (0, u "(C)Z"), (5, u "(Ljava/lang/String;)Ljava/lang/String;"), (116, u "MAX_ATTRIBUTES"), (2, u "MAX_ATTRIBUTE_BYTES"), (1, u "MAX_NAME"), (1, u "HOST"), (15, u "requireValidName")] 34

def k11c0 : Code := { maxStack := 3, maxLocals := 3, code := prog_65_method_12_code, exceptionTable := #[], attributes := #[] }
def k11m0 : Method := { name := "requireValidName", desc := "(Ljava/lang/String;)Ljava/lang/String;", sig := { parameters := [(.object "java/lang/String")], returnType := some (.object "java/lang/String") }, accessFlags := 8, code := some k11c0 }
def k11c1 : Code := { maxStack := 2, maxLocals := 1, code := prog_65_method_13_code, exceptionTable := #[], attributes := #[] }
def k11m1 : Method := { name := "isNameCharacter", desc := "(C)Z", sig := { parameters := [.char], returnType := some .boolean }, accessFlags := 10, code := some k11c1 }
/-- ringward/NodeConfig -/
def k11 : Class := { plain "ringward/NodeConfig" (some 0) with
  accessFlags := 49
  interfaces := #[]
  cf := some (fileOf pool11 14 #[.nestMembers #[8]] #[{ accessFlags := 8, nameIndex := 228, descriptorIndex := 88, attributes := #[] }, { accessFlags := 10, nameIndex := 81, descriptorIndex := 82, attributes := #[] }] 49 2 #[] #[{ accessFlags := 25, nameIndex := 205, descriptorIndex := 25, attributes := #[] }, { accessFlags := 25, nameIndex := 208, descriptorIndex := 25, attributes := #[] }, { accessFlags := 26, nameIndex := 210, descriptorIndex := 25, attributes := #[] }, { accessFlags := 26, nameIndex := 212, descriptorIndex := 12, attributes := #[] }, { accessFlags := 18, nameIndex := 11, descriptorIndex := 12, attributes := #[] }, { accessFlags := 18, nameIndex := 18, descriptorIndex := 12, attributes := #[] }, { accessFlags := 18, nameIndex := 24, descriptorIndex := 25, attributes := #[] }, { accessFlags := 18, nameIndex := 29, descriptorIndex := 30, attributes := #[] }, { accessFlags := 18, nameIndex := 34, descriptorIndex := 35, attributes := #[] }, { accessFlags := 18, nameIndex := 39, descriptorIndex := 35, attributes := #[] }, { accessFlags := 18, nameIndex := 43, descriptorIndex := 44, attributes := #[] }, { accessFlags := 18, nameIndex := 48, descriptorIndex := 49, attributes := #[] }, { accessFlags := 18, nameIndex := 53, descriptorIndex := 54, attributes := #[] }])
  fields := #[{ name := "MAX_ATTRIBUTES", type := .int, accessFlags := 25, slot := 0, constantValue := 0 }, { name := "MAX_ATTRIBUTE_BYTES", type := .int, accessFlags := 25, slot := 1, constantValue := 0 }, { name := "MAX_NAME", type := .int, accessFlags := 26, slot := 2, constantValue := 0 }, { name := "HOST", type := (.object "java/lang/String"), accessFlags := 26, slot := 3, constantValue := 0 }, { name := "name", type := (.object "java/lang/String"), accessFlags := 18, slot := 0, constantValue := 0 }, { name := "host", type := (.object "java/lang/String"), accessFlags := 18, slot := 1, constantValue := 0 }, { name := "port", type := .int, accessFlags := 18, slot := 2, constantValue := 0 }, { name := "seeds", type := (.object "java/util/List"), accessFlags := 18, slot := 3, constantValue := 0 }, { name := "failureDetectionTimeoutMillis", type := .long, accessFlags := 18, slot := 4, constantValue := 0 }, { name := "joinTimeoutMillis", type := .long, accessFlags := 18, slot := 5, constantValue := 0 }, { name := "attributes", type := (.object "java/util/Map"), accessFlags := 18, slot := 6, constantValue := 0 }, { name := "secret", type := (.object "ringward/Secret"), accessFlags := 18, slot := 7, constantValue := 0 }, { name := "client", type := .boolean, accessFlags := 18, slot := 8, constantValue := 0 }]
  methods := #[k11m0, k11m1]
  instanceTypes := #[(.object "java/lang/String"), (.object "java/lang/String"), .int, (.object "java/util/List"), .long, .long, (.object "java/util/Map"), (.object "ringward/Secret"), .boolean]
  staticTypes := #[.int, .int, .int, (.object "java/lang/String")]
  resolved := Array.replicate 263 none
  statics := none }

def pool12 : Array CpInfo := pool [(2, .class_ 4), (1, u "java/lang/Object"), (0, u "<init>"), (0, u "()V"), (35, .class_ 44), (1, u "java/util/Objects"), (0, u "requireNonNull"), (48, u "(Ljava/lang/Object;Ljava/lang/String;)Ljava/lang/Object;")] 89

def k12m0 : Method := { name := "<init>", desc := "()V", sig := { parameters := [], returnType := none }, accessFlags := 2, code := none }
def k12c1 : Code := { maxStack := 3, maxLocals := 2, code := jdk_31_method_11_code, exceptionTable := #[], attributes := #[] }
def k12m1 : Method := { name := "requireNonNull", desc := "(Ljava/lang/Object;Ljava/lang/String;)Ljava/lang/Object;", sig := { parameters := [(.object "java/lang/Object"), (.object "java/lang/String")], returnType := some (.object "java/lang/Object") }, accessFlags := 9, code := some k12c1 }
/-- java/util/Objects -/
def k12 : Class := { plain "java/util/Objects" (some 0) with
  accessFlags := 49
  interfaces := #[]
  cf := some (fileOf pool12 42 #[] #[{ accessFlags := 2, nameIndex := 5, descriptorIndex := 6, attributes := #[] }, { accessFlags := 9, nameIndex := 45, descriptorIndex := 94, attributes := #[] }] 49 2 #[] #[])
  fields := #[]
  methods := #[k12m0, k12m1]
  instanceTypes := #[]
  staticTypes := #[]
  resolved := Array.replicate 184 none
  statics := none }

def pool13 : Array CpInfo := pool [(1, .class_ 2), (0, u "java/lang/String"), (1, .class_ 6), (1, u "java/lang/Object"), (0, u "<init>"), (0, u "()V"), (0, .methodref 1 10), (0, .nameAndType 11 12), (0, u "checkIndex"), (0, u "(II)V"), (1, .class_ 16), (1, u "java/lang/StringLatin1"), (36, u "([BI)C"), (67, u "$assertionsDisabled"), (0, u "Z"), (98, .class_ 223), (1, u "java/lang/StringLatin1$LinesSpliterator"), (28, u "charAt"), (137, .class_ 391), (0, u "java/lang/StringLatin1$CharsSpliterator")] 3

def k13m0 : Method := { name := "<init>", desc := "()V", sig := { parameters := [], returnType := none }, accessFlags := 0, code := none }
def k13c1 : Code := { maxStack := 2, maxLocals := 2, code := jdk_43_method_2_code, exceptionTable := #[], attributes := #[] }
def k13m1 : Method := { name := "charAt", desc := "([BI)C", sig := { parameters := [(.array .byte), .int], returnType := some .char }, accessFlags := 9, code := some k13c1 }
/-- java/lang/StringLatin1 -/
def k13 : Class := { plain "java/lang/StringLatin1" (some 0) with
  accessFlags := 48
  interfaces := #[]
  cf := some (fileOf pool13 14 #[.nestMembers #[390, 221]] #[{ accessFlags := 0, nameIndex := 7, descriptorIndex := 8, attributes := #[] }, { accessFlags := 9, nameIndex := 252, descriptorIndex := 53, attributes := #[] }] 48 4 #[] #[{ accessFlags := 4120, nameIndex := 121, descriptorIndex := 122, attributes := #[] }])
  fields := #[{ name := "$assertionsDisabled", type := .boolean, accessFlags := 4120, slot := 0, constantValue := 0 }]
  methods := #[k13m0, k13m1]
  instanceTypes := #[]
  staticTypes := #[.boolean]
  resolved := Array.replicate 395 none
  statics := none }

def pool14 : Array CpInfo := pool [(2, .class_ 4), (1, u "java/lang/Object"), (0, u "<init>"), (0, u "()V"), (17, .class_ 26), (1, u "jdk/internal/util/Preconditions"), (6, u "checkIndex"), (21, .class_ 56), (0, u "jdk/internal/util/Preconditions$4"), (57, .class_ 115), (0, u "jdk/internal/util/Preconditions$1"), (7, u "SIOOBE_FORMATTER"), (0, u "Ljava/util/function/BiFunction;"), (0, .class_ 126), (0, u "jdk/internal/util/Preconditions$2"), (3, u "AIOOBE_FORMATTER"), (0, .class_ 132), (0, u "jdk/internal/util/Preconditions$3"), (3, u "IOOBE_FORMATTER"), (41, u "(IILjava/util/function/BiFunction;)I")] 15

def k14m0 : Method := { name := "<init>", desc := "()V", sig := { parameters := [], returnType := none }, accessFlags := 1, code := none }
def k14c1 : Code := { maxStack := 3, maxLocals := 3, code := jdk_41_method_11_code, exceptionTable := #[], attributes := #[] }
def k14m1 : Method := { name := "checkIndex", desc := "(IILjava/util/function/BiFunction;)I", sig := { parameters := [.int, .int, (.object "java/util/function/BiFunction")], returnType := some .int }, accessFlags := 9, code := some k14c1 }
/-- jdk/internal/util/Preconditions -/
def k14 : Class := { plain "jdk/internal/util/Preconditions" (some 0) with
  accessFlags := 33
  interfaces := #[]
  cf := some (fileOf pool14 24 #[.nestMembers #[55, 131, 125, 114]] #[{ accessFlags := 1, nameIndex := 5, descriptorIndex := 6, attributes := #[] }, { accessFlags := 9, nameIndex := 33, descriptorIndex := 178, attributes := #[] }] 33 2 #[] #[{ accessFlags := 25, nameIndex := 123, descriptorIndex := 124, attributes := #[] }, { accessFlags := 25, nameIndex := 130, descriptorIndex := 124, attributes := #[] }, { accessFlags := 25, nameIndex := 136, descriptorIndex := 124, attributes := #[] }])
  fields := #[{ name := "SIOOBE_FORMATTER", type := (.object "java/util/function/BiFunction"), accessFlags := 25, slot := 0, constantValue := 0 }, { name := "AIOOBE_FORMATTER", type := (.object "java/util/function/BiFunction"), accessFlags := 25, slot := 1, constantValue := 0 }, { name := "IOOBE_FORMATTER", type := (.object "java/util/function/BiFunction"), accessFlags := 25, slot := 2, constantValue := 0 }]
  methods := #[k14m0, k14m1]
  instanceTypes := #[]
  staticTypes := #[(.object "java/util/function/BiFunction"), (.object "java/util/function/BiFunction"), (.object "java/util/function/BiFunction")]
  resolved := Array.replicate 194 none
  statics := some 1 }

def pool15 : Array CpInfo := pool [(9, u "<init>"), (6, .class_ 18), (1, u "java/lang/Object"), (0, u "()V"), (1, .class_ 23), (1, u "jdk/internal/util/ArraysSupport"), (0, u "LOG2_ARRAY_LONG_INDEX_SCALE"), (0, u "I"), (2, u "U"), (0, u "Ljdk/internal/misc/Unsafe;"), (8, u "BIG_ENDIAN"), (0, u "Z"), (8, u "LOG2_BYTE_BIT_SIZE"), (4, u "LOG2_ARRAY_INT_INDEX_SCALE"), (54, u "JLA"), (0, u "Ljdk/internal/access/JavaLangAccess;"), (11, u "LOG2_ARRAY_BOOLEAN_INDEX_SCALE"), (9, u "LOG2_ARRAY_BYTE_INDEX_SCALE"), (5, u "LOG2_ARRAY_CHAR_INDEX_SCALE"), (5, u "LOG2_ARRAY_SHORT_INDEX_SCALE"), (18, u "LOG2_ARRAY_FLOAT_INDEX_SCALE"), (24, u "LOG2_ARRAY_DOUBLE_INDEX_SCALE"), (89, u "T_BOOLEAN"), (2, u "T_CHAR"), (1, u "T_FLOAT"), (1, u "T_DOUBLE"), (1, u "T_BYTE"), (1, u "T_SHORT"), (1, u "T_INT"), (1, u "T_LONG"), (1, u "SOFT_MAX_ARRAY_LENGTH")] 83

def k15m0 : Method := { name := "<init>", desc := "()V", sig := { parameters := [], returnType := none }, accessFlags := 2, code := none }
/-- jdk/internal/util/ArraysSupport -/
def k15 : Class := { plain "jdk/internal/util/ArraysSupport" (some 0) with
  accessFlags := 33
  interfaces := #[]
  cf := some (fileOf pool15 21 #[] #[{ accessFlags := 2, nameIndex := 9, descriptorIndex := 19, attributes := #[] }] 33 16 #[] #[{ accessFlags := 24, nameIndex := 28, descriptorIndex := 29, attributes := #[] }, { accessFlags := 26, nameIndex := 38, descriptorIndex := 39, attributes := #[] }, { accessFlags := 25, nameIndex := 121, descriptorIndex := 25, attributes := #[] }, { accessFlags := 25, nameIndex := 131, descriptorIndex := 25, attributes := #[] }, { accessFlags := 25, nameIndex := 137, descriptorIndex := 25, attributes := #[] }, { accessFlags := 25, nameIndex := 143, descriptorIndex := 25, attributes := #[] }, { accessFlags := 25, nameIndex := 53, descriptorIndex := 25, attributes := #[] }, { accessFlags := 25, nameIndex := 24, descriptorIndex := 25, attributes := #[] }, { accessFlags := 25, nameIndex := 162, descriptorIndex := 25, attributes := #[] }, { accessFlags := 25, nameIndex := 187, descriptorIndex := 25, attributes := #[] }, { accessFlags := 26, nameIndex := 48, descriptorIndex := 25, attributes := #[] }, { accessFlags := 25, nameIndex := 277, descriptorIndex := 25, attributes := #[] }, { accessFlags := 25, nameIndex := 280, descriptorIndex := 25, attributes := #[] }, { accessFlags := 25, nameIndex := 282, descriptorIndex := 25, attributes := #[] }, { accessFlags := 25, nameIndex := 284, descriptorIndex := 25, attributes := #[] }, { accessFlags := 25, nameIndex := 286, descriptorIndex := 25, attributes := #[] }, { accessFlags := 25, nameIndex := 288, descriptorIndex := 25, attributes := #[] }, { accessFlags := 25, nameIndex := 290, descriptorIndex := 25, attributes := #[] }, { accessFlags := 25, nameIndex := 292, descriptorIndex := 25, attributes := #[] }, { accessFlags := 26, nameIndex := 108, descriptorIndex := 109, attributes := #[] }, { accessFlags := 25, nameIndex := 294, descriptorIndex := 25, attributes := #[] }])
  fields := #[{ name := "U", type := (.object "jdk/internal/misc/Unsafe"), accessFlags := 24, slot := 0, constantValue := 0 }, { name := "BIG_ENDIAN", type := .boolean, accessFlags := 26, slot := 1, constantValue := 0 }, { name := "LOG2_ARRAY_BOOLEAN_INDEX_SCALE", type := .int, accessFlags := 25, slot := 2, constantValue := 0 }, { name := "LOG2_ARRAY_BYTE_INDEX_SCALE", type := .int, accessFlags := 25, slot := 3, constantValue := 0 }, { name := "LOG2_ARRAY_CHAR_INDEX_SCALE", type := .int, accessFlags := 25, slot := 4, constantValue := 0 }, { name := "LOG2_ARRAY_SHORT_INDEX_SCALE", type := .int, accessFlags := 25, slot := 5, constantValue := 0 }, { name := "LOG2_ARRAY_INT_INDEX_SCALE", type := .int, accessFlags := 25, slot := 6, constantValue := 0 }, { name := "LOG2_ARRAY_LONG_INDEX_SCALE", type := .int, accessFlags := 25, slot := 7, constantValue := 0 }, { name := "LOG2_ARRAY_FLOAT_INDEX_SCALE", type := .int, accessFlags := 25, slot := 8, constantValue := 0 }, { name := "LOG2_ARRAY_DOUBLE_INDEX_SCALE", type := .int, accessFlags := 25, slot := 9, constantValue := 0 }, { name := "LOG2_BYTE_BIT_SIZE", type := .int, accessFlags := 26, slot := 10, constantValue := 0 }, { name := "T_BOOLEAN", type := .int, accessFlags := 25, slot := 11, constantValue := 0 }, { name := "T_CHAR", type := .int, accessFlags := 25, slot := 12, constantValue := 0 }, { name := "T_FLOAT", type := .int, accessFlags := 25, slot := 13, constantValue := 0 }, { name := "T_DOUBLE", type := .int, accessFlags := 25, slot := 14, constantValue := 0 }, { name := "T_BYTE", type := .int, accessFlags := 25, slot := 15, constantValue := 0 }, { name := "T_SHORT", type := .int, accessFlags := 25, slot := 16, constantValue := 0 }, { name := "T_INT", type := .int, accessFlags := 25, slot := 17, constantValue := 0 }, { name := "T_LONG", type := .int, accessFlags := 25, slot := 18, constantValue := 0 }, { name := "JLA", type := (.object "jdk/internal/access/JavaLangAccess"), accessFlags := 26, slot := 19, constantValue := 0 }, { name := "SOFT_MAX_ARRAY_LENGTH", type := .int, accessFlags := 25, slot := 20, constantValue := 0 }]
  methods := #[k15m0]
  instanceTypes := #[]
  staticTypes := #[(.object "jdk/internal/misc/Unsafe"), .boolean, .int, .int, .int, .int, .int, .int, .int, .int, .int, .int, .int, .int, .int, .int, .int, .int, .int, (.object "jdk/internal/access/JavaLangAccess"), .int]
  resolved := Array.replicate 378 none
  statics := none }

def pool16 : Array CpInfo := pool [(1, u "java/lang/Cloneable"), (0, .class_ 1), (0, u "java/lang/Object"), (0, .class_ 3)] 3

/-- java/lang/Cloneable -/
def k16 : Class := { plain "java/lang/Cloneable" (some 0) with
  accessFlags := 1537
  interfaces := #[]
  cf := some (fileOf pool16 2 #[] #[] 1537 4 #[] #[])
  fields := #[]
  methods := #[]
  instanceTypes := #[]
  staticTypes := #[]
  resolved := Array.replicate 8 none
  statics := none }

/-- the primitive byte -/
def k17 : Class := { plain "byte" none with kind := .primitive 'B', accessFlags := 0x411 }
/-- [B -/
def k18 : Class := { plain "[B" (some 0) with kind := .array 17 .byte, interfaces := #[16, 5], accessFlags := 1041 }

/-- the primitive int -/
def k19 : Class := { plain "int" none with kind := .primitive 'I', accessFlags := 0x411 }
/-- [I -/
def k20 : Class := { plain "[I" (some 0) with kind := .array 19 .int, interfaces := #[16, 5], accessFlags := 1041 }

def heap : Heap := #[{ cls := 10, slots := #[.long 0, .int 1, .null, .int 0, .null, .int 0, .int 0], vm := .statics 10 },
  { cls := 14, slots := #[.null, .null, .null], vm := .statics 14 }]
def classes : Array Class := #[k0, k1, k2, k3, k4, k5, k6, k7, k8, k9, k10, k11, k12, k13, k14, k15, k16, k17, k18, k19, k20]
def interned : List (Array UInt16 × Addr) := []
def slotsUsed : Nat := 10
def theMethod : MethodId := ⟨1, 2⟩
def args0 : Array Value := #[.long 3, .long 4, .long 5, .long 6, .int 7]
def aboutOver (below : List Frame) : State where
  vm := { classes := classes, interned := interned.toArray }
  heap := heap
  slotsUsed := slotsUsed
  threads := #[{ frames := .invoking theMethod args0 :: below }]
def below0 : List Frame := [.native { method := ⟨0, 0⟩, args := #[] }]
def about1 : State := aboutOver below0
def p0 : Program := .bare "" "" ""
def e0 : Env := launch0.env 0 0 0
theorem w_frames : about1.frames = Frame.invoking theMethod args0 :: below0 := rfl
set_option maxRecDepth 65536 in
theorem w_args : argsFit about1.vm theMethod args0 = true := by decide +kernel
set_option maxRecDepth 65536 in
theorem w_heap : heapFits about1 = true := by decide +kernel
set_option maxRecDepth 65536 in
theorem w_runnable : about1.curStatus? = some .runnable := by decide +kernel
set_option maxRecDepth 65536 in
theorem w_alone : about1.alone = true := by decide +kernel
set_option maxRecDepth 65536 in
theorem w_named : about1.methodNamed? x = some theMethod := by decide +kernel
set_option maxRecDepth 65536 in
theorem w_hears : about1.hears theMethod below0 = true := by decide +kernel
set_option maxRecDepth 65536 in
theorem w_ripe : about1.ripe theMethod args0 below0 = true := by decide +kernel
theorem w_running : about1.status = .running := rfl
set_option maxRecDepth 65536 in
theorem w_room : about1.hasRoom e0.platform room_1 = true :=
  launch0.hasRoom_least _ room_1 (by decide +kernel) (by decide +kernel) (by decide +kernel) (by decide +kernel) (by decide +kernel) (by decide +kernel)
theorem allAtoms_all (ts : List Jvm.Cond) (a : Array Jvm.Value) (st : Jvm.State) : (allAtoms ts).before a st = ts.all (fun c => c.before a st) := by
  induction ts with
  | nil => rfl
  | cons c t ih =>
    show (Jvm.Cond.and c (allAtoms t)).before a st = _
    rw [Jvm.Cond.before_and, ih, List.all_cons]
def words1 : List Jvm.Cond := Jvm.Cond.code x code maxLocals ret :: tables_1
/-- a 'code' word, met by the world's own term for the bytes: nothing is compared byte by byte -/
theorem code_word {y : MethodName} {bytes : ByteArray} {mx : Nat} {rt : Option FieldType} {a : Array Value} {s : State} {m : MethodId} {meth : Method} {c : Code} (h1 : s.methodNamed? y = some m) (h2 : s.vm.method? m = some meth) (h3 : meth.code = some c) (h4 : c.code = bytes)
    (h5 : (c.maxLocals == mx && c.exceptionTable.isEmpty && decide (c.maxStack ≤ mostOperands) && decide (meth.sig.returnType = rt) && !meth.locks && decide (parseMethodDescriptor y.desc = some meth.sig)) = true) : (Jvm.Cond.code y bytes mx rt).before a s = true := by
  simp only [Bool.and_eq_true, beq_iff_eq, Bool.not_eq_true', decide_eq_true_eq] at h5
  obtain ⟨⟨⟨⟨⟨g1, g2⟩, g3⟩, g4⟩, g5⟩, g6⟩ := h5
  simp [Cond.before, Cond.holds, Cond.value, h1, h2, h3, h4, g1, g2, g3, g4, g5, g6]
def isCode : Jvm.Cond → Bool
  | .code _ _ _ _ => true
  | _ => false
theorem all_split {L : List Jvm.Cond} {P : Jvm.Cond → Bool} (h1 : L.all (fun c => isCode c || P c) = true) (h2 : ∀ c ∈ L.filter isCode, P c = true) : L.all P = true := by
  refine List.all_eq_true.mpr fun c hc => ?_
  have h := List.all_eq_true.mp h1 c hc
  rcases Bool.eq_false_or_eq_true (isCode c) with hi | hi
  · exact h2 c (List.mem_filter.mpr ⟨hc, hi⟩)
  · simpa [hi] using h
set_option maxRecDepth 65536 in
theorem w_c0 : (Jvm.Cond.code x code maxLocals ret).before args0 about1 = true := code_word (m := ⟨1, 2⟩) (meth := k1m2) (c := k1c2) (by decide +kernel) rfl rfl rfl (by decide +kernel)
set_option maxRecDepth 65536 in
theorem w_c1 : (Jvm.Cond.code ({ cls := "ringward/PostIsAfterPinLaw", name := "number", desc := "(J)J" } : Jvm.MethodName) method_2_code (4 : Nat) (Option.some Jvm.ClassFile.FieldType.long)).before args0 about1 = true := code_word (m := ⟨1, 1⟩) (meth := k1m1) (c := k1c1) (by decide +kernel) rfl rfl rfl (by decide +kernel)
set_option maxRecDepth 65536 in
theorem w_c2 : (Jvm.Cond.code ({ cls := "ringward/Message$Post", name := "<init>", desc := "(Ljava/lang/String;JJJLjava/lang/String;)V" } : Jvm.MethodName) prog_41_method_1_code (9 : Nat) (Option.none : Option Jvm.ClassFile.FieldType)).before args0 about1 = true := code_word (m := ⟨4, 0⟩) (meth := k4m0) (c := k4c0) (by decide +kernel) rfl rfl rfl (by decide +kernel)
set_option maxRecDepth 65536 in
theorem w_c3 : (Jvm.Cond.code ({ cls := "java/lang/Record", name := "<init>", desc := "()V" } : Jvm.MethodName) jdk_30_method_1_code (1 : Nat) (Option.none : Option Jvm.ClassFile.FieldType)).before args0 about1 = true := code_word (m := ⟨2, 0⟩) (meth := k2m0) (c := k2c0) (by decide +kernel) rfl rfl rfl (by decide +kernel)
set_option maxRecDepth 65536 in
theorem w_c4 : (Jvm.Cond.code ({ cls := "java/lang/Object", name := "<init>", desc := "()V" } : Jvm.MethodName) object_method_1_code (1 : Nat) (Option.none : Option Jvm.ClassFile.FieldType)).before args0 about1 = true := code_word (m := ⟨0, 0⟩) (meth := k0m0) (c := k0c0) (by decide +kernel) rfl rfl rfl (by decide +kernel)
set_option maxRecDepth 65536 in
theorem w_c5 : (Jvm.Cond.code ({ cls := "ringward/NodeConfig", name := "requireValidName", desc := "(Ljava/lang/String;)Ljava/lang/String;" } : Jvm.MethodName) prog_65_method_12_code (3 : Nat) (Option.some (Jvm.ClassFile.FieldType.object "java/lang/String"))).before args0 about1 = true := code_word (m := ⟨11, 0⟩) (meth := k11m0) (c := k11c0) (by decide +kernel) rfl rfl rfl (by decide +kernel)
set_option maxRecDepth 65536 in
theorem w_c6 : (Jvm.Cond.code ({ cls := "java/util/Objects", name := "requireNonNull", desc := "(Ljava/lang/Object;Ljava/lang/String;)Ljava/lang/Object;" } : Jvm.MethodName) jdk_31_method_11_code (2 : Nat) (Option.some (Jvm.ClassFile.FieldType.object "java/lang/Object"))).before args0 about1 = true := code_word (m := ⟨12, 1⟩) (meth := k12m1) (c := k12c1) (by decide +kernel) rfl rfl rfl (by decide +kernel)
set_option maxRecDepth 65536 in
theorem w_c7 : (Jvm.Cond.code ({ cls := "java/lang/String", name := "isEmpty", desc := "()Z" } : Jvm.MethodName) jdk_42_method_55_code (1 : Nat) (Option.some Jvm.ClassFile.FieldType.boolean)).before args0 about1 = true := code_word (m := ⟨10, 2⟩) (meth := k10m2) (c := k10c2) (by decide +kernel) rfl rfl rfl (by decide +kernel)
set_option maxRecDepth 65536 in
theorem w_c8 : (Jvm.Cond.code ({ cls := "java/lang/String", name := "length", desc := "()I" } : Jvm.MethodName) jdk_42_method_54_code (1 : Nat) (Option.some Jvm.ClassFile.FieldType.int)).before args0 about1 = true := code_word (m := ⟨10, 1⟩) (meth := k10m1) (c := k10c1) (by decide +kernel) rfl rfl rfl (by decide +kernel)
set_option maxRecDepth 65536 in
theorem w_c9 : (Jvm.Cond.code ({ cls := "java/lang/String", name := "coder", desc := "()B" } : Jvm.MethodName) jdk_42_method_152_code (1 : Nat) (Option.some Jvm.ClassFile.FieldType.byte)).before args0 about1 = true := code_word (m := ⟨10, 4⟩) (meth := k10m4) (c := k10c4) (by decide +kernel) rfl rfl rfl (by decide +kernel)
set_option maxRecDepth 65536 in
theorem w_c10 : (Jvm.Cond.code ({ cls := "java/lang/String", name := "charAt", desc := "(I)C" } : Jvm.MethodName) jdk_42_method_56_code (2 : Nat) (Option.some Jvm.ClassFile.FieldType.char)).before args0 about1 = true := code_word (m := ⟨10, 3⟩) (meth := k10m3) (c := k10c3) (by decide +kernel) rfl rfl rfl (by decide +kernel)
set_option maxRecDepth 65536 in
theorem w_c11 : (Jvm.Cond.code ({ cls := "java/lang/String", name := "isLatin1", desc := "()Z" } : Jvm.MethodName) jdk_42_method_154_code (1 : Nat) (Option.some Jvm.ClassFile.FieldType.boolean)).before args0 about1 = true := code_word (m := ⟨10, 5⟩) (meth := k10m5) (c := k10c5) (by decide +kernel) rfl rfl rfl (by decide +kernel)
set_option maxRecDepth 65536 in
theorem w_c12 : (Jvm.Cond.code ({ cls := "java/lang/StringLatin1", name := "charAt", desc := "([BI)C" } : Jvm.MethodName) jdk_43_method_2_code (2 : Nat) (Option.some Jvm.ClassFile.FieldType.char)).before args0 about1 = true := code_word (m := ⟨13, 1⟩) (meth := k13m1) (c := k13c1) (by decide +kernel) rfl rfl rfl (by decide +kernel)
set_option maxRecDepth 65536 in
theorem w_c13 : (Jvm.Cond.code ({ cls := "java/lang/String", name := "checkIndex", desc := "(II)V" } : Jvm.MethodName) jdk_42_method_155_code (2 : Nat) (Option.none : Option Jvm.ClassFile.FieldType)).before args0 about1 = true := code_word (m := ⟨10, 6⟩) (meth := k10m6) (c := k10c6) (by decide +kernel) rfl rfl rfl (by decide +kernel)
set_option maxRecDepth 65536 in
theorem w_c14 : (Jvm.Cond.code ({ cls := "jdk/internal/util/Preconditions", name := "checkIndex", desc := "(IILjava/util/function/BiFunction;)I" } : Jvm.MethodName) jdk_41_method_11_code (3 : Nat) (Option.some Jvm.ClassFile.FieldType.int)).before args0 about1 = true := code_word (m := ⟨14, 1⟩) (meth := k14m1) (c := k14c1) (by decide +kernel) rfl rfl rfl (by decide +kernel)
set_option maxRecDepth 65536 in
theorem w_c15 : (Jvm.Cond.code ({ cls := "ringward/NodeConfig", name := "isNameCharacter", desc := "(C)Z" } : Jvm.MethodName) prog_65_method_13_code (1 : Nat) (Option.some Jvm.ClassFile.FieldType.boolean)).before args0 about1 = true := code_word (m := ⟨11, 1⟩) (meth := k11m1) (c := k11c1) (by decide +kernel) rfl rfl rfl (by decide +kernel)
set_option maxRecDepth 65536 in
theorem w_c16 : (Jvm.Cond.code ({ cls := "ringward/Message$Post", name := "isAfter", desc := "(Lringward/Message$Post;)Z" } : Jvm.MethodName) prog_41_method_2_code (2 : Nat) (Option.some Jvm.ClassFile.FieldType.boolean)).before args0 about1 = true := code_word (m := ⟨4, 1⟩) (meth := k4m1) (c := k4c1) (by decide +kernel) rfl rfl rfl (by decide +kernel)
def codes1 : List Jvm.Cond := [Jvm.Cond.code x code maxLocals ret, Jvm.Cond.code ({ cls := "ringward/PostIsAfterPinLaw", name := "number", desc := "(J)J" } : Jvm.MethodName) method_2_code (4 : Nat) (Option.some Jvm.ClassFile.FieldType.long), Jvm.Cond.code ({ cls := "ringward/Message$Post", name := "<init>", desc := "(Ljava/lang/String;JJJLjava/lang/String;)V" } : Jvm.MethodName) prog_41_method_1_code (9 : Nat) (Option.none : Option Jvm.ClassFile.FieldType), Jvm.Cond.code ({ cls := "java/lang/Record", name := "<init>", desc := "()V" } : Jvm.MethodName) jdk_30_method_1_code (1 : Nat) (Option.none : Option Jvm.ClassFile.FieldType), Jvm.Cond.code ({ cls := "java/lang/Object", name := "<init>", desc := "()V" } : Jvm.MethodName) object_method_1_code (1 : Nat) (Option.none : Option Jvm.ClassFile.FieldType), Jvm.Cond.code ({ cls := "ringward/NodeConfig", name := "requireValidName", desc := "(Ljava/lang/String;)Ljava/lang/String;" } : Jvm.MethodName) prog_65_method_12_code (3 : Nat) (Option.some (Jvm.ClassFile.FieldType.object "java/lang/String")), Jvm.Cond.code ({ cls := "java/util/Objects", name := "requireNonNull", desc := "(Ljava/lang/Object;Ljava/lang/String;)Ljava/lang/Object;" } : Jvm.MethodName) jdk_31_method_11_code (2 : Nat) (Option.some (Jvm.ClassFile.FieldType.object "java/lang/Object")), Jvm.Cond.code ({ cls := "java/lang/String", name := "isEmpty", desc := "()Z" } : Jvm.MethodName) jdk_42_method_55_code (1 : Nat) (Option.some Jvm.ClassFile.FieldType.boolean), Jvm.Cond.code ({ cls := "java/lang/String", name := "length", desc := "()I" } : Jvm.MethodName) jdk_42_method_54_code (1 : Nat) (Option.some Jvm.ClassFile.FieldType.int), Jvm.Cond.code ({ cls := "java/lang/String", name := "coder", desc := "()B" } : Jvm.MethodName) jdk_42_method_152_code (1 : Nat) (Option.some Jvm.ClassFile.FieldType.byte), Jvm.Cond.code ({ cls := "java/lang/String", name := "charAt", desc := "(I)C" } : Jvm.MethodName) jdk_42_method_56_code (2 : Nat) (Option.some Jvm.ClassFile.FieldType.char), Jvm.Cond.code ({ cls := "java/lang/String", name := "isLatin1", desc := "()Z" } : Jvm.MethodName) jdk_42_method_154_code (1 : Nat) (Option.some Jvm.ClassFile.FieldType.boolean), Jvm.Cond.code ({ cls := "java/lang/StringLatin1", name := "charAt", desc := "([BI)C" } : Jvm.MethodName) jdk_43_method_2_code (2 : Nat) (Option.some Jvm.ClassFile.FieldType.char), Jvm.Cond.code ({ cls := "java/lang/String", name := "checkIndex", desc := "(II)V" } : Jvm.MethodName) jdk_42_method_155_code (2 : Nat) (Option.none : Option Jvm.ClassFile.FieldType), Jvm.Cond.code ({ cls := "jdk/internal/util/Preconditions", name := "checkIndex", desc := "(IILjava/util/function/BiFunction;)I" } : Jvm.MethodName) jdk_41_method_11_code (3 : Nat) (Option.some Jvm.ClassFile.FieldType.int), Jvm.Cond.code ({ cls := "ringward/NodeConfig", name := "isNameCharacter", desc := "(C)Z" } : Jvm.MethodName) prog_65_method_13_code (1 : Nat) (Option.some Jvm.ClassFile.FieldType.boolean), Jvm.Cond.code ({ cls := "ringward/Message$Post", name := "isAfter", desc := "(Lringward/Message$Post;)Z" } : Jvm.MethodName) prog_41_method_2_code (2 : Nat) (Option.some Jvm.ClassFile.FieldType.boolean)]
set_option maxRecDepth 65536 in
theorem codes_eq : words1.filter isCode = codes1 := rfl
theorem w_codes : ∀ c ∈ words1.filter isCode, c.before args0 about1 = true := by
  rw [codes_eq]
  intro c hc
  simp only [codes1, List.mem_cons, List.not_mem_nil, or_false] at hc
  rcases hc with rfl | rfl | rfl | rfl | rfl | rfl | rfl | rfl | rfl | rfl | rfl | rfl | rfl | rfl | rfl | rfl | rfl
  · exact w_c0
  · exact w_c1
  · exact w_c2
  · exact w_c3
  · exact w_c4
  · exact w_c5
  · exact w_c6
  · exact w_c7
  · exact w_c8
  · exact w_c9
  · exact w_c10
  · exact w_c11
  · exact w_c12
  · exact w_c13
  · exact w_c14
  · exact w_c15
  · exact w_c16
set_option maxRecDepth 65536 in
theorem w_t1 : (words1.take 24).all (fun c => isCode c || c.before args0 about1) = true := by decide +kernel
set_option maxRecDepth 65536 in
theorem w_t2 : ((words1.drop 24).take 24).all (fun c => isCode c || c.before args0 about1) = true := by decide +kernel
set_option maxRecDepth 65536 in
theorem w_t3 : (((words1.drop 24).drop 24).take 24).all (fun c => isCode c || c.before args0 about1) = true := by decide +kernel
set_option maxRecDepth 65536 in
theorem w_t4 : ((((words1.drop 24).drop 24).drop 24).take 24).all (fun c => isCode c || c.before args0 about1) = true := by decide +kernel
set_option maxRecDepth 65536 in
theorem w_t5 : ((((words1.drop 24).drop 24).drop 24).drop 24).all (fun c => isCode c || c.before args0 about1) = true := by decide +kernel
theorem w_tables : (allAtoms (Jvm.Cond.code x code maxLocals ret :: tables_1)).before args0 about1 = true := by
  rw [allAtoms_all]
  show words1.all (fun c => c.before args0 about1) = true
  refine all_split ?_ w_codes
  rw [← List.take_append_drop 24 words1, List.all_append, w_t1, ← List.take_append_drop 24 (words1.drop 24), List.all_append, w_t2, ← List.take_append_drop 24 ((words1.drop 24).drop 24), List.all_append, w_t3, ← List.take_append_drop 24 (((words1.drop 24).drop 24).drop 24), List.all_append, w_t4, w_t5]
  rfl
set_option maxRecDepth 65536 in
theorem w_rest : rest_1_c.before args0 about1 = true := by decide +kernel
set_option maxRecDepth 65536 in
theorem w_case : (Jvm.Cond.and given_1 narrow_1).before args0 about1 = true := by decide +kernel
set_option maxRecDepth 65536 in
theorem w_consts : constsHeld consts_1 about1 := Jvm.Lit.constsHeldB_iff.mp (by decide +kernel)
theorem w_applies : (headSpec (Jvm.Cond.code x code maxLocals ret :: tables_1) room_1).applies x e0.platform about1 = true :=
  (Spec.applies_iff w_frames).mpr ⟨w_running, w_runnable, w_alone, w_named, w_hears, w_ripe, w_room, w_tables⟩
theorem atStart : AtStart classFile x code maxLocals ret World_1 tables_1 room_1 Calls_1 rest_1 Pre_1 launch0 p0 e0 about1 theMethod args0 below0 :=
  ⟨lists_1, trivial, launch0.admits_env _ _ _, launch0.least_env, fairChoices_fair.cas, fairChoices_fair.clock, w_frames, w_args, w_heap, w_applies, ⟨w_consts, trivial⟩, w_rest, w_case⟩
end start1
theorem witness_1 : WitnessClaimed_1 := ⟨start1.p0, start1.e0, start1.about1, start1.theMethod, start1.args0, start1.below0, start1.atStart⟩
end Jvm.Pilot.@@N@@
