import JvmDerived
import JvmDerived.Pilot.@@N@@Statement
import JvmDerived.Pilot.@@N@@Code
set_option linter.unusedVariables false
set_option linter.unusedSimpArgs false

namespace Jvm.Pilot.@@N@@
open Jvm Jvm.ClassFile Sem Op Lib Jvm.Free Jvm.Stand Jvm.LawKit Jvm.RoadKit Bundle Jvm.Pilot.@@N@@.Jvm.D

section OwnKit
variable {p : Program} {l : Launch} {e : Env} {R : Room} {s : State} {m : MethodId} {args : Array Value} {below : List Frame} {meth : Method} {c : Code} {T : State} {locs : List Loc} {cells slots : Nat} {G : Outcome → State → Prop} {Q : Option Value → Heap → List Loc → Prop} {C S : Nat} {Z : State} {h h' : Heap}
/-- from the state t the invocation comes to an end of which G holds -/
def own_Fin (p : Program) (e : Env) (below : List Frame) (G : Outcome → State → Prop) (t : State) : Prop := ∃ s₂ o, Steps p.tables e below t s₂ ∧ s₂.status = .running ∧ Ended s₂ below o ∧ G o s₂
def own_G (s : State) (Q : Option Value → Heap → List Loc → Prop) (C S : Nat) (o : Outcome) (U' : State) : Prop := ∃ v L, o = .returned v ∧ Q v U'.heap L ∧ FrameEnd s o U' L C S
theorem own_to {t u : State} (h : ∀ z, Steps p.tables e below u z → Steps p.tables e below t z) (k : own_Fin p e below G u) : own_Fin p e below G t := by
  obtain ⟨a, b, c, d⟩ := k; exact ⟨a, b, h _ c, d⟩
theorem own_via {t u : State} (h : Steps p.tables e below t u) (k : own_Fin p e below G u) : own_Fin p e below G t := own_to (fun _ kz => h.trans kz) k
theorem own_retW (X : Stand p l e R s m args below meth c T locs cells slots) (hx : p.tables.exec = Jvm.exec) (hlk : meth.locks = false) (hG : G = own_G s Q C S) {f : JFrame} {w : Option Value} (hv : meth.sig.returnType = none → w = none)
    (st : ∀ fs, (∀ (f : JFrame) (acts : List Action), f.method = m → f.locked = none → f.entered = [] → (doReturn e (T.setTop f) acts w).1 = T.setFrames fs) → Steps p.tables e below (T.setTop f) (T.setFrames fs))
    (hc : cells ≤ C) (hs : slots ≤ S) (hQ : Q w T.heap locs) : own_Fin p e below G (T.setTop f) := by
  subst hG
  obtain ⟨fs, hr, hrun, hended, hW, hsame⟩ := X.leave (v := w) hv hlk
  exact ⟨_, _, st fs hr, hrun, hended, _, _, rfl, hQ, ⟨_, rfl⟩, hW, hsame.mono hc hs⟩
theorem own_retI (X : Stand p l e R s m args below meth c T locs cells slots) (hx : p.tables.exec = Jvm.exec) (hlk : meth.locks = false) (hG : G = own_G s Q C S) {pc : Nat} {Ls : Array Slot} {z : Int32} {rest : List Value} (hret : meth.sig.returnType = some .int) (hd : decode c.code pc = .ok (.ireturn, 1))
    (hc : cells ≤ C) (hs : slots ≤ S) (hQ : Q (some (.int z)) T.heap locs) : own_Fin p e below G (T.setTop (mkF m pc Ls (.int z :: rest))) :=
  own_retW X hx hlk hG (w := some (.int z)) (fun h => by rw [hret] at h; cases h) (fun fs hr => retOut X hx hret rfl (Or.inl ⟨rfl, Or.inl rfl, z, rfl⟩) hd hr) hc hs hQ
theorem own_retJ (X : Stand p l e R s m args below meth c T locs cells slots) (hx : p.tables.exec = Jvm.exec) (hlk : meth.locks = false) (hG : G = own_G s Q C S) {pc : Nat} {Ls : Array Slot} {z : Int64} {rest : List Value} (hret : meth.sig.returnType = some .long) (hd : decode c.code pc = .ok (.lreturn, 1))
    (hc : cells ≤ C) (hs : slots ≤ S) (hQ : Q (some (.long z)) T.heap locs) : own_Fin p e below G (T.setTop (mkF m pc Ls (.long z :: rest))) :=
  own_retW X hx hlk hG (w := some (.long z)) (fun h => by rw [hret] at h; cases h) (fun fs hr => retOut X hx hret rfl (Or.inr (Or.inl ⟨rfl, rfl, z, rfl⟩)) hd hr) hc hs hQ
theorem own_retA (X : Stand p l e R s m args below meth c T locs cells slots) (hx : p.tables.exec = Jvm.exec) (hlk : meth.locks = false) (hG : G = own_G s Q C S) {pc : Nat} {Ls : Array Slot} {w : Value} {rest : List Value} {t : FieldType} (hret : meth.sig.returnType = some t) (ht : t.isReference = true) (hw : w.isRef = true) (hd : decode c.code pc = .ok (.areturn, 1))
    (hc : cells ≤ C) (hs : slots ≤ S) (hQ : Q (some w) T.heap locs) : own_Fin p e below G (T.setTop (mkF m pc Ls (w :: rest))) :=
  own_retW X hx hlk hG (w := some w) (fun h => by rw [hret] at h; cases h) (fun fs hr => retOut X hx hret (by rcases ref_cases hw with rfl | ⟨a, rfl⟩ <;> cases t <;> first | rfl | (simp [FieldType.isReference] at ht)) (Or.inr (Or.inr (Or.inr (Or.inr ⟨rfl, ht, hw⟩)))) hd hr) hc hs hQ
theorem own_retN (X : Stand p l e R s m args below meth c T locs cells slots) (hx : p.tables.exec = Jvm.exec) (hlk : meth.locks = false) (hG : G = own_G s Q C S) {pc : Nat} {Ls : Array Slot} {z : Int32} {rest : List Value} {t : FieldType} (hret : meth.sig.returnType = some t) (ht : t = .boolean ∨ t = .byte ∨ t = .char ∨ t = .short) (hd : decode c.code pc = .ok (.ireturn, 1))
    (hc : cells ≤ C) (hs : slots ≤ S) (hQ : Q (some (.int (nar t z))) T.heap locs) : own_Fin p e below G (T.setTop (mkF m pc Ls (.int z :: rest))) :=
  own_retW X hx hlk hG (w := some (.int (nar t z))) (fun h => by rw [hret] at h; cases h) (fun fs hr => retN X hx hret ht hd hr) hc hs hQ
theorem own_retV (X : Stand p l e R s m args below meth c T locs cells slots) (hx : p.tables.exec = Jvm.exec) (hlk : meth.locks = false) (hG : G = own_G s Q C S) {pc : Nat} {Ls : Array Slot} (hret : meth.sig.returnType = none) (hd : decode c.code pc = .ok (.return_, 1))
    (hc : cells ≤ C) (hs : slots ≤ S) (hQ : Q none T.heap locs) : own_Fin p e below G (T.setTop (mkF m pc Ls [])) :=
  own_retW X hx hlk hG (w := none) (fun _ => rfl) (fun fs hr => X.returnOut hx hret hd hr) hc hs hQ
theorem own_lrem {g : JFrame} {target : State} (X : Stand p l e R s m args below meth c T locs cells slots) (hx : p.tables.exec = Jvm.exec) (hg : g.method = m) {x y : Int64} {rest : List Value} (hd : decode c.code g.pc = .ok (.lrem, 1)) (hs : g.stack = .long y :: .long x :: rest) (hy : y ≠ 0)
    (hr : Steps p.tables e below (T.setTop { g with pc := g.pc + 1, stack := .long (x % y) :: rest }) target) : Steps p.tables e below (T.setTop g) target := by
  have q : x - x / y * y = x % y := lrem_mod x y
  exact XS.lrem X.here hx hg hd hs hy (by rw [q]; exact hr)
def own_Pair (a b : Slot) : Prop := (a = .unset ∧ b = .unset) ∨ ∃ x, a = .val (.long x) ∧ b = .second
/-- the array at a has n places; place i holds mk (f i) -/
def own_AV {α : Type} (mk : α → Value) (Z : State) (h : Heap) (a : Addr) (ty : FieldType) (n : Nat) (f : Nat → α) : Prop := n < 2 ^ 31 ∧ ∃ c : Cell, Arr Z h a c ty ∧ c.slots.size = n ∧ ∀ i, i < n → c.slots[i]? = some (mk (f i))
def own_upd {α : Type} (f : Nat → α) (k : Nat) (v : α) : Nat → α := fun i => if i = k then v else f i
section
variable {α : Type} {mk : α → Value} {a b : Addr} {ty : FieldType} {n : Nat} {f f' : Nat → α} {ws : List Addr} {sl : Nat} {v : Value}
theorem own_AV.lt (F : own_AV mk Z h a ty n f) : a < h.size := by obtain ⟨_, c, A, -⟩ := F; exact A.lt
theorem own_AV.ext (F : own_AV mk Z h a ty n f) (E : Ext h h') : own_AV mk Z h' a ty n f := by obtain ⟨q, c, A, r⟩ := F; exact ⟨q, c, A.ext E, r⟩
theorem own_AV.other (F : own_AV mk Z h b ty n f) (W : Wr h h' a sl v) (q : b ≠ a) : own_AV mk Z h' b ty n f := by obtain ⟨q', c, A, r⟩ := F; exact ⟨q', c, A.other W q, r⟩
theorem own_AV.keep (F : own_AV mk Z h a ty n f) (K : Keep h h' ws) (q : a ∉ ws) : own_AV mk Z h' a ty n f := by obtain ⟨q', c, A, r⟩ := F; exact ⟨q', c, ⟨K.2.1 a c A.1 q, A.2⟩, r⟩
theorem own_AV.congr (F : own_AV mk Z h a ty n f) (q : ∀ i, i < n → f i = f' i) : own_AV mk Z h a ty n f' := by obtain ⟨q', c, A, r, s⟩ := F; exact ⟨q', c, A, r, fun i hi => by rw [s i hi, q i hi]⟩
theorem own_AV.new {k : ClassId} {z : Int32} (A : Arr Z h a (newA k ty z) ty) (q : ¬ z < 0) (hn : z.toNatClampNeg = n) (hf : ∀ i : Nat, defaultValue ty = mk (f i)) : own_AV mk Z h a ty n f := by
  refine ⟨hn ▸ (back32 q).2, _, A, (sz_new _ _ _).trans hn, fun i hi => ?_⟩
  rw [← hf i]; simp [newA, hn, hi]
theorem own_updr {P : α → Prop} {k : Nat} {w : α} (hv : P w) (hf : ∀ i, P (f i)) : ∀ i, P (own_upd f k w i) := fun i => by
  unfold own_upd; split
  · exact hv
  · exact hf i
theorem own_in {c : Cell} {j : Int32} {k : Nat} (S : c.slots.size = n) (hj : ¬ j < 0) (hk : j.toNatClampNeg = k) (hlt : k < n) : ¬ (j < 0 ∨ c.slots.size ≤ j.toNatClampNeg) := fun q => q.elim hj fun r => by omega
theorem own_AV.set {c : Cell} {j : Int32} {k : Nat} {w : α} (nn : n < 2 ^ 31) (A : Arr Z h a c ty) (S : c.slots.size = n) (H : ∀ i, i < n → c.slots[i]? = some (mk (f i))) (W : Wr h h' a j.toNatClampNeg (mk w)) (hk : j.toNatClampNeg = k) : own_AV mk Z h' a ty n (own_upd f k w) := by
  subst hk
  refine ⟨nn, _, A.same W, by rw [sz_set]; exact S, fun i hi => ?_⟩
  show (c.setSlot j.toNatClampNeg (mk w)).slots[i]? = some (mk (if i = j.toNatClampNeg then w else f i))
  simp only [Cell.setSlot]
  by_cases q : i = j.toNatClampNeg
  · subst q; rw [if_pos rfl]; simp [S, hi]
  · rw [if_neg q, Array.getElem?_setIfInBounds_ne (fun r => q r.symm)]; exact H i hi
theorem own_iaload (X : Stand p l e R s m args below meth c T locs cells slots) (hx : p.tables.exec = Jvm.exec) (hZ : Z.Warmed39 s.vm) (eT : T.heap = h) {f : Nat → Int32} (F : own_AV Value.int Z h a .int n f) {j : Int32} {k : Nat} (hj : ¬ j < 0) (hk : j.toNatClampNeg = k) (hlt : k < n)
    {g : JFrame} (hg : g.method = m) {rest : List Value} (hs : g.stack = .int j :: .ref a :: rest) (hd : decode c.code g.pc = .ok (.iaload, 1)) {target : State} (hr : Steps p.tables e below (T.setTop { g with pc := g.pc + 1, stack := .int (f k) :: rest }) target) : Steps p.tables e below (T.setTop g) target := by
  obtain ⟨_, cl, A, S, H⟩ := F
  exact X.iaload hx (j := j) (v := .int (f k)) (by rw [eT]; exact A.1) (State.isArrayOf_alike hZ.alike A.2.1) A.2.2 (own_in S hj hk hlt) (by rw [hk]; exact H k hlt) hg hs hd _ hr
theorem own_laload (X : Stand p l e R s m args below meth c T locs cells slots) (hx : p.tables.exec = Jvm.exec) (hZ : Z.Warmed39 s.vm) (eT : T.heap = h) {f : Nat → Int64} (F : own_AV Value.long Z h a .long n f) {j : Int32} {k : Nat} (hj : ¬ j < 0) (hk : j.toNatClampNeg = k) (hlt : k < n)
    {g : JFrame} (hg : g.method = m) {rest : List Value} (hs : g.stack = .int j :: .ref a :: rest) (hd : decode c.code g.pc = .ok (.laload, 1)) {target : State} (hr : Steps p.tables e below (T.setTop { g with pc := g.pc + 1, stack := .long (f k) :: rest }) target) : Steps p.tables e below (T.setTop g) target := by
  obtain ⟨_, cl, A, S, H⟩ := F
  exact X.laload hx (j := j) (v := .long (f k)) (by rw [eT]; exact A.1) (State.isArrayOf_alike hZ.alike A.2.1) A.2.2 (own_in S hj hk hlt) (by rw [hk]; exact H k hlt) hg hs hd _ hr
theorem own_baload (X : Stand p l e R s m args below meth c T locs cells slots) (hx : p.tables.exec = Jvm.exec) (hZ : Z.Warmed39 s.vm) (eT : T.heap = h) {f : Nat → Int32} (F : own_AV Value.int Z h a .byte n f) {j : Int32} {k : Nat} (hj : ¬ j < 0) (hk : j.toNatClampNeg = k) (hlt : k < n)
    {g : JFrame} (hg : g.method = m) {rest : List Value} (hs : g.stack = .int j :: .ref a :: rest) (hd : decode c.code g.pc = .ok (.baload, 1)) {target : State} (hr : Steps p.tables e below (T.setTop { g with pc := g.pc + 1, stack := .int (f k) :: rest }) target) : Steps p.tables e below (T.setTop g) target := by
  obtain ⟨_, cl, A, S, H⟩ := F
  exact X.baloadBytes hx (j := j) (v := .int (f k)) (by rw [eT]; exact A.1) (State.isArrayOf_alike hZ.alike A.2.1) A.2.2 (own_in S hj hk hlt) (by rw [hk]; exact H k hlt) hg hs hd _ hr
theorem own_cloneI (X : Stand p l e R s m args below meth c T locs cells slots) (hx : p.tables.exec = Jvm.exec) (hZ : Z.Warmed39 s.vm) {a0 : Array Value} {own ad : String} {index : Nat} (hown : s.vm.findClass own = some m.cls)
    (w1 : (Cond.methodLink own index ⟨ad, "clone", "()Ljava/lang/Object;"⟩).before a0 Z = true) (w2 : (Cond.sameMethod ad "java/lang/Object" "clone" "()Ljava/lang/Object;").before a0 Z = true) (w3 : (Cond.native ⟨"java/lang/Object", "clone", "()Ljava/lang/Object;"⟩).before a0 Z = true)
    (w4 : (Cond.instanceMethod ⟨"java/lang/Object", "clone", "()Ljava/lang/Object;"⟩).before a0 Z = true) (w5 : (Cond.selects ad ⟨ad, "clone", "()Ljava/lang/Object;"⟩ ⟨"java/lang/Object", "clone", "()Ljava/lang/Object;"⟩).before a0 Z = true) (w6 : (Cond.castable ad "java/lang/Cloneable").before a0 Z = true)
    (eT : T.heap = h) {f : Nat → Int32} (F : own_AV Value.int Z h a .int n f) (E : Exa Z h a ad) {g : JFrame} (hg : g.method = m) (hsize : g.locals.size = c.maxLocals) {rest : List Value} (hs : g.stack = .ref a :: rest) (hd : decode c.code g.pc = .ok (.invokevirtual index, 3))
    (hf : 1 ≤ R.frames) {W cap : Nat} (hW : 2 * g.monitorRoom + (rest.map fun v => v.category).sum ≤ W) (hl : W + 14 ≤ R.locals) (hcap : n ≤ cap) (hc : cells + 1 ≤ R.cells) (hsl : slots + cap ≤ R.slots) :
    ∃ T' h', Stand p l e R s m args below meth c T' locs (cells + 1) (slots + cap) ∧ T'.heap = h' ∧ Ext h h' ∧ own_AV Value.int Z h' h.size .int n f ∧ Exa Z h' h.size ad ∧
      ∀ target, Steps p.tables e below (T'.setTop { g with pc := g.pc + 3, stack := .ref h.size :: rest }) target → Steps p.tables e below (T.setTop g) target := by
  obtain ⟨nn, cl, A, S, H⟩ := F
  have FC : FitC Z cl := fitC_of A fun i hi v hv => by rw [H i (S ▸ hi)] at hv; cases hv; rfl
  obtain ⟨T', h', X', e', ex, A', E', st⟩ := cloneA X hx hZ hown w1 w2 w3 w4 w5 w6 eT A E FC hg hsize hs hd hf hW hl (by rw [S]; exact hcap) hc hsl
  exact ⟨T', h', X', e', ex, ⟨nn, cloneOf cl, A', S, H⟩, E', st⟩
theorem own_alen (X : Stand p l e R s m args below meth c T locs cells slots) (hx : p.tables.exec = Jvm.exec) (hZ : Z.Warmed39 s.vm) (eT : T.heap = h) (F : own_AV mk Z h a ty n f) {z : Int32} (hz : n.toInt32 = z)
    {g : JFrame} (hg : g.method = m) {rest : List Value} (hs : g.stack = .ref a :: rest) (hd : decode c.code g.pc = .ok (.arraylength, 1)) {target : State} (hr : Steps p.tables e below (T.setTop { g with pc := g.pc + 1, stack := .int z :: rest }) target) : Steps p.tables e below (T.setTop g) target := by
  obtain ⟨_, cl, A, S, H⟩ := F
  exact X.arraylength hx (by rw [eT]; exact A.1) (State.isArrayOf_alike hZ.alike A.2.1) hg hs hd _ (by rw [S, hz]; exact hr)
end
end OwnKit
def own_sum (f : Nat → Int64) : Nat → Int64
  | 0 => 0
  | k + 1 => own_sum f k + f k
theorem own_z32 : (0 : Int32).toInt = 0 := by decide
theorem own_nneg {i : Int32} (h : 0 ≤ i.toInt) : ¬ i < 0 := by rw [Int32.lt_iff_toInt_lt, own_z32]; omega
theorem own_natc {i : Int32} (h : 0 ≤ i.toInt) : (i.toNatClampNeg : Int) = i.toInt := (nat_of (own_nneg h)).symm
theorem own_ofNat {n : Nat} (h : n < 2 ^ 31) : (Int32.ofNat n).toInt = n := Int32.toInt_ofNat_of_lt h
theorem own_inc {i : Int32} {n : Nat} (hn : n < 2 ^ 31) (h : 0 ≤ i.toInt) (h2 : i.toInt < n) : (i + (1 : Int32)).toInt = i.toInt + 1 := by
  have e := c_iadd i 1; have r := rng32 (i + 1); have o : (1 : Int32).toInt = 1 := by decide
  omega
/-- a turn more: i + 1, the place i -/
theorem own_up {i : Int32} {n : Nat} (hn : n < 2 ^ 31) (hi : 0 ≤ i.toInt ∧ i.toInt ≤ n) (hc : i < Int32.ofNat n) :
    (0 ≤ (i + (1 : Int32)).toInt ∧ (i + (1 : Int32)).toInt ≤ n) ∧ (¬ i < 0 ∧ i.toNatClampNeg < n) ∧ (i + (1 : Int32)).toNatClampNeg = i.toNatClampNeg + 1 := by
  rw [Int32.lt_iff_toInt_lt, own_ofNat hn] at hc
  have e := own_inc hn hi.1 hc
  have a := own_natc hi.1
  have b := own_natc (i := i + 1) (by omega)
  exact ⟨by omega, ⟨own_nneg hi.1, by omega⟩, by omega⟩
theorem own_dec {i : Int32} {n k : Nat} (hn : n < 2 ^ 31) (hi : 0 ≤ i.toInt ∧ i.toInt ≤ n) (hc : i < Int32.ofNat n) (hm : n - i.toNatClampNeg = k) : n - (i + (1 : Int32)).toNatClampNeg < k := by
  have h := own_up hn hi hc
  omega
theorem own_last {i : Int32} {n : Nat} (hn : n < 2 ^ 31) (hi : 0 ≤ i.toInt ∧ i.toInt ≤ n) (hc : ¬ i < Int32.ofNat n) : i.toNatClampNeg = n := by
  rw [Int32.lt_iff_toInt_lt, own_ofNat hn] at hc
  have a := own_natc hi.1
  omega

theorem own_pn0 : plainName "wavegauge/model/CapacitiesTotalPinLaw" = true := by first | (simp [plainName, overriddenIn]; done) | decide +kernel
theorem d1_0 : decode method_3_code 0 = .ok (.iload_n 0, 1) := by decide +kernel
theorem d1_1 : decode method_3_code 1 = .ok (.ldc 7, 2) := by decide +kernel
theorem d1_3 : decode method_3_code 3 = .ok (.iand, 1) := by decide +kernel
theorem d1_4 : decode method_3_code 4 = .ok (.sipush 321, 3) := by decide +kernel
theorem d1_7 : decode method_3_code 7 = .ok (.irem, 1) := by decide +kernel
theorem d1_8 : decode method_3_code 8 = .ok (.ireturn, 1) := by decide +kernel
theorem ef1 (m : MethodId) (p0 : Int32) : entryFrame m #[(.int p0)] 1 = mkF m 0 #[.val (.int p0)] [] := by first | (simp [entryFrame, mkF, argsToLocals, Value.category]; done) | rfl
def f1 (p0 : Int32) : Int32 := ((p0 &&& (2147483647 : Int32)) % (321 : Int32))
def Q1 (Z : State) (p0 : Int32) (h0 : Heap) (n0 : Nat) (v : Option Value) (h : Heap) (L : List Loc) : Prop := v = some (.int (f1 p0)) ∧ Fr n0 L ∧ h = h0
set_option maxRecDepth 65536 in
set_option maxHeartbeats 40000000 in
theorem rm1 (l : Launch) (Z : State) (a0 : Array Value) (hw : ∀ d ∈ tables_1, d.before a0 Z = true) (ws : List Jvm.Cond) (p0 : Int32) (h0 : Heap) (n0 : Nat) (Z0 : n0 ≤ h0.size) :
    MetFree l (⟨"wavegauge/model/CapacitiesTotalPinLaw", "count", "(I)I"⟩ : MethodName) (head1 (Jvm.Cond.code (⟨"wavegauge/model/CapacitiesTotalPinLaw", "count", "(I)I"⟩ : MethodName) method_3_code 1 (some .int) :: ws) ({ frames := 0, cells := 0, slots := 0, locals := 0 } : Room)) (fun a U => a = #[(.int p0)] ∧ Z.Warmed39 U.vm ∧ U.heap = h0) (fun _ _ _ _ _ => True) (fun _ U o U' => ∃ v L, o = .returned v ∧ Q1 Z p0 h0 n0 v U'.heap L ∧ FrameEnd U o U' L ({ frames := 0, cells := 0, slots := 0, locals := 0 } : Room).cells ({ frames := 0, cells := 0, slots := 0, locals := 0 } : Room).slots) := by
  refine MetFree.of_bodySF (plainFor_of_name own_pn0) hisR ?_
  intro p e s m args below meth c s₁ Bd hml0 hP hK
  obtain ⟨rfl, hZ, hh⟩ := hP
  have hx := Bd.exec
  have hby := Bd.bytes
  have hml : c.maxLocals = 1 := hml0
  have hown : s.vm.findClass "wavegauge/model/CapacitiesTotalPinLaw" = some m.cls := findClass_of_methodNamed Bd.named
  have hnm := (name_of_methodNamed Bd.named Bd.method).1
  have hlk : meth.locks = false := BodyLoose.notSynchronized Bd
  have X0 : Stand p l e ({ frames := 0, cells := 0, slots := 0, locals := 0 } : Room) s m #[(.int p0)] below meth c s₁ [] 0 0 := Stand.of_body Bd
  have e0 : s₁.heap = h0 := by rw [← hh, Bd.state]; rfl
  have N0 := Fr.nil n0
  obtain ⟨G, hG⟩ : ∃ G, G = own_G s (Q1 Z p0 h0 n0) ({ frames := 0, cells := 0, slots := 0, locals := 0 } : Room).cells ({ frames := 0, cells := 0, slots := 0, locals := 0 } : Room).slots := ⟨_, rfl⟩
  show own_Fin p e below (own_G s (Q1 Z p0 h0 n0) ({ frames := 0, cells := 0, slots := 0, locals := 0 } : Room).cells ({ frames := 0, cells := 0, slots := 0, locals := 0 } : Room).slots) (s₁.setTop (entryFrame m #[(.int p0)] 1))
  rw [← hG]
  refine own_to (fun _ kz => castTop (ef1 m p0) kz) ?_
  have q0 : (f1 p0) = (f1 p0) := rfl
  show own_Fin p e below G (s₁.setTop (mkF m 0 #[.val (.int p0)] []))
  refine own_to (fun _ kz => XS.iloadN X0.here hx rfl (hb hby d1_0) rfl  kz) ?_
  show own_Fin p e below G (s₁.setTop (mkF m 1 #[.val (.int p0)] [(.int p0)]))
  refine own_to (fun _ kz => X0.ldcInt hx hown (mvT hZ (hw _ (List.mem_of_getElem? (i := 0) rfl))) (g := (mkF m 1 #[.val (.int p0)] [(.int p0)])) rfl (hb hby d1_1) _ kz) ?_
  show own_Fin p e below G (s₁.setTop (mkF m 3 #[.val (.int p0)] [(.int (2147483647 : Int32)), (.int p0)]))
  refine own_to (fun _ kz => XS.iand X0.here hx rfl (hb hby d1_3) rfl kz) ?_
  show own_Fin p e below G (s₁.setTop (mkF m 4 #[.val (.int p0)] [(.int (p0 &&& (2147483647 : Int32)))]))
  refine own_to (fun _ kz => XS.sipush X0.here hx rfl (hb hby d1_4) kz) ?_
  show own_Fin p e below G (s₁.setTop (mkF m 7 #[.val (.int p0)] [(.int (321 : Int32)), (.int (p0 &&& (2147483647 : Int32)))]))
  refine own_to (fun _ kz => iremM X0 hx rfl (hb hby d1_7) rfl (by decide) kz) ?_
  show own_Fin p e below G (s₁.setTop (mkF m 8 #[.val (.int p0)] [(.int ((p0 &&& (2147483647 : Int32)) % (321 : Int32)))]))
  exact own_retI X0 hx hlk hG Bd.returns (hb hby d1_8) (by decide) (by decide) ⟨(congrArg (fun z => some (Value.int z)) q0).symm, N0, e0⟩
def own_R (x : Int32) : Prop := 0 ≤ x.toInt ∧ x.toInt ≤ 320
theorem own_R0 : own_R (0 : Int32) := ⟨by decide, by decide⟩
theorem own_cnt (p : Int32) : 0 ≤ (f1 p).toInt ∧ (f1 p).toInt ≤ 320 := by
  have h := c_and p 2147483647 (by decide)
  have g := (c_irem (p &&& (2147483647 : Int32)) 321 321 (by decide)).1 h.1
  unfold f1; omega
theorem own_rem5 (a : Int32) : 0 ≤ ((a &&& (2147483647 : Int32)) % (5 : Int32)).toInt ∧ ((a &&& (2147483647 : Int32)) % (5 : Int32)).toInt ≤ 4 := by
  have h := c_and a 2147483647 (by decide)
  have g := (c_irem (a &&& (2147483647 : Int32)) 5 5 (by decide)).1 h.1
  omega
theorem own_5 {s : Int32} (h0 : 0 ≤ s.toInt ∧ s.toInt ≤ 4) : s = 0 ∨ s = 1 ∨ s = 2 ∨ s = 3 ∨ s = 4 := by
  have e : ∀ k : Int32, s.toInt = k.toInt → s = k := fun k h => Int32.toInt_inj.mp h
  have : s.toInt = 0 ∨ s.toInt = 1 ∨ s.toInt = 2 ∨ s.toInt = 3 ∨ s.toInt = 4 := by omega
  rcases this with h | h | h | h | h
  · exact Or.inl (e 0 h)
  · exact Or.inr (Or.inl (e 1 h))
  · exact Or.inr (Or.inr (Or.inl (e 2 h)))
  · exact Or.inr (Or.inr (Or.inr (Or.inl (e 3 h))))
  · exact Or.inr (Or.inr (Or.inr (Or.inr (e 4 h))))
def own_sumI (f : Nat → Int32) : Nat → Int64
  | 0 => 0
  | k + 1 => own_sumI f k + (f k).toInt64
theorem own_low {x : Int32} (h : 0 ≤ x.toInt ∧ x.toInt ≤ 320) : ¬ x < 0 := own_nneg h.1
theorem own_top {x : Int32} (h : 0 ≤ x.toInt ∧ x.toInt ≤ 320) : ¬ (320 : Int32) < x := by
  have q : (320 : Int32).toInt = 320 := by decide
  rw [Int32.lt_iff_toInt_lt]; omega
theorem own_pn1 : plainName "wavegauge/model/Capacities" = true := by first | (simp [plainName, overriddenIn]; done) | decide +kernel
theorem d2_0 : decode prog_24_method_1_code 0 = .ok (.aload_n 0, 1) := by decide +kernel
theorem d2_1 : decode prog_24_method_1_code 1 = .ok (.invokespecial 1, 3) := by decide +kernel
theorem d2_4 : decode prog_24_method_1_code 4 = .ok (.iconst 0, 1) := by decide +kernel
theorem d2_5 : decode prog_24_method_1_code 5 = .ok (.istore_n 2, 1) := by decide +kernel
theorem d2_6 : decode prog_24_method_1_code 6 = .ok (.iload_n 2, 1) := by decide +kernel
theorem d2_7 : decode prog_24_method_1_code 7 = .ok (.aload_n 1, 1) := by decide +kernel
theorem d2_8 : decode prog_24_method_1_code 8 = .ok (.arraylength, 1) := by decide +kernel
theorem d2_9 : decode prog_24_method_1_code 9 = .ok (.if_icmp .ge 41, 3) := by decide +kernel
theorem d2_12 : decode prog_24_method_1_code 12 = .ok (.aload_n 1, 1) := by decide +kernel
theorem d2_13 : decode prog_24_method_1_code 13 = .ok (.iload_n 2, 1) := by decide +kernel
theorem d2_14 : decode prog_24_method_1_code 14 = .ok (.iaload, 1) := by decide +kernel
theorem d2_15 : decode prog_24_method_1_code 15 = .ok (.ifCond .lt 12, 3) := by decide +kernel
theorem d2_18 : decode prog_24_method_1_code 18 = .ok (.aload_n 1, 1) := by decide +kernel
theorem d2_19 : decode prog_24_method_1_code 19 = .ok (.iload_n 2, 1) := by decide +kernel
theorem d2_20 : decode prog_24_method_1_code 20 = .ok (.iaload, 1) := by decide +kernel
theorem d2_21 : decode prog_24_method_1_code 21 = .ok (.sipush 320, 3) := by decide +kernel
theorem d2_24 : decode prog_24_method_1_code 24 = .ok (.if_icmp .le 20, 3) := by decide +kernel
theorem d2_44 : decode prog_24_method_1_code 44 = .ok (.iinc 2 1, 3) := by decide +kernel
theorem d2_47 : decode prog_24_method_1_code 47 = .ok (.goto (-41), 3) := by decide +kernel
theorem d2_50 : decode prog_24_method_1_code 50 = .ok (.aload_n 0, 1) := by decide +kernel
theorem d2_51 : decode prog_24_method_1_code 51 = .ok (.aload_n 1, 1) := by decide +kernel
theorem d2_52 : decode prog_24_method_1_code 52 = .ok (.invokevirtual 18, 3) := by decide +kernel
theorem d2_55 : decode prog_24_method_1_code 55 = .ok (.checkcast 19, 3) := by decide +kernel
theorem d2_58 : decode prog_24_method_1_code 58 = .ok (.putfield 24, 3) := by decide +kernel
theorem d2_61 : decode prog_24_method_1_code 61 = .ok (.return_, 1) := by decide +kernel
theorem ef2 (m : MethodId) (ad0 : Addr) (ad1 : Addr) : entryFrame m #[(.ref ad0), (.ref ad1)] 3 = mkF m 0 #[.val (.ref ad0), .val (.ref ad1), .unset] [] := by first | (simp [entryFrame, mkF, argsToLocals, Value.category]; done) | rfl
def Q2 (Z : State) (ad0 : Addr) (ad1 : Addr) (n : Nat) (xs : Nat → Int32) (h0 : Heap) (n0 : Nat) (v : Option Value) (h : Heap) (L : List Loc) : Prop := v = none ∧ Fr n0 L ∧ Keep h0 h [ad0] ∧ Exa Z h ad0 "wavegauge/model/Capacities" ∧ ∃ b : Addr, h0.size ≤ b ∧ Fld Z h ad0 "wavegauge/model/Capacities" "wavelengths" "[I" (.ref b) ∧ own_AV Value.int Z h b .int n xs
set_option maxRecDepth 65536 in
set_option maxHeartbeats 40000000 in
theorem rm2 (l : Launch) (Z : State) (a0 : Array Value) (hw : ∀ d ∈ tables_1, d.before a0 Z = true) (ws : List Jvm.Cond) (ad0 : Addr) (ad1 : Addr) (n : Nat) (xs : Nat → Int32) (h0 : Heap) (n0 : Nat) (Z0 : n0 ≤ h0.size) (E_ad0 : Exa Z h0 ad0 "wavegauge/model/Capacities") (F_wavelengths_ad0 : Fld Z h0 ad0 "wavegauge/model/Capacities" "wavelengths" "[I" .null) (g_ad0 : n0 ≤ ad0) (V_ad1 : own_AV Value.int Z h0 ad1 .int n xs) (E_ad1 : Exa Z h0 ad1 "[I") (hr : ∀ i, i < n → 0 ≤ (xs i).toInt ∧ (xs i).toInt ≤ 320) (hcap : n ≤ 4) :
    MetFree l (⟨"wavegauge/model/Capacities", "<init>", "([I)V"⟩ : MethodName) (head1 (Jvm.Cond.code (⟨"wavegauge/model/Capacities", "<init>", "([I)V"⟩ : MethodName) prog_24_method_1_code 3 none :: ws) ({ frames := 1, cells := 1, slots := 4, locals := 15 } : Room)) (fun a U => a = #[(.ref ad0), (.ref ad1)] ∧ Z.Warmed39 U.vm ∧ U.heap = h0) (fun _ _ _ _ _ => True) (fun _ U o U' => ∃ v L, o = .returned v ∧ Q2 Z ad0 ad1 n xs h0 n0 v U'.heap L ∧ FrameEnd U o U' L ({ frames := 1, cells := 1, slots := 4, locals := 15 } : Room).cells ({ frames := 1, cells := 1, slots := 4, locals := 15 } : Room).slots) := by
  refine MetFree.of_bodySF (plainFor_of_name own_pn1) hisR ?_
  intro p e s m args below meth c s₁ Bd hml0 hP hK
  obtain ⟨rfl, hZ, hh⟩ := hP
  have hx := Bd.exec
  have hby := Bd.bytes
  have hml : c.maxLocals = 3 := hml0
  have hown : s.vm.findClass "wavegauge/model/Capacities" = some m.cls := findClass_of_methodNamed Bd.named
  have hnm := (name_of_methodNamed Bd.named Bd.method).1
  have hlk : meth.locks = false := BodyLoose.notSynchronized Bd
  have X0 : Stand p l e ({ frames := 1, cells := 1, slots := 4, locals := 15 } : Room) s m #[(.ref ad0), (.ref ad1)] below meth c s₁ [] 0 0 := Stand.of_body Bd
  have e0 : s₁.heap = h0 := by rw [← hh, Bd.state]; rfl
  have N0 := Fr.nil n0
  obtain ⟨G, hG⟩ : ∃ G, G = own_G s (Q2 Z ad0 ad1 n xs h0 n0) ({ frames := 1, cells := 1, slots := 4, locals := 15 } : Room).cells ({ frames := 1, cells := 1, slots := 4, locals := 15 } : Room).slots := ⟨_, rfl⟩
  show own_Fin p e below (own_G s (Q2 Z ad0 ad1 n xs h0 n0) ({ frames := 1, cells := 1, slots := 4, locals := 15 } : Room).cells ({ frames := 1, cells := 1, slots := 4, locals := 15 } : Room).slots) (s₁.setTop (entryFrame m #[(.ref ad0), (.ref ad1)] 3))
  rw [← hG]
  refine own_to (fun _ kz => castTop (ef2 m ad0 ad1) kz) ?_
  show own_Fin p e below G (s₁.setTop (mkF m 0 #[.val (.ref ad0), .val (.ref ad1), .unset] []))
  refine own_to (fun _ kz => XS.aloadN X0.here hx rfl (hb hby d2_0) rfl (rfl)  kz) ?_
  show own_Fin p e below G (s₁.setTop (mkF m 1 #[.val (.ref ad0), .val (.ref ad1), .unset] [(.ref ad0)]))
  obtain ⟨T1, X1, e1, st1⟩ := initO X0 hx hZ hown (hw _ (List.mem_of_getElem? (i := 12) rfl)) (hw _ (List.mem_of_getElem? (i := 13) rfl)) (hw _ (List.mem_of_getElem? (i := 14) rfl)) e0 (g := (mkF m 1 #[.val (.ref ad0), .val (.ref ad1), .unset] [(.ref ad0)])) rfl (by rw [hml]; rfl) rfl (hb hby d2_1) (by decide) (W := 0) (by show 2 * 0 + _ ≤ _; exact Nat.le_of_eq rfl) (by decide)
  refine own_to st1 ?_
  show own_Fin p e below G (T1.setTop (mkF m 4 #[.val (.ref ad0), .val (.ref ad1), .unset] []))
  refine own_to (fun _ kz => XS.iconst X1.here hx rfl (hb hby d2_4) kz) ?_
  show own_Fin p e below G (T1.setTop (mkF m 5 #[.val (.ref ad0), .val (.ref ad1), .unset] [(.int (0 : Int32))]))
  refine own_to (fun _ kz => XS.istoreN X1.here hx rfl (hb hby d2_5) rfl (l' := #[.val (.ref ad0), .val (.ref ad1), .val (.int (0 : Int32))]) rfl kz) ?_
  show own_Fin p e below G (T1.setTop (mkF m 6 #[.val (.ref ad0), .val (.ref ad1), .val (.int (0 : Int32))] []))
  have K6 : ∀ (k_6 : Nat) (i : Int32) (T_j6 : State) (locs_j6 : List Loc) (N_j6 : Fr n0 locs_j6) (X_j6 : Stand p l e ({ frames := 1, cells := 1, slots := 4, locals := 15 } : Room) s m #[(.ref ad0), (.ref ad1)] below meth c T_j6 locs_j6 0 0) (e_j6 : T_j6.heap = h0) (hm_6 : n - i.toNatClampNeg = k_6) (hi : 0 ≤ i.toInt ∧ i.toInt ≤ n), own_Fin p e below G (T_j6.setTop (mkF m 6 #[.val (.ref ad0), .val (.ref ad1), .val (.int i)] [])) := by
    intro k_6
    induction k_6 using Nat.strongRecOn with
    | _ k_6 ih_6 =>
      intro i T_j6 locs_j6 N_j6 X_j6 e_j6 hm_6 hi
      refine own_to (fun _ kz => XS.iloadN X_j6.here hx rfl (hb hby d2_6) rfl  kz) ?_
      show own_Fin p e below G (T_j6.setTop (mkF m 7 #[.val (.ref ad0), .val (.ref ad1), .val (.int i)] [(.int i)]))
      refine own_to (fun _ kz => XS.aloadN X_j6.here hx rfl (hb hby d2_7) rfl (rfl)  kz) ?_
      show own_Fin p e below G (T_j6.setTop (mkF m 8 #[.val (.ref ad0), .val (.ref ad1), .val (.int i)] [(.ref ad1), (.int i)]))
      refine own_to (fun _ kz => own_alen X_j6 hx hZ e_j6 V_ad1 (z := (Int32.ofNat n)) rfl (g := (mkF m 8 #[.val (.ref ad0), .val (.ref ad1), .val (.int i)] [(.ref ad1), (.int i)])) rfl rfl (hb hby d2_8) kz) ?_
      show own_Fin p e below G (T_j6.setTop (mkF m 9 #[.val (.ref ad0), .val (.ref ad1), .val (.int i)] [(.int (Int32.ofNat n)), (.int i)]))
      by_cases hc9 : i < (Int32.ofNat n)
      · refine own_to (fun _ kz => XS.icmpNo X_j6.here hx rfl (hb hby d2_9) rfl (tlt hc9).2.1 kz) ?_
        show own_Fin p e below G (T_j6.setTop (mkF m 12 #[.val (.ref ad0), .val (.ref ad1), .val (.int i)] []))
        refine own_to (fun _ kz => XS.aloadN X_j6.here hx rfl (hb hby d2_12) rfl (rfl)  kz) ?_
        show own_Fin p e below G (T_j6.setTop (mkF m 13 #[.val (.ref ad0), .val (.ref ad1), .val (.int i)] [(.ref ad1)]))
        refine own_to (fun _ kz => XS.iloadN X_j6.here hx rfl (hb hby d2_13) rfl  kz) ?_
        show own_Fin p e below G (T_j6.setTop (mkF m 14 #[.val (.ref ad0), .val (.ref ad1), .val (.int i)] [(.int i), (.ref ad1)]))
        refine own_to (fun _ kz => own_iaload X_j6 hx hZ e_j6 V_ad1 (j := i) (own_up V_ad1.1 hi hc9).2.1.1 rfl (own_up V_ad1.1 hi hc9).2.1.2 (g := (mkF m 14 #[.val (.ref ad0), .val (.ref ad1), .val (.int i)] [(.int i), (.ref ad1)])) rfl rfl (hb hby d2_14) kz) ?_
        show own_Fin p e below G (T_j6.setTop (mkF m 15 #[.val (.ref ad0), .val (.ref ad1), .val (.int i)] [(.int (xs i.toNatClampNeg))]))
        have hc15 : ¬ ((xs i.toNatClampNeg) < (0 : Int32)) := own_low (hr _ (own_up V_ad1.1 hi hc9).2.1.2)
        refine own_to (fun _ kz => XS.ifNo X_j6.here hx rfl (hb hby d2_15) rfl ((if0 _ _).trans (flt hc15).1) kz) ?_
        show own_Fin p e below G (T_j6.setTop (mkF m 18 #[.val (.ref ad0), .val (.ref ad1), .val (.int i)] []))
        refine own_to (fun _ kz => XS.aloadN X_j6.here hx rfl (hb hby d2_18) rfl (rfl)  kz) ?_
        show own_Fin p e below G (T_j6.setTop (mkF m 19 #[.val (.ref ad0), .val (.ref ad1), .val (.int i)] [(.ref ad1)]))
        refine own_to (fun _ kz => XS.iloadN X_j6.here hx rfl (hb hby d2_19) rfl  kz) ?_
        show own_Fin p e below G (T_j6.setTop (mkF m 20 #[.val (.ref ad0), .val (.ref ad1), .val (.int i)] [(.int i), (.ref ad1)]))
        refine own_to (fun _ kz => own_iaload X_j6 hx hZ e_j6 V_ad1 (j := i) (own_up V_ad1.1 hi hc9).2.1.1 rfl (own_up V_ad1.1 hi hc9).2.1.2 (g := (mkF m 20 #[.val (.ref ad0), .val (.ref ad1), .val (.int i)] [(.int i), (.ref ad1)])) rfl rfl (hb hby d2_20) kz) ?_
        show own_Fin p e below G (T_j6.setTop (mkF m 21 #[.val (.ref ad0), .val (.ref ad1), .val (.int i)] [(.int (xs i.toNatClampNeg))]))
        refine own_to (fun _ kz => XS.sipush X_j6.here hx rfl (hb hby d2_21) kz) ?_
        show own_Fin p e below G (T_j6.setTop (mkF m 24 #[.val (.ref ad0), .val (.ref ad1), .val (.int i)] [(.int (320 : Int32)), (.int (xs i.toNatClampNeg))]))
        have hc24 : ¬ ((320 : Int32) < (xs i.toNatClampNeg)) := own_top (hr _ (own_up V_ad1.1 hi hc9).2.1.2)
        refine own_to (fun _ kz => XS.icmpYes X_j6.here hx rfl (pc0 := 24) (pc' := 44) rfl (hb hby d2_24) rfl (flt hc24).2.2.2 (by decide) (by decide) kz) ?_
        show own_Fin p e below G (T_j6.setTop (mkF m 44 #[.val (.ref ad0), .val (.ref ad1), .val (.int i)] []))
        refine own_to (fun _ kz => XS.iinc X_j6.here hx rfl (hb hby d2_44) rfl (l' := #[.val (.ref ad0), .val (.ref ad1), .val (.int (i + (1 : Int32)))]) rfl kz) ?_
        show own_Fin p e below G (T_j6.setTop (mkF m 47 #[.val (.ref ad0), .val (.ref ad1), .val (.int (i + (1 : Int32)))] []))
        refine own_to (fun _ kz => XS.goto X_j6.here hx rfl (pc0 := 47) (pc' := 6) rfl (hb hby d2_47) (by decide) (by decide) kz) ?_
        show own_Fin p e below G (T_j6.setTop (mkF m 6 #[.val (.ref ad0), .val (.ref ad1), .val (.int (i + (1 : Int32)))] []))
        exact ih_6 _ (own_dec V_ad1.1 hi hc9 hm_6) (i + (1 : Int32)) _ _ N_j6 X_j6 e_j6 rfl (own_up V_ad1.1 hi hc9).1
      · refine own_to (fun _ kz => XS.icmpYes X_j6.here hx rfl (pc0 := 9) (pc' := 50) rfl (hb hby d2_9) rfl (flt hc9).2.1 (by decide) (by decide) kz) ?_
        show own_Fin p e below G (T_j6.setTop (mkF m 50 #[.val (.ref ad0), .val (.ref ad1), .val (.int i)] []))
        refine own_to (fun _ kz => XS.aloadN X_j6.here hx rfl (hb hby d2_50) rfl (rfl)  kz) ?_
        show own_Fin p e below G (T_j6.setTop (mkF m 51 #[.val (.ref ad0), .val (.ref ad1), .val (.int i)] [(.ref ad0)]))
        refine own_to (fun _ kz => XS.aloadN X_j6.here hx rfl (hb hby d2_51) rfl (rfl)  kz) ?_
        show own_Fin p e below G (T_j6.setTop (mkF m 52 #[.val (.ref ad0), .val (.ref ad1), .val (.int i)] [(.ref ad1), (.ref ad0)]))
        obtain ⟨T52, h52, X52, e52, E52, V52, A52, st52⟩ := own_cloneI X_j6 hx hZ hown (hw _ (List.mem_of_getElem? (i := 15) rfl)) (hw _ (List.mem_of_getElem? (i := 16) rfl)) (hw _ (List.mem_of_getElem? (i := 20) rfl)) (hw _ (List.mem_of_getElem? (i := 18) rfl)) (hw _ (List.mem_of_getElem? (i := 19) rfl)) (hw _ (List.mem_of_getElem? (i := 21) rfl)) e_j6 V_ad1 E_ad1 (g := (mkF m 52 #[.val (.ref ad0), .val (.ref ad1), .val (.int i)] [(.ref ad1), (.ref ad0)])) rfl (by rw [hml]; rfl) rfl (hb hby d2_52) (by decide) (W := 1) (by show 2 * 0 + _ ≤ _; exact Nat.le_of_eq rfl) (by decide) (cap := 4) hcap (by decide) (by decide)
        obtain ⟨b52, g52⟩ : ∃ z, z = h0.size := ⟨_, rfl⟩
        rw [← g52] at A52 V52 st52
        refine own_to st52 ?_
        have ne_ad0_b52 : ad0 ≠ b52 := Nat.ne_of_lt (Nat.lt_of_lt_of_le E_ad0.lt (Nat.le_of_eq g52.symm))
        have ne_ad1_b52 : ad1 ≠ b52 := Nat.ne_of_lt (Nat.lt_of_lt_of_le V_ad1.lt (Nat.le_of_eq g52.symm))
        have g_b52 : n0 ≤ b52 := Nat.le_trans Z0 (Nat.le_of_eq g52.symm)
        have sz_b52 : h0.size ≤ b52 := Nat.le_trans (Keep.refl h0 [ad0]).1 (Nat.le_of_eq g52.symm)
        show own_Fin p e below G (T52.setTop (mkF m 55 #[.val (.ref ad0), .val (.ref ad1), .val (.int i)] [(.ref b52), (.ref ad0)]))
        obtain ⟨T55, X55, e55, st55⟩ := castY X52 hx hZ hown (hw _ (List.mem_of_getElem? (i := 22) rfl)) e52 (Ins.self A52) (g := (mkF m 55 #[.val (.ref ad0), .val (.ref ad1), .val (.int i)] [(.ref b52), (.ref ad0)])) rfl rfl (hb hby d2_55)
        refine own_to st55 ?_
        show own_Fin p e below G (T55.setTop (mkF m 58 #[.val (.ref ad0), .val (.ref ad1), .val (.int i)] [(.ref b52), (.ref ad0)]))
        have E_ad0_at_58 : Exa Z h52 ad0 "wavegauge/model/Capacities" := (E_ad0.ext E52)
        have F_wavelengths_ad0_at_58 : Fld Z h52 ad0 "wavegauge/model/Capacities" "wavelengths" "[I" .null := (F_wavelengths_ad0.ext E52)
        obtain ⟨T58, h58, X58, e58, W58, st58⟩ := putF X55 hx hZ hown (host := "") (Or.inl (hw _ (List.mem_of_getElem? (i := 24) rfl))) Via.refl e55 F_wavelengths_ad0_at_58 E_ad0_at_58 (Or.inr ⟨(hw _ (List.mem_of_getElem? (i := 25) rfl)), rfl, hnm⟩) (hw _ (List.mem_of_getElem? (i := 7) rfl)) (ty := (.array .int)) (by decide) rfl rfl (g := (mkF m 58 #[.val (.ref ad0), .val (.ref ad1), .val (.int i)] [(.ref b52), (.ref ad0)])) rfl rfl (hb hby d2_58)
        refine own_to st58 ?_
        have Fw58 : Fld Z h58 ad0 "wavegauge/model/Capacities" "wavelengths" "[I" (.ref b52) := Fld.same W58 F_wavelengths_ad0_at_58
        have N58 := Fr.snoc X58 N_j6 g_ad0
        show own_Fin p e below G (T58.setTop (mkF m 61 #[.val (.ref ad0), .val (.ref ad1), .val (.int i)] []))
        have KP_61 : Keep h0 h58 [ad0] := (((Keep.refl h0 [ad0]).ext E52).wr W58 (Or.inl (List.mem_of_getElem? (i := 0) rfl)))
        have E_ad0_at_61 : Exa Z h58 ad0 "wavegauge/model/Capacities" := (E_ad0_at_58.wr W58)
        have V52_at_61 : own_AV Value.int Z h58 b52 .int n xs := (V52.other W58 (Ne.symm ne_ad0_b52))
        exact own_retV X58 hx hlk hG Bd.returns (hb hby d2_61) (by decide) (by decide) (by rw [e58]; exact ⟨rfl, N58, KP_61, E_ad0_at_61, b52, sz_b52, Fw58, V52_at_61⟩)
  exact K6 _ (0 : Int32) _ _ N0 X1 e1 rfl ⟨by decide, Int.natCast_nonneg n⟩
theorem d4_0 : decode prog_24_method_5_code 0 = .ok (.lconst 0, 1) := by decide +kernel
theorem d4_1 : decode prog_24_method_5_code 1 = .ok (.lstore_n 1, 1) := by decide +kernel
theorem d4_2 : decode prog_24_method_5_code 2 = .ok (.aload_n 0, 1) := by decide +kernel
theorem d4_3 : decode prog_24_method_5_code 3 = .ok (.getfield 24, 3) := by decide +kernel
theorem d4_6 : decode prog_24_method_5_code 6 = .ok (.astore_n 3, 1) := by decide +kernel
theorem d4_7 : decode prog_24_method_5_code 7 = .ok (.aload_n 3, 1) := by decide +kernel
theorem d4_8 : decode prog_24_method_5_code 8 = .ok (.arraylength, 1) := by decide +kernel
theorem d4_9 : decode prog_24_method_5_code 9 = .ok (.istore 4, 2) := by decide +kernel
theorem d4_11 : decode prog_24_method_5_code 11 = .ok (.iconst 0, 1) := by decide +kernel
theorem d4_12 : decode prog_24_method_5_code 12 = .ok (.istore 5, 2) := by decide +kernel
theorem d4_14 : decode prog_24_method_5_code 14 = .ok (.iload 5, 2) := by decide +kernel
theorem d4_16 : decode prog_24_method_5_code 16 = .ok (.iload 4, 2) := by decide +kernel
theorem d4_18 : decode prog_24_method_5_code 18 = .ok (.if_icmp .ge 21, 3) := by decide +kernel
theorem d4_21 : decode prog_24_method_5_code 21 = .ok (.aload_n 3, 1) := by decide +kernel
theorem d4_22 : decode prog_24_method_5_code 22 = .ok (.iload 5, 2) := by decide +kernel
theorem d4_24 : decode prog_24_method_5_code 24 = .ok (.iaload, 1) := by decide +kernel
theorem d4_25 : decode prog_24_method_5_code 25 = .ok (.istore 6, 2) := by decide +kernel
theorem d4_27 : decode prog_24_method_5_code 27 = .ok (.lload_n 1, 1) := by decide +kernel
theorem d4_28 : decode prog_24_method_5_code 28 = .ok (.iload 6, 2) := by decide +kernel
theorem d4_30 : decode prog_24_method_5_code 30 = .ok (.i2l, 1) := by decide +kernel
theorem d4_31 : decode prog_24_method_5_code 31 = .ok (.ladd, 1) := by decide +kernel
theorem d4_32 : decode prog_24_method_5_code 32 = .ok (.lstore_n 1, 1) := by decide +kernel
theorem d4_33 : decode prog_24_method_5_code 33 = .ok (.iinc 5 1, 3) := by decide +kernel
theorem d4_36 : decode prog_24_method_5_code 36 = .ok (.goto (-22), 3) := by decide +kernel
theorem d4_39 : decode prog_24_method_5_code 39 = .ok (.lload_n 1, 1) := by decide +kernel
theorem d4_40 : decode prog_24_method_5_code 40 = .ok (.lreturn, 1) := by decide +kernel
theorem ef4 (m : MethodId) (ad0 : Addr) : entryFrame m #[(.ref ad0)] 7 = mkF m 0 #[.val (.ref ad0), .unset, .unset, .unset, .unset, .unset, .unset] [] := by first | (simp [entryFrame, mkF, argsToLocals, Value.category]; done) | rfl
def Q4 (Z : State) (ad0 : Addr) (n : Nat) (xs : Nat → Int32) (wl : Addr) (h0 : Heap) (n0 : Nat) (v : Option Value) (h : Heap) (L : List Loc) : Prop := v = some (.long (own_sumI xs n)) ∧ Fr n0 L ∧ h = h0
set_option maxRecDepth 65536 in
set_option maxHeartbeats 40000000 in
theorem rm4 (l : Launch) (Z : State) (a0 : Array Value) (hw : ∀ d ∈ tables_1, d.before a0 Z = true) (ws : List Jvm.Cond) (ad0 : Addr) (n : Nat) (xs : Nat → Int32) (wl : Addr) (h0 : Heap) (n0 : Nat) (Z0 : n0 ≤ h0.size) (F_wavelengths_ad0 : Fld Z h0 ad0 "wavegauge/model/Capacities" "wavelengths" "[I" (.ref wl)) (V_wl : own_AV Value.int Z h0 wl .int n xs) :
    MetFree l (⟨"wavegauge/model/Capacities", "total", "()J"⟩ : MethodName) (head1 (Jvm.Cond.code (⟨"wavegauge/model/Capacities", "total", "()J"⟩ : MethodName) prog_24_method_5_code 7 (some .long) :: ws) ({ frames := 0, cells := 0, slots := 0, locals := 0 } : Room)) (fun a U => a = #[(.ref ad0)] ∧ Z.Warmed39 U.vm ∧ U.heap = h0) (fun _ _ _ _ _ => True) (fun _ U o U' => ∃ v L, o = .returned v ∧ Q4 Z ad0 n xs wl h0 n0 v U'.heap L ∧ FrameEnd U o U' L ({ frames := 0, cells := 0, slots := 0, locals := 0 } : Room).cells ({ frames := 0, cells := 0, slots := 0, locals := 0 } : Room).slots) := by
  refine MetFree.of_bodySF (plainFor_of_name own_pn1) hisR ?_
  intro p e s m args below meth c s₁ Bd hml0 hP hK
  obtain ⟨rfl, hZ, hh⟩ := hP
  have hx := Bd.exec
  have hby := Bd.bytes
  have hml : c.maxLocals = 7 := hml0
  have hown : s.vm.findClass "wavegauge/model/Capacities" = some m.cls := findClass_of_methodNamed Bd.named
  have hnm := (name_of_methodNamed Bd.named Bd.method).1
  have hlk : meth.locks = false := BodyLoose.notSynchronized Bd
  have X0 : Stand p l e ({ frames := 0, cells := 0, slots := 0, locals := 0 } : Room) s m #[(.ref ad0)] below meth c s₁ [] 0 0 := Stand.of_body Bd
  have e0 : s₁.heap = h0 := by rw [← hh, Bd.state]; rfl
  have N0 := Fr.nil n0
  obtain ⟨G, hG⟩ : ∃ G, G = own_G s (Q4 Z ad0 n xs wl h0 n0) ({ frames := 0, cells := 0, slots := 0, locals := 0 } : Room).cells ({ frames := 0, cells := 0, slots := 0, locals := 0 } : Room).slots := ⟨_, rfl⟩
  show own_Fin p e below (own_G s (Q4 Z ad0 n xs wl h0 n0) ({ frames := 0, cells := 0, slots := 0, locals := 0 } : Room).cells ({ frames := 0, cells := 0, slots := 0, locals := 0 } : Room).slots) (s₁.setTop (entryFrame m #[(.ref ad0)] 7))
  rw [← hG]
  refine own_to (fun _ kz => castTop (ef4 m ad0) kz) ?_
  show own_Fin p e below G (s₁.setTop (mkF m 0 #[.val (.ref ad0), .unset, .unset, .unset, .unset, .unset, .unset] []))
  refine own_to (fun _ kz => XS.lconst X0.here hx rfl (hb hby d4_0) kz) ?_
  show own_Fin p e below G (s₁.setTop (mkF m 1 #[.val (.ref ad0), .unset, .unset, .unset, .unset, .unset, .unset] [(.long (0 : Int64))]))
  refine own_to (fun _ kz => XS.lstoreN X0.here hx rfl (hb hby d4_1) rfl (l' := #[.val (.ref ad0), .val (.long (0 : Int64)), .second, .unset, .unset, .unset, .unset]) rfl kz) ?_
  show own_Fin p e below G (s₁.setTop (mkF m 2 #[.val (.ref ad0), .val (.long (0 : Int64)), .second, .unset, .unset, .unset, .unset] []))
  refine own_to (fun _ kz => XS.aloadN X0.here hx rfl (hb hby d4_2) rfl (rfl)  kz) ?_
  show own_Fin p e below G (s₁.setTop (mkF m 3 #[.val (.ref ad0), .val (.long (0 : Int64)), .second, .unset, .unset, .unset, .unset] [(.ref ad0)]))
  obtain ⟨T3, X3, e3, st3⟩ := getF X0 hx hZ hown (host := "") (Or.inl (hw _ (List.mem_of_getElem? (i := 24) rfl))) Via.refl e0 F_wavelengths_ad0 (g := (mkF m 3 #[.val (.ref ad0), .val (.long (0 : Int64)), .second, .unset, .unset, .unset, .unset] [(.ref ad0)])) rfl rfl (hb hby d4_3)
  refine own_to st3 ?_
  show own_Fin p e below G (T3.setTop (mkF m 6 #[.val (.ref ad0), .val (.long (0 : Int64)), .second, .unset, .unset, .unset, .unset] [(.ref wl)]))
  refine own_to (fun _ kz => XS.astoreN X3.here hx rfl (hb hby d4_6) rfl (rfl) (l' := #[.val (.ref ad0), .val (.long (0 : Int64)), .second, .val (.ref wl), .unset, .unset, .unset]) rfl kz) ?_
  show own_Fin p e below G (T3.setTop (mkF m 7 #[.val (.ref ad0), .val (.long (0 : Int64)), .second, .val (.ref wl), .unset, .unset, .unset] []))
  refine own_to (fun _ kz => XS.aloadN X3.here hx rfl (hb hby d4_7) rfl (rfl)  kz) ?_
  show own_Fin p e below G (T3.setTop (mkF m 8 #[.val (.ref ad0), .val (.long (0 : Int64)), .second, .val (.ref wl), .unset, .unset, .unset] [(.ref wl)]))
  refine own_to (fun _ kz => own_alen X3 hx hZ e3 V_wl (z := (Int32.ofNat n)) rfl (g := (mkF m 8 #[.val (.ref ad0), .val (.long (0 : Int64)), .second, .val (.ref wl), .unset, .unset, .unset] [(.ref wl)])) rfl rfl (hb hby d4_8) kz) ?_
  show own_Fin p e below G (T3.setTop (mkF m 9 #[.val (.ref ad0), .val (.long (0 : Int64)), .second, .val (.ref wl), .unset, .unset, .unset] [(.int (Int32.ofNat n))]))
  refine own_to (fun _ kz => XS.istore X3.here hx rfl (hb hby d4_9) rfl (l' := #[.val (.ref ad0), .val (.long (0 : Int64)), .second, .val (.ref wl), .val (.int (Int32.ofNat n)), .unset, .unset]) rfl kz) ?_
  show own_Fin p e below G (T3.setTop (mkF m 11 #[.val (.ref ad0), .val (.long (0 : Int64)), .second, .val (.ref wl), .val (.int (Int32.ofNat n)), .unset, .unset] []))
  refine own_to (fun _ kz => XS.iconst X3.here hx rfl (hb hby d4_11) kz) ?_
  show own_Fin p e below G (T3.setTop (mkF m 12 #[.val (.ref ad0), .val (.long (0 : Int64)), .second, .val (.ref wl), .val (.int (Int32.ofNat n)), .unset, .unset] [(.int (0 : Int32))]))
  refine own_to (fun _ kz => XS.istore X3.here hx rfl (hb hby d4_12) rfl (l' := #[.val (.ref ad0), .val (.long (0 : Int64)), .second, .val (.ref wl), .val (.int (Int32.ofNat n)), .val (.int (0 : Int32)), .unset]) rfl kz) ?_
  show own_Fin p e below G (T3.setTop (mkF m 14 #[.val (.ref ad0), .val (.long (0 : Int64)), .second, .val (.ref wl), .val (.int (Int32.ofNat n)), .val (.int (0 : Int32)), .unset] []))
  have K14 : ∀ (k_14 : Nat) (i : Int32) (S : Int64) (s6 : Slot) (T_j14 : State) (locs_j14 : List Loc) (N_j14 : Fr n0 locs_j14) (X_j14 : Stand p l e ({ frames := 0, cells := 0, slots := 0, locals := 0 } : Room) s m #[(.ref ad0)] below meth c T_j14 locs_j14 0 0) (e_j14 : T_j14.heap = h0) (hm_14 : n - i.toNatClampNeg = k_14) (hi : 0 ≤ i.toInt ∧ i.toInt ≤ n) (hS : S = own_sumI xs i.toNatClampNeg) (hs6 : One s6), own_Fin p e below G (T_j14.setTop (mkF m 14 #[.val (.ref ad0), .val (.long S), .second, .val (.ref wl), .val (.int (Int32.ofNat n)), .val (.int i), s6] [])) := by
    intro k_14
    induction k_14 using Nat.strongRecOn with
    | _ k_14 ih_14 =>
      intro i S s6 T_j14 locs_j14 N_j14 X_j14 e_j14 hm_14 hi hS hs6
      refine own_to (fun _ kz => XS.iload X_j14.here hx rfl (hb hby d4_14) rfl  kz) ?_
      show own_Fin p e below G (T_j14.setTop (mkF m 16 #[.val (.ref ad0), .val (.long S), .second, .val (.ref wl), .val (.int (Int32.ofNat n)), .val (.int i), s6] [(.int i)]))
      refine own_to (fun _ kz => XS.iload X_j14.here hx rfl (hb hby d4_16) rfl  kz) ?_
      show own_Fin p e below G (T_j14.setTop (mkF m 18 #[.val (.ref ad0), .val (.long S), .second, .val (.ref wl), .val (.int (Int32.ofNat n)), .val (.int i), s6] [(.int (Int32.ofNat n)), (.int i)]))
      by_cases hc18 : i < (Int32.ofNat n)
      · refine own_to (fun _ kz => XS.icmpNo X_j14.here hx rfl (hb hby d4_18) rfl (tlt hc18).2.1 kz) ?_
        show own_Fin p e below G (T_j14.setTop (mkF m 21 #[.val (.ref ad0), .val (.long S), .second, .val (.ref wl), .val (.int (Int32.ofNat n)), .val (.int i), s6] []))
        refine own_to (fun _ kz => XS.aloadN X_j14.here hx rfl (hb hby d4_21) rfl (rfl)  kz) ?_
        show own_Fin p e below G (T_j14.setTop (mkF m 22 #[.val (.ref ad0), .val (.long S), .second, .val (.ref wl), .val (.int (Int32.ofNat n)), .val (.int i), s6] [(.ref wl)]))
        refine own_to (fun _ kz => XS.iload X_j14.here hx rfl (hb hby d4_22) rfl  kz) ?_
        show own_Fin p e below G (T_j14.setTop (mkF m 24 #[.val (.ref ad0), .val (.long S), .second, .val (.ref wl), .val (.int (Int32.ofNat n)), .val (.int i), s6] [(.int i), (.ref wl)]))
        refine own_to (fun _ kz => own_iaload X_j14 hx hZ e_j14 V_wl (j := i) (own_up V_wl.1 hi hc18).2.1.1 rfl (own_up V_wl.1 hi hc18).2.1.2 (g := (mkF m 24 #[.val (.ref ad0), .val (.long S), .second, .val (.ref wl), .val (.int (Int32.ofNat n)), .val (.int i), s6] [(.int i), (.ref wl)])) rfl rfl (hb hby d4_24) kz) ?_
        show own_Fin p e below G (T_j14.setTop (mkF m 25 #[.val (.ref ad0), .val (.long S), .second, .val (.ref wl), .val (.int (Int32.ofNat n)), .val (.int i), s6] [(.int (xs i.toNatClampNeg))]))
        refine own_to (fun _ kz => XS.istore X_j14.here hx rfl (hb hby d4_25) rfl (l' := #[.val (.ref ad0), .val (.long S), .second, .val (.ref wl), .val (.int (Int32.ofNat n)), .val (.int i), .val (.int (xs i.toNatClampNeg))]) (XS.store1 rfl hs6 rfl) kz) ?_
        show own_Fin p e below G (T_j14.setTop (mkF m 27 #[.val (.ref ad0), .val (.long S), .second, .val (.ref wl), .val (.int (Int32.ofNat n)), .val (.int i), .val (.int (xs i.toNatClampNeg))] []))
        refine own_to (fun _ kz => XS.lloadN X_j14.here hx rfl (hb hby d4_27) rfl  kz) ?_
        show own_Fin p e below G (T_j14.setTop (mkF m 28 #[.val (.ref ad0), .val (.long S), .second, .val (.ref wl), .val (.int (Int32.ofNat n)), .val (.int i), .val (.int (xs i.toNatClampNeg))] [(.long S)]))
        refine own_to (fun _ kz => XS.iload X_j14.here hx rfl (hb hby d4_28) rfl  kz) ?_
        show own_Fin p e below G (T_j14.setTop (mkF m 30 #[.val (.ref ad0), .val (.long S), .second, .val (.ref wl), .val (.int (Int32.ofNat n)), .val (.int i), .val (.int (xs i.toNatClampNeg))] [(.int (xs i.toNatClampNeg)), (.long S)]))
        refine own_to (fun _ kz => XS.i2l X_j14.here hx rfl (hb hby d4_30) rfl kz) ?_
        show own_Fin p e below G (T_j14.setTop (mkF m 31 #[.val (.ref ad0), .val (.long S), .second, .val (.ref wl), .val (.int (Int32.ofNat n)), .val (.int i), .val (.int (xs i.toNatClampNeg))] [(.long ((xs i.toNatClampNeg).toInt64)), (.long S)]))
        refine own_to (fun _ kz => XS.ladd X_j14.here hx rfl (hb hby d4_31) rfl kz) ?_
        show own_Fin p e below G (T_j14.setTop (mkF m 32 #[.val (.ref ad0), .val (.long S), .second, .val (.ref wl), .val (.int (Int32.ofNat n)), .val (.int i), .val (.int (xs i.toNatClampNeg))] [(.long (S + ((xs i.toNatClampNeg).toInt64)))]))
        refine own_to (fun _ kz => XS.lstoreN X_j14.here hx rfl (hb hby d4_32) rfl (l' := #[.val (.ref ad0), .val (.long (S + ((xs i.toNatClampNeg).toInt64))), .second, .val (.ref wl), .val (.int (Int32.ofNat n)), .val (.int i), .val (.int (xs i.toNatClampNeg))]) rfl kz) ?_
        show own_Fin p e below G (T_j14.setTop (mkF m 33 #[.val (.ref ad0), .val (.long (S + ((xs i.toNatClampNeg).toInt64))), .second, .val (.ref wl), .val (.int (Int32.ofNat n)), .val (.int i), .val (.int (xs i.toNatClampNeg))] []))
        refine own_to (fun _ kz => XS.iinc X_j14.here hx rfl (hb hby d4_33) rfl (l' := #[.val (.ref ad0), .val (.long (S + ((xs i.toNatClampNeg).toInt64))), .second, .val (.ref wl), .val (.int (Int32.ofNat n)), .val (.int (i + (1 : Int32))), .val (.int (xs i.toNatClampNeg))]) rfl kz) ?_
        show own_Fin p e below G (T_j14.setTop (mkF m 36 #[.val (.ref ad0), .val (.long (S + ((xs i.toNatClampNeg).toInt64))), .second, .val (.ref wl), .val (.int (Int32.ofNat n)), .val (.int (i + (1 : Int32))), .val (.int (xs i.toNatClampNeg))] []))
        refine own_to (fun _ kz => XS.goto X_j14.here hx rfl (pc0 := 36) (pc' := 14) rfl (hb hby d4_36) (by decide) (by decide) kz) ?_
        show own_Fin p e below G (T_j14.setTop (mkF m 14 #[.val (.ref ad0), .val (.long (S + ((xs i.toNatClampNeg).toInt64))), .second, .val (.ref wl), .val (.int (Int32.ofNat n)), .val (.int (i + (1 : Int32))), .val (.int (xs i.toNatClampNeg))] []))
        exact ih_14 _ (own_dec V_wl.1 hi hc18 hm_14) (i + (1 : Int32)) (S + ((xs i.toNatClampNeg).toInt64)) (.val (.int (xs i.toNatClampNeg))) _ _ N_j14 X_j14 e_j14 rfl (own_up V_wl.1 hi hc18).1 (by rw [(own_up V_wl.1 hi hc18).2.2, hS]; rfl) (One.val rfl)
      · refine own_to (fun _ kz => XS.icmpYes X_j14.here hx rfl (pc0 := 18) (pc' := 39) rfl (hb hby d4_18) rfl (flt hc18).2.1 (by decide) (by decide) kz) ?_
        show own_Fin p e below G (T_j14.setTop (mkF m 39 #[.val (.ref ad0), .val (.long S), .second, .val (.ref wl), .val (.int (Int32.ofNat n)), .val (.int i), s6] []))
        refine own_to (fun _ kz => XS.lloadN X_j14.here hx rfl (hb hby d4_39) rfl  kz) ?_
        show own_Fin p e below G (T_j14.setTop (mkF m 40 #[.val (.ref ad0), .val (.long S), .second, .val (.ref wl), .val (.int (Int32.ofNat n)), .val (.int i), s6] [(.long S)]))
        exact own_retJ X_j14 hx hlk hG Bd.returns (hb hby d4_40) (by decide) (by decide) ⟨(by rw [hS, own_last V_wl.1 hi hc18]), N_j14, e_j14⟩
  exact K14 _ (0 : Int32) (0 : Int64) .unset _ _ N0 X3 e3 rfl ⟨by decide, Int.natCast_nonneg n⟩ rfl One.u
theorem own_pd0 : parseMethodDescriptor "(I)I" = some ⟨[.int], some .int⟩ := by decide +kernel
theorem own_pd1 : parseMethodDescriptor "([I)V" = some ⟨[(.array .int)], none⟩ := by decide +kernel
theorem own_pd2 : parseMethodDescriptor "()J" = some ⟨[], some .long⟩ := by decide +kernel
theorem ef0 (m : MethodId) (p0 : Int32) (p1 : Int32) (p2 : Int32) (p3 : Int32) (p4 : Int32) : entryFrame m #[(.int p0), (.int p1), (.int p2), (.int p3), (.int p4)] maxLocals = mkF m 0 #[.val (.int p0), .val (.int p1), .val (.int p2), .val (.int p3), .val (.int p4), .unset, .unset, .unset, .unset, .unset, .unset, .unset, .unset, .unset] [] := by first | (simp [entryFrame, mkF, argsToLocals, Value.category, maxLocals]; done) | rfl
def Q0 (Z : State) (p0 : Int32) (p1 : Int32) (p2 : Int32) (p3 : Int32) (p4 : Int32) (h0 : Heap) (n0 : Nat) (v : Option Value) (h : Heap) (L : List Loc) : Prop := v = some (.int 1) ∧ Fr n0 L ∧ True
set_option maxRecDepth 65536 in
set_option maxHeartbeats 40000000 in
theorem rm0 (l : Launch) (Z : State) (a0 : Array Value) (hw : ∀ d ∈ tables_1, d.before a0 Z = true) (ws : List Jvm.Cond) (p0 : Int32) (p1 : Int32) (p2 : Int32) (p3 : Int32) (p4 : Int32) (h0 : Heap) (n0 : Nat) (Z0 : n0 ≤ h0.size) :
    MetFree l x (head1 (Jvm.Cond.code x code maxLocals ret :: ws) room_1) (fun a U => a = #[(.int p0), (.int p1), (.int p2), (.int p3), (.int p4)] ∧ Z.Warmed39 U.vm ∧ U.heap = h0) (fun _ _ _ _ _ => True) (fun _ U o U' => ∃ v L, o = .returned v ∧ Q0 Z p0 p1 p2 p3 p4 h0 n0 v U'.heap L ∧ FrameEnd U o U' L room_1.cells room_1.slots) := by
  refine MetFree.of_bodySF (plainFor_of_name own_pn0) hisR ?_
  intro p e s m args below meth c s₁ Bd hml0 hP hK
  obtain ⟨rfl, hZ, hh⟩ := hP
  have hx := Bd.exec
  have hby := Bd.bytes
  have hml : c.maxLocals = 14 := hml0
  have hown : s.vm.findClass "wavegauge/model/CapacitiesTotalPinLaw" = some m.cls := findClass_of_methodNamed Bd.named
  have hnm := (name_of_methodNamed Bd.named Bd.method).1
  have hlk : meth.locks = false := BodyLoose.notSynchronized Bd
  have X0 : Stand p l e room_1 s m #[(.int p0), (.int p1), (.int p2), (.int p3), (.int p4)] below meth c s₁ [] 0 0 := Stand.of_body Bd
  have e0 : s₁.heap = h0 := by rw [← hh, Bd.state]; rfl
  have N0 := Fr.nil n0
  obtain ⟨G, hG⟩ : ∃ G, G = own_G s (Q0 Z p0 p1 p2 p3 p4 h0 n0) room_1.cells room_1.slots := ⟨_, rfl⟩
  show own_Fin p e below (own_G s (Q0 Z p0 p1 p2 p3 p4 h0 n0) room_1.cells room_1.slots) (s₁.setTop (entryFrame m #[(.int p0), (.int p1), (.int p2), (.int p3), (.int p4)] maxLocals))
  rw [← hG]
  refine own_to (fun _ kz => castTop (ef0 m p0 p1 p2 p3 p4) kz) ?_
  show own_Fin p e below G (s₁.setTop (mkF m 0 #[.val (.int p0), .val (.int p1), .val (.int p2), .val (.int p3), .val (.int p4), .unset, .unset, .unset, .unset, .unset, .unset, .unset, .unset, .unset] []))
  refine own_to (fun _ kz => XS.iloadN X0.here hx rfl (hb hby at_0) rfl  kz) ?_
  show own_Fin p e below G (s₁.setTop (mkF m 1 #[.val (.int p0), .val (.int p1), .val (.int p2), .val (.int p3), .val (.int p4), .unset, .unset, .unset, .unset, .unset, .unset, .unset, .unset, .unset] [(.int p0)]))
  refine own_to (fun _ kz => X0.ldcInt hx hown (mvT hZ (hw _ (List.mem_of_getElem? (i := 0) rfl))) (g := (mkF m 1 #[.val (.int p0), .val (.int p1), .val (.int p2), .val (.int p3), .val (.int p4), .unset, .unset, .unset, .unset, .unset, .unset, .unset, .unset, .unset] [(.int p0)])) rfl (hb hby at_1) _ kz) ?_
  show own_Fin p e below G (s₁.setTop (mkF m 3 #[.val (.int p0), .val (.int p1), .val (.int p2), .val (.int p3), .val (.int p4), .unset, .unset, .unset, .unset, .unset, .unset, .unset, .unset, .unset] [(.int (2147483647 : Int32)), (.int p0)]))
  refine own_to (fun _ kz => XS.iand X0.here hx rfl (hb hby at_3) rfl kz) ?_
  show own_Fin p e below G (s₁.setTop (mkF m 4 #[.val (.int p0), .val (.int p1), .val (.int p2), .val (.int p3), .val (.int p4), .unset, .unset, .unset, .unset, .unset, .unset, .unset, .unset, .unset] [(.int (p0 &&& (2147483647 : Int32)))]))
  refine own_to (fun _ kz => XS.iconst X0.here hx rfl (hb hby at_4) kz) ?_
  show own_Fin p e below G (s₁.setTop (mkF m 5 #[.val (.int p0), .val (.int p1), .val (.int p2), .val (.int p3), .val (.int p4), .unset, .unset, .unset, .unset, .unset, .unset, .unset, .unset, .unset] [(.int (5 : Int32)), (.int (p0 &&& (2147483647 : Int32)))]))
  refine own_to (fun _ kz => iremM X0 hx rfl (hb hby at_5) rfl (by decide) kz) ?_
  show own_Fin p e below G (s₁.setTop (mkF m 6 #[.val (.int p0), .val (.int p1), .val (.int p2), .val (.int p3), .val (.int p4), .unset, .unset, .unset, .unset, .unset, .unset, .unset, .unset, .unset] [(.int ((p0 &&& (2147483647 : Int32)) % (5 : Int32)))]))
  refine own_to (fun _ kz => XS.istore X0.here hx rfl (hb hby at_6) rfl (l' := #[.val (.int p0), .val (.int p1), .val (.int p2), .val (.int p3), .val (.int p4), .val (.int ((p0 &&& (2147483647 : Int32)) % (5 : Int32))), .unset, .unset, .unset, .unset, .unset, .unset, .unset, .unset]) rfl kz) ?_
  show own_Fin p e below G (s₁.setTop (mkF m 8 #[.val (.int p0), .val (.int p1), .val (.int p2), .val (.int p3), .val (.int p4), .val (.int ((p0 &&& (2147483647 : Int32)) % (5 : Int32))), .unset, .unset, .unset, .unset, .unset, .unset, .unset, .unset] []))
  refine own_to (fun _ kz => XS.iloadN X0.here hx rfl (hb hby at_8) rfl  kz) ?_
  show own_Fin p e below G (s₁.setTop (mkF m 9 #[.val (.int p0), .val (.int p1), .val (.int p2), .val (.int p3), .val (.int p4), .val (.int ((p0 &&& (2147483647 : Int32)) % (5 : Int32))), .unset, .unset, .unset, .unset, .unset, .unset, .unset, .unset] [(.int p1)]))
  obtain ⟨_, _, ⟨T9, L9, k9, n9⟩, -, X9, ⟨Lc9, hQ9, l9, y9, z9⟩, st9⟩ := Jvm.LawKit.callS X0 hx (y := (⟨"wavegauge/model/CapacitiesTotalPinLaw", "count", "(I)I"⟩ : MethodName)) hown (mvT hZ (hw _ (List.mem_of_getElem? (i := 1) rfl))) (mvT hZ (hw _ (List.mem_of_getElem? (i := 2) rfl))) (mvT hZ (hw _ (List.mem_of_getElem? (i := 3) rfl))) (mvT hZ (hw _ (List.mem_of_getElem? (i := 4) rfl))) (by decide) (backOf (W := 0) (rm1 l Z a0 hw [] p1 h0 n0 Z0) hZ (hw _ (List.mem_of_getElem? (i := 4) rfl)) (hw _ (List.mem_of_getElem? (i := 3) rfl)) (by decide) (by decide)) (g := (mkF m 9 #[.val (.int p0), .val (.int p1), .val (.int p2), .val (.int p3), .val (.int p4), .val (.int ((p0 &&& (2147483647 : Int32)) % (5 : Int32))), .unset, .unset, .unset, .unset, .unset, .unset, .unset, .unset] [(.int p1)])) rfl (by rw [hml]; rfl) (argsL := [(.int p1)]) (rest := []) (lenOf own_pd0 rfl) rfl (by show 2 * 0 + _ ≤ _; exact Nat.le_of_eq rfl) (hb hby at_9) (fun _ _ => ⟨rfl, e0, (by decide : 0 + 0 ≤ _), (by decide : 0 + 0 ≤ _)⟩)
  dsimp only [Pt.U, Pt.locs, Pt.cells, Pt.slots] at X9 l9 y9 z9 st9 hQ9
  subst l9 y9 z9
  obtain ⟨rfl, N9q, e9⟩ := hQ9
  have N9 := Fr.app N0 N9q
  refine own_to st9 ?_
  show own_Fin p e below G (T9.setTop (mkF m 12 #[.val (.int p0), .val (.int p1), .val (.int p2), .val (.int p3), .val (.int p4), .val (.int ((p0 &&& (2147483647 : Int32)) % (5 : Int32))), .unset, .unset, .unset, .unset, .unset, .unset, .unset, .unset] [(.int (f1 p1))]))
  refine own_to (fun _ kz => XS.istore X9.here hx rfl (hb hby at_12) rfl (l' := #[.val (.int p0), .val (.int p1), .val (.int p2), .val (.int p3), .val (.int p4), .val (.int ((p0 &&& (2147483647 : Int32)) % (5 : Int32))), .val (.int (f1 p1)), .unset, .unset, .unset, .unset, .unset, .unset, .unset]) rfl kz) ?_
  show own_Fin p e below G (T9.setTop (mkF m 14 #[.val (.int p0), .val (.int p1), .val (.int p2), .val (.int p3), .val (.int p4), .val (.int ((p0 &&& (2147483647 : Int32)) % (5 : Int32))), .val (.int (f1 p1)), .unset, .unset, .unset, .unset, .unset, .unset, .unset] []))
  refine own_to (fun _ kz => XS.iloadN X9.here hx rfl (hb hby at_14) rfl  kz) ?_
  show own_Fin p e below G (T9.setTop (mkF m 15 #[.val (.int p0), .val (.int p1), .val (.int p2), .val (.int p3), .val (.int p4), .val (.int ((p0 &&& (2147483647 : Int32)) % (5 : Int32))), .val (.int (f1 p1)), .unset, .unset, .unset, .unset, .unset, .unset, .unset] [(.int p2)]))
  obtain ⟨_, _, ⟨T15, L15, k15, n15⟩, -, X15, ⟨Lc15, hQ15, l15, y15, z15⟩, st15⟩ := Jvm.LawKit.callS X9 hx (y := (⟨"wavegauge/model/CapacitiesTotalPinLaw", "count", "(I)I"⟩ : MethodName)) hown (mvT hZ (hw _ (List.mem_of_getElem? (i := 1) rfl))) (mvT hZ (hw _ (List.mem_of_getElem? (i := 2) rfl))) (mvT hZ (hw _ (List.mem_of_getElem? (i := 3) rfl))) (mvT hZ (hw _ (List.mem_of_getElem? (i := 4) rfl))) (by decide) (backOf (W := 0) (rm1 l Z a0 hw [] p2 h0 n0 Z0) hZ (hw _ (List.mem_of_getElem? (i := 4) rfl)) (hw _ (List.mem_of_getElem? (i := 3) rfl)) (by decide) (by decide)) (g := (mkF m 15 #[.val (.int p0), .val (.int p1), .val (.int p2), .val (.int p3), .val (.int p4), .val (.int ((p0 &&& (2147483647 : Int32)) % (5 : Int32))), .val (.int (f1 p1)), .unset, .unset, .unset, .unset, .unset, .unset, .unset] [(.int p2)])) rfl (by rw [hml]; rfl) (argsL := [(.int p2)]) (rest := []) (lenOf own_pd0 rfl) rfl (by show 2 * 0 + _ ≤ _; exact Nat.le_of_eq rfl) (hb hby at_15) (fun _ _ => ⟨rfl, e9, (by decide : 0 + 0 ≤ _), (by decide : 0 + 0 ≤ _)⟩)
  dsimp only [Pt.U, Pt.locs, Pt.cells, Pt.slots] at X15 l15 y15 z15 st15 hQ15
  subst l15 y15 z15
  obtain ⟨rfl, N15q, e15⟩ := hQ15
  have N15 := Fr.app N9 N15q
  refine own_to st15 ?_
  show own_Fin p e below G (T15.setTop (mkF m 18 #[.val (.int p0), .val (.int p1), .val (.int p2), .val (.int p3), .val (.int p4), .val (.int ((p0 &&& (2147483647 : Int32)) % (5 : Int32))), .val (.int (f1 p1)), .unset, .unset, .unset, .unset, .unset, .unset, .unset] [(.int (f1 p2))]))
  refine own_to (fun _ kz => XS.istore X15.here hx rfl (hb hby at_18) rfl (l' := #[.val (.int p0), .val (.int p1), .val (.int p2), .val (.int p3), .val (.int p4), .val (.int ((p0 &&& (2147483647 : Int32)) % (5 : Int32))), .val (.int (f1 p1)), .val (.int (f1 p2)), .unset, .unset, .unset, .unset, .unset, .unset]) rfl kz) ?_
  show own_Fin p e below G (T15.setTop (mkF m 20 #[.val (.int p0), .val (.int p1), .val (.int p2), .val (.int p3), .val (.int p4), .val (.int ((p0 &&& (2147483647 : Int32)) % (5 : Int32))), .val (.int (f1 p1)), .val (.int (f1 p2)), .unset, .unset, .unset, .unset, .unset, .unset] []))
  refine own_to (fun _ kz => XS.iloadN X15.here hx rfl (hb hby at_20) rfl  kz) ?_
  show own_Fin p e below G (T15.setTop (mkF m 21 #[.val (.int p0), .val (.int p1), .val (.int p2), .val (.int p3), .val (.int p4), .val (.int ((p0 &&& (2147483647 : Int32)) % (5 : Int32))), .val (.int (f1 p1)), .val (.int (f1 p2)), .unset, .unset, .unset, .unset, .unset, .unset] [(.int p3)]))
  obtain ⟨_, _, ⟨T21, L21, k21, n21⟩, -, X21, ⟨Lc21, hQ21, l21, y21, z21⟩, st21⟩ := Jvm.LawKit.callS X15 hx (y := (⟨"wavegauge/model/CapacitiesTotalPinLaw", "count", "(I)I"⟩ : MethodName)) hown (mvT hZ (hw _ (List.mem_of_getElem? (i := 1) rfl))) (mvT hZ (hw _ (List.mem_of_getElem? (i := 2) rfl))) (mvT hZ (hw _ (List.mem_of_getElem? (i := 3) rfl))) (mvT hZ (hw _ (List.mem_of_getElem? (i := 4) rfl))) (by decide) (backOf (W := 0) (rm1 l Z a0 hw [] p3 h0 n0 Z0) hZ (hw _ (List.mem_of_getElem? (i := 4) rfl)) (hw _ (List.mem_of_getElem? (i := 3) rfl)) (by decide) (by decide)) (g := (mkF m 21 #[.val (.int p0), .val (.int p1), .val (.int p2), .val (.int p3), .val (.int p4), .val (.int ((p0 &&& (2147483647 : Int32)) % (5 : Int32))), .val (.int (f1 p1)), .val (.int (f1 p2)), .unset, .unset, .unset, .unset, .unset, .unset] [(.int p3)])) rfl (by rw [hml]; rfl) (argsL := [(.int p3)]) (rest := []) (lenOf own_pd0 rfl) rfl (by show 2 * 0 + _ ≤ _; exact Nat.le_of_eq rfl) (hb hby at_21) (fun _ _ => ⟨rfl, e15, (by decide : 0 + 0 ≤ _), (by decide : 0 + 0 ≤ _)⟩)
  dsimp only [Pt.U, Pt.locs, Pt.cells, Pt.slots] at X21 l21 y21 z21 st21 hQ21
  subst l21 y21 z21
  obtain ⟨rfl, N21q, e21⟩ := hQ21
  have N21 := Fr.app N15 N21q
  refine own_to st21 ?_
  show own_Fin p e below G (T21.setTop (mkF m 24 #[.val (.int p0), .val (.int p1), .val (.int p2), .val (.int p3), .val (.int p4), .val (.int ((p0 &&& (2147483647 : Int32)) % (5 : Int32))), .val (.int (f1 p1)), .val (.int (f1 p2)), .unset, .unset, .unset, .unset, .unset, .unset] [(.int (f1 p3))]))
  refine own_to (fun _ kz => XS.istore X21.here hx rfl (hb hby at_24) rfl (l' := #[.val (.int p0), .val (.int p1), .val (.int p2), .val (.int p3), .val (.int p4), .val (.int ((p0 &&& (2147483647 : Int32)) % (5 : Int32))), .val (.int (f1 p1)), .val (.int (f1 p2)), .val (.int (f1 p3)), .unset, .unset, .unset, .unset, .unset]) rfl kz) ?_
  show own_Fin p e below G (T21.setTop (mkF m 26 #[.val (.int p0), .val (.int p1), .val (.int p2), .val (.int p3), .val (.int p4), .val (.int ((p0 &&& (2147483647 : Int32)) % (5 : Int32))), .val (.int (f1 p1)), .val (.int (f1 p2)), .val (.int (f1 p3)), .unset, .unset, .unset, .unset, .unset] []))
  refine own_to (fun _ kz => XS.iload X21.here hx rfl (hb hby at_26) rfl  kz) ?_
  show own_Fin p e below G (T21.setTop (mkF m 28 #[.val (.int p0), .val (.int p1), .val (.int p2), .val (.int p3), .val (.int p4), .val (.int ((p0 &&& (2147483647 : Int32)) % (5 : Int32))), .val (.int (f1 p1)), .val (.int (f1 p2)), .val (.int (f1 p3)), .unset, .unset, .unset, .unset, .unset] [(.int p4)]))
  obtain ⟨_, _, ⟨T28, L28, k28, n28⟩, -, X28, ⟨Lc28, hQ28, l28, y28, z28⟩, st28⟩ := Jvm.LawKit.callS X21 hx (y := (⟨"wavegauge/model/CapacitiesTotalPinLaw", "count", "(I)I"⟩ : MethodName)) hown (mvT hZ (hw _ (List.mem_of_getElem? (i := 1) rfl))) (mvT hZ (hw _ (List.mem_of_getElem? (i := 2) rfl))) (mvT hZ (hw _ (List.mem_of_getElem? (i := 3) rfl))) (mvT hZ (hw _ (List.mem_of_getElem? (i := 4) rfl))) (by decide) (backOf (W := 0) (rm1 l Z a0 hw [] p4 h0 n0 Z0) hZ (hw _ (List.mem_of_getElem? (i := 4) rfl)) (hw _ (List.mem_of_getElem? (i := 3) rfl)) (by decide) (by decide)) (g := (mkF m 28 #[.val (.int p0), .val (.int p1), .val (.int p2), .val (.int p3), .val (.int p4), .val (.int ((p0 &&& (2147483647 : Int32)) % (5 : Int32))), .val (.int (f1 p1)), .val (.int (f1 p2)), .val (.int (f1 p3)), .unset, .unset, .unset, .unset, .unset] [(.int p4)])) rfl (by rw [hml]; rfl) (argsL := [(.int p4)]) (rest := []) (lenOf own_pd0 rfl) rfl (by show 2 * 0 + _ ≤ _; exact Nat.le_of_eq rfl) (hb hby at_28) (fun _ _ => ⟨rfl, e21, (by decide : 0 + 0 ≤ _), (by decide : 0 + 0 ≤ _)⟩)
  dsimp only [Pt.U, Pt.locs, Pt.cells, Pt.slots] at X28 l28 y28 z28 st28 hQ28
  subst l28 y28 z28
  obtain ⟨rfl, N28q, e28⟩ := hQ28
  have N28 := Fr.app N21 N28q
  refine own_to st28 ?_
  show own_Fin p e below G (T28.setTop (mkF m 31 #[.val (.int p0), .val (.int p1), .val (.int p2), .val (.int p3), .val (.int p4), .val (.int ((p0 &&& (2147483647 : Int32)) % (5 : Int32))), .val (.int (f1 p1)), .val (.int (f1 p2)), .val (.int (f1 p3)), .unset, .unset, .unset, .unset, .unset] [(.int (f1 p4))]))
  refine own_to (fun _ kz => XS.istore X28.here hx rfl (hb hby at_31) rfl (l' := #[.val (.int p0), .val (.int p1), .val (.int p2), .val (.int p3), .val (.int p4), .val (.int ((p0 &&& (2147483647 : Int32)) % (5 : Int32))), .val (.int (f1 p1)), .val (.int (f1 p2)), .val (.int (f1 p3)), .val (.int (f1 p4)), .unset, .unset, .unset, .unset]) rfl kz) ?_
  show own_Fin p e below G (T28.setTop (mkF m 33 #[.val (.int p0), .val (.int p1), .val (.int p2), .val (.int p3), .val (.int p4), .val (.int ((p0 &&& (2147483647 : Int32)) % (5 : Int32))), .val (.int (f1 p1)), .val (.int (f1 p2)), .val (.int (f1 p3)), .val (.int (f1 p4)), .unset, .unset, .unset, .unset] []))
  have K33 : ∀ (v5_33 : Int32) (jh0_33 : 0 ≤ v5_33.toInt ∧ v5_33.toInt ≤ 4), own_Fin p e below G (T28.setTop (mkF m 33 #[.val (.int p0), .val (.int p1), .val (.int p2), .val (.int p3), .val (.int p4), .val (.int v5_33), .val (.int (f1 p1)), .val (.int (f1 p2)), .val (.int (f1 p3)), .val (.int (f1 p4)), .unset, .unset, .unset, .unset] [])) := by
    intro v5_33 jh0_33
    rcases own_5 jh0_33 with rfl | rfl | rfl | rfl | rfl
    · show own_Fin p e below G (T28.setTop (mkF m 33 #[.val (.int p0), .val (.int p1), .val (.int p2), .val (.int p3), .val (.int p4), .val (.int (0 : Int32)), .val (.int (f1 p1)), .val (.int (f1 p2)), .val (.int (f1 p3)), .val (.int (f1 p4)), .unset, .unset, .unset, .unset] []))
      refine own_to (fun _ kz => XS.iload X28.here hx rfl (hb hby at_33) rfl  kz) ?_
      show own_Fin p e below G (T28.setTop (mkF m 35 #[.val (.int p0), .val (.int p1), .val (.int p2), .val (.int p3), .val (.int p4), .val (.int (0 : Int32)), .val (.int (f1 p1)), .val (.int (f1 p2)), .val (.int (f1 p3)), .val (.int (f1 p4)), .unset, .unset, .unset, .unset] [(.int (0 : Int32))]))
      obtain ⟨T35, h35, k35, X35, e35, E35, A35, Xa35, st35⟩ := newPE X28 hx hZ (hw _ (List.mem_of_getElem? (i := 5) rfl)) e28 (g := (mkF m 35 #[.val (.int p0), .val (.int p1), .val (.int p2), .val (.int p3), .val (.int p4), .val (.int (0 : Int32)), .val (.int (f1 p1)), .val (.int (f1 p2)), .val (.int (f1 p3)), .val (.int (f1 p4)), .unset, .unset, .unset, .unset] [(.int (0 : Int32))])) rfl (hb hby at_35) rfl (by decide) (cap := 0) (by decide) (by decide) (by decide) (by decide) (ad := "[I") (by decide)
      obtain ⟨b35, g35⟩ : ∃ z, z = h0.size := ⟨_, rfl⟩
      rw [← g35] at A35 Xa35 st35
      refine own_to st35 ?_
      have g_b35 : n0 ≤ b35 := Nat.le_trans Z0 (Nat.le_of_eq g35.symm)
      have V35 : own_AV Value.int Z h35 b35 .int 0 (fun _ => (0 : Int32)) := own_AV.new A35 (by decide) (by decide) (fun _ => rfl)
      show own_Fin p e below G (T35.setTop (mkF m 37 #[.val (.int p0), .val (.int p1), .val (.int p2), .val (.int p3), .val (.int p4), .val (.int (0 : Int32)), .val (.int (f1 p1)), .val (.int (f1 p2)), .val (.int (f1 p3)), .val (.int (f1 p4)), .unset, .unset, .unset, .unset] [(.ref b35)]))
      refine own_to (fun _ kz => XS.astore X35.here hx rfl (hb hby at_37) rfl (rfl) (l' := #[.val (.int p0), .val (.int p1), .val (.int p2), .val (.int p3), .val (.int p4), .val (.int (0 : Int32)), .val (.int (f1 p1)), .val (.int (f1 p2)), .val (.int (f1 p3)), .val (.int (f1 p4)), .val (.ref b35), .unset, .unset, .unset]) rfl kz) ?_
      show own_Fin p e below G (T35.setTop (mkF m 39 #[.val (.int p0), .val (.int p1), .val (.int p2), .val (.int p3), .val (.int p4), .val (.int (0 : Int32)), .val (.int (f1 p1)), .val (.int (f1 p2)), .val (.int (f1 p3)), .val (.int (f1 p4)), .val (.ref b35), .unset, .unset, .unset] []))
      refine own_to (fun _ kz => XS.iload X35.here hx rfl (hb hby at_39) rfl  kz) ?_
      show own_Fin p e below G (T35.setTop (mkF m 41 #[.val (.int p0), .val (.int p1), .val (.int p2), .val (.int p3), .val (.int p4), .val (.int (0 : Int32)), .val (.int (f1 p1)), .val (.int (f1 p2)), .val (.int (f1 p3)), .val (.int (f1 p4)), .val (.ref b35), .unset, .unset, .unset] [(.int (0 : Int32))]))
      have hc41 : ¬ ((0 : Int32) < (0 : Int32)) := by decide
      refine own_to (fun _ kz => XS.ifYes X35.here hx rfl (pc0 := 41) (pc' := 50) rfl (hb hby at_41) rfl ((if0 _ _).trans (flt hc41).2.2.2) (by decide) (by decide) kz) ?_
      show own_Fin p e below G (T35.setTop (mkF m 50 #[.val (.int p0), .val (.int p1), .val (.int p2), .val (.int p3), .val (.int p4), .val (.int (0 : Int32)), .val (.int (f1 p1)), .val (.int (f1 p2)), .val (.int (f1 p3)), .val (.int (f1 p4)), .val (.ref b35), .unset, .unset, .unset] []))
      refine own_to (fun _ kz => XS.iload X35.here hx rfl (hb hby at_50) rfl  kz) ?_
      show own_Fin p e below G (T35.setTop (mkF m 52 #[.val (.int p0), .val (.int p1), .val (.int p2), .val (.int p3), .val (.int p4), .val (.int (0 : Int32)), .val (.int (f1 p1)), .val (.int (f1 p2)), .val (.int (f1 p3)), .val (.int (f1 p4)), .val (.ref b35), .unset, .unset, .unset] [(.int (0 : Int32))]))
      refine own_to (fun _ kz => XS.iconst X35.here hx rfl (hb hby at_52) kz) ?_
      show own_Fin p e below G (T35.setTop (mkF m 53 #[.val (.int p0), .val (.int p1), .val (.int p2), .val (.int p3), .val (.int p4), .val (.int (0 : Int32)), .val (.int (f1 p1)), .val (.int (f1 p2)), .val (.int (f1 p3)), .val (.int (f1 p4)), .val (.ref b35), .unset, .unset, .unset] [(.int (1 : Int32)), (.int (0 : Int32))]))
      have hc53 : ¬ ((1 : Int32) < (0 : Int32)) := by decide
      refine own_to (fun _ kz => XS.icmpYes X35.here hx rfl (pc0 := 53) (pc' := 62) rfl (hb hby at_53) rfl (flt hc53).2.2.2 (by decide) (by decide) kz) ?_
      show own_Fin p e below G (T35.setTop (mkF m 62 #[.val (.int p0), .val (.int p1), .val (.int p2), .val (.int p3), .val (.int p4), .val (.int (0 : Int32)), .val (.int (f1 p1)), .val (.int (f1 p2)), .val (.int (f1 p3)), .val (.int (f1 p4)), .val (.ref b35), .unset, .unset, .unset] []))
      refine own_to (fun _ kz => XS.iload X35.here hx rfl (hb hby at_62) rfl  kz) ?_
      show own_Fin p e below G (T35.setTop (mkF m 64 #[.val (.int p0), .val (.int p1), .val (.int p2), .val (.int p3), .val (.int p4), .val (.int (0 : Int32)), .val (.int (f1 p1)), .val (.int (f1 p2)), .val (.int (f1 p3)), .val (.int (f1 p4)), .val (.ref b35), .unset, .unset, .unset] [(.int (0 : Int32))]))
      refine own_to (fun _ kz => XS.iconst X35.here hx rfl (hb hby at_64) kz) ?_
      show own_Fin p e below G (T35.setTop (mkF m 65 #[.val (.int p0), .val (.int p1), .val (.int p2), .val (.int p3), .val (.int p4), .val (.int (0 : Int32)), .val (.int (f1 p1)), .val (.int (f1 p2)), .val (.int (f1 p3)), .val (.int (f1 p4)), .val (.ref b35), .unset, .unset, .unset] [(.int (2 : Int32)), (.int (0 : Int32))]))
      have hc65 : ¬ ((2 : Int32) < (0 : Int32)) := by decide
      refine own_to (fun _ kz => XS.icmpYes X35.here hx rfl (pc0 := 65) (pc' := 74) rfl (hb hby at_65) rfl (flt hc65).2.2.2 (by decide) (by decide) kz) ?_
      show own_Fin p e below G (T35.setTop (mkF m 74 #[.val (.int p0), .val (.int p1), .val (.int p2), .val (.int p3), .val (.int p4), .val (.int (0 : Int32)), .val (.int (f1 p1)), .val (.int (f1 p2)), .val (.int (f1 p3)), .val (.int (f1 p4)), .val (.ref b35), .unset, .unset, .unset] []))
      refine own_to (fun _ kz => XS.iload X35.here hx rfl (hb hby at_74) rfl  kz) ?_
      show own_Fin p e below G (T35.setTop (mkF m 76 #[.val (.int p0), .val (.int p1), .val (.int p2), .val (.int p3), .val (.int p4), .val (.int (0 : Int32)), .val (.int (f1 p1)), .val (.int (f1 p2)), .val (.int (f1 p3)), .val (.int (f1 p4)), .val (.ref b35), .unset, .unset, .unset] [(.int (0 : Int32))]))
      refine own_to (fun _ kz => XS.iconst X35.here hx rfl (hb hby at_76) kz) ?_
      show own_Fin p e below G (T35.setTop (mkF m 77 #[.val (.int p0), .val (.int p1), .val (.int p2), .val (.int p3), .val (.int p4), .val (.int (0 : Int32)), .val (.int (f1 p1)), .val (.int (f1 p2)), .val (.int (f1 p3)), .val (.int (f1 p4)), .val (.ref b35), .unset, .unset, .unset] [(.int (3 : Int32)), (.int (0 : Int32))]))
      have hc77 : ¬ ((3 : Int32) < (0 : Int32)) := by decide
      refine own_to (fun _ kz => XS.icmpYes X35.here hx rfl (pc0 := 77) (pc' := 86) rfl (hb hby at_77) rfl (flt hc77).2.2.2 (by decide) (by decide) kz) ?_
      show own_Fin p e below G (T35.setTop (mkF m 86 #[.val (.int p0), .val (.int p1), .val (.int p2), .val (.int p3), .val (.int p4), .val (.int (0 : Int32)), .val (.int (f1 p1)), .val (.int (f1 p2)), .val (.int (f1 p3)), .val (.int (f1 p4)), .val (.ref b35), .unset, .unset, .unset] []))
      have Zz_86_E35 := Nat.le_trans Z0 E35.1
      have Z_86 : n0 ≤ h35.size := Zz_86_E35
      obtain ⟨T86, h86, X86, e86, E86, A86, D86, -, st86⟩ := newO X35 hx hZ hown (hw _ (List.mem_of_getElem? (i := 6) rfl)) (hw _ (List.mem_of_getElem? (i := 7) rfl)) (hw _ (List.mem_of_getElem? (i := 8) rfl)) e35 (g := (mkF m 86 #[.val (.int p0), .val (.int p1), .val (.int p2), .val (.int p3), .val (.int p4), .val (.int (0 : Int32)), .val (.int (f1 p1)), .val (.int (f1 p2)), .val (.int (f1 p3)), .val (.int (f1 p4)), .val (.ref b35), .unset, .unset, .unset] [])) rfl (hb hby at_86) (by decide) (by decide)
      obtain ⟨b86, g86⟩ : ∃ z, z = h35.size := ⟨_, rfl⟩
      rw [← g86] at A86 D86 st86
      refine own_to st86 ?_
      have ne_b35_b86 : b35 ≠ b86 := Nat.ne_of_lt (Nat.lt_of_lt_of_le V35.lt (Nat.le_of_eq g86.symm))
      have g_b86 : n0 ≤ b86 := Nat.le_trans Z_86 (Nat.le_of_eq g86.symm)
      have F_wavelengths_b86 : Fld Z h86 b86 "wavegauge/model/Capacities" "wavelengths" "[I" .null := D86 (Or.inr (hw _ (List.mem_of_getElem? (i := 25) rfl))) (ty := (.array .int)) (by decide)
      show own_Fin p e below G (T86.setTop (mkF m 89 #[.val (.int p0), .val (.int p1), .val (.int p2), .val (.int p3), .val (.int p4), .val (.int (0 : Int32)), .val (.int (f1 p1)), .val (.int (f1 p2)), .val (.int (f1 p3)), .val (.int (f1 p4)), .val (.ref b35), .unset, .unset, .unset] [(.ref b86)]))
      refine own_to (fun _ kz => XS.dup X86.here hx rfl (hb hby at_89) rfl rfl kz) ?_
      show own_Fin p e below G (T86.setTop (mkF m 90 #[.val (.int p0), .val (.int p1), .val (.int p2), .val (.int p3), .val (.int p4), .val (.int (0 : Int32)), .val (.int (f1 p1)), .val (.int (f1 p2)), .val (.int (f1 p3)), .val (.int (f1 p4)), .val (.ref b35), .unset, .unset, .unset] [(.ref b86), (.ref b86)]))
      refine own_to (fun _ kz => XS.aload X86.here hx rfl (hb hby at_90) rfl (rfl)  kz) ?_
      show own_Fin p e below G (T86.setTop (mkF m 92 #[.val (.int p0), .val (.int p1), .val (.int p2), .val (.int p3), .val (.int p4), .val (.int (0 : Int32)), .val (.int (f1 p1)), .val (.int (f1 p2)), .val (.int (f1 p3)), .val (.int (f1 p4)), .val (.ref b35), .unset, .unset, .unset] [(.ref b35), (.ref b86), (.ref b86)]))
      have V35_at_92 : own_AV Value.int Z h86 b35 .int 0 (fun _ => (0 : Int32)) := (V35.ext E86)
      have Xa35_at_92 : Exa Z h86 b35 "[I" := (Xa35.ext E86)
      have Zz_92_E86 := Nat.le_trans Z_86 E86.1
      have Z_92 : n0 ≤ h86.size := Zz_92_E86
      obtain ⟨_, _, ⟨T92, L92, k92, n92⟩, -, X92, ⟨Lc92, hQ92, l92, y92, z92⟩, st92⟩ := X86.specialBack hx (y := (⟨"wavegauge/model/Capacities", "<init>", "([I)V"⟩ : MethodName)) rfl hown (mvT hZ (hw _ (List.mem_of_getElem? (i := 9) rfl))) (mvT hZ (hw _ (List.mem_of_getElem? (i := 10) rfl))) (mvT hZ (hw _ (List.mem_of_getElem? (i := 11) rfl))) (by decide) (backOf (W := 1) (rm2 l Z a0 hw [] b86 b35 0 (fun _ => (0 : Int32)) h86 n0 Z_92 A86 F_wavelengths_b86 g_b86 V35_at_92 Xa35_at_92 (fun i _ => ((fun _ => own_R0)) i) (by decide)) hZ (hw _ (List.mem_of_getElem? (i := 11) rfl)) (hw _ (List.mem_of_getElem? (i := 8) rfl)) (by decide) (by decide)) (g := (mkF m 92 #[.val (.int p0), .val (.int p1), .val (.int p2), .val (.int p3), .val (.int p4), .val (.int (0 : Int32)), .val (.int (f1 p1)), .val (.int (f1 p2)), .val (.int (f1 p3)), .val (.int (f1 p4)), .val (.ref b35), .unset, .unset, .unset] [(.ref b35), (.ref b86), (.ref b86)])) rfl (by rw [hml]; rfl) (Steps.refl _) (a := b86) (argsL := [(.ref b35)]) (rest := [(.ref b86)]) (lenOf own_pd1 rfl) rfl (by show 2 * 0 + _ ≤ _; exact Nat.le_of_eq rfl) (hb hby at_92) (fun _ _ => ⟨rfl, e86, (by decide : 2 + 1 ≤ _), (by decide : 1 + 4 ≤ _)⟩)
      dsimp only [Pt.U, Pt.locs, Pt.cells, Pt.slots] at X92 l92 y92 z92 st92 hQ92
      subst l92 y92 z92
      obtain ⟨rfl, N92q, Kp92, PE92, b92, szq92, PF92, PV92⟩ := hQ92
      have ne_b35_b92 : b35 ≠ b92 := Nat.ne_of_lt (Nat.lt_of_lt_of_le V35_at_92.lt szq92)
      have ne_b86_b92 : b86 ≠ b92 := Nat.ne_of_lt (Nat.lt_of_lt_of_le A86.lt szq92)
      have N92 := Fr.app N28 N92q
      refine own_via st92 ?_
      show own_Fin p e below G (T92.setTop (mkF m 95 #[.val (.int p0), .val (.int p1), .val (.int p2), .val (.int p3), .val (.int p4), .val (.int (0 : Int32)), .val (.int (f1 p1)), .val (.int (f1 p2)), .val (.int (f1 p3)), .val (.int (f1 p4)), .val (.ref b35), .unset, .unset, .unset] [(.ref b86)]))
      refine own_to (fun _ kz => XS.astore X92.here hx rfl (hb hby at_95) rfl (rfl) (l' := #[.val (.int p0), .val (.int p1), .val (.int p2), .val (.int p3), .val (.int p4), .val (.int (0 : Int32)), .val (.int (f1 p1)), .val (.int (f1 p2)), .val (.int (f1 p3)), .val (.int (f1 p4)), .val (.ref b35), .val (.ref b86), .unset, .unset]) rfl kz) ?_
      show own_Fin p e below G (T92.setTop (mkF m 97 #[.val (.int p0), .val (.int p1), .val (.int p2), .val (.int p3), .val (.int p4), .val (.int (0 : Int32)), .val (.int (f1 p1)), .val (.int (f1 p2)), .val (.int (f1 p3)), .val (.int (f1 p4)), .val (.ref b35), .val (.ref b86), .unset, .unset] []))
      refine own_to (fun _ kz => XS.lconst X92.here hx rfl (hb hby at_97) kz) ?_
      show own_Fin p e below G (T92.setTop (mkF m 98 #[.val (.int p0), .val (.int p1), .val (.int p2), .val (.int p3), .val (.int p4), .val (.int (0 : Int32)), .val (.int (f1 p1)), .val (.int (f1 p2)), .val (.int (f1 p3)), .val (.int (f1 p4)), .val (.ref b35), .val (.ref b86), .unset, .unset] [(.long (0 : Int64))]))
      refine own_to (fun _ kz => XS.lstore X92.here hx rfl (hb hby at_98) rfl (l' := #[.val (.int p0), .val (.int p1), .val (.int p2), .val (.int p3), .val (.int p4), .val (.int (0 : Int32)), .val (.int (f1 p1)), .val (.int (f1 p2)), .val (.int (f1 p3)), .val (.int (f1 p4)), .val (.ref b35), .val (.ref b86), .val (.long (0 : Int64)), .second]) rfl kz) ?_
      show own_Fin p e below G (T92.setTop (mkF m 100 #[.val (.int p0), .val (.int p1), .val (.int p2), .val (.int p3), .val (.int p4), .val (.int (0 : Int32)), .val (.int (f1 p1)), .val (.int (f1 p2)), .val (.int (f1 p3)), .val (.int (f1 p4)), .val (.ref b35), .val (.ref b86), .val (.long (0 : Int64)), .second] []))
      refine own_to (fun _ kz => XS.iload X92.here hx rfl (hb hby at_100) rfl  kz) ?_
      show own_Fin p e below G (T92.setTop (mkF m 102 #[.val (.int p0), .val (.int p1), .val (.int p2), .val (.int p3), .val (.int p4), .val (.int (0 : Int32)), .val (.int (f1 p1)), .val (.int (f1 p2)), .val (.int (f1 p3)), .val (.int (f1 p4)), .val (.ref b35), .val (.ref b86), .val (.long (0 : Int64)), .second] [(.int (0 : Int32))]))
      have hc102 : ¬ ((0 : Int32) < (0 : Int32)) := by decide
      refine own_to (fun _ kz => XS.ifYes X92.here hx rfl (pc0 := 102) (pc' := 113) rfl (hb hby at_102) rfl ((if0 _ _).trans (flt hc102).2.2.2) (by decide) (by decide) kz) ?_
      show own_Fin p e below G (T92.setTop (mkF m 113 #[.val (.int p0), .val (.int p1), .val (.int p2), .val (.int p3), .val (.int p4), .val (.int (0 : Int32)), .val (.int (f1 p1)), .val (.int (f1 p2)), .val (.int (f1 p3)), .val (.int (f1 p4)), .val (.ref b35), .val (.ref b86), .val (.long (0 : Int64)), .second] []))
      refine own_to (fun _ kz => XS.iload X92.here hx rfl (hb hby at_113) rfl  kz) ?_
      show own_Fin p e below G (T92.setTop (mkF m 115 #[.val (.int p0), .val (.int p1), .val (.int p2), .val (.int p3), .val (.int p4), .val (.int (0 : Int32)), .val (.int (f1 p1)), .val (.int (f1 p2)), .val (.int (f1 p3)), .val (.int (f1 p4)), .val (.ref b35), .val (.ref b86), .val (.long (0 : Int64)), .second] [(.int (0 : Int32))]))
      refine own_to (fun _ kz => XS.iconst X92.here hx rfl (hb hby at_115) kz) ?_
      show own_Fin p e below G (T92.setTop (mkF m 116 #[.val (.int p0), .val (.int p1), .val (.int p2), .val (.int p3), .val (.int p4), .val (.int (0 : Int32)), .val (.int (f1 p1)), .val (.int (f1 p2)), .val (.int (f1 p3)), .val (.int (f1 p4)), .val (.ref b35), .val (.ref b86), .val (.long (0 : Int64)), .second] [(.int (1 : Int32)), (.int (0 : Int32))]))
      have hc116 : ¬ ((1 : Int32) < (0 : Int32)) := by decide
      refine own_to (fun _ kz => XS.icmpYes X92.here hx rfl (pc0 := 116) (pc' := 127) rfl (hb hby at_116) rfl (flt hc116).2.2.2 (by decide) (by decide) kz) ?_
      show own_Fin p e below G (T92.setTop (mkF m 127 #[.val (.int p0), .val (.int p1), .val (.int p2), .val (.int p3), .val (.int p4), .val (.int (0 : Int32)), .val (.int (f1 p1)), .val (.int (f1 p2)), .val (.int (f1 p3)), .val (.int (f1 p4)), .val (.ref b35), .val (.ref b86), .val (.long (0 : Int64)), .second] []))
      refine own_to (fun _ kz => XS.iload X92.here hx rfl (hb hby at_127) rfl  kz) ?_
      show own_Fin p e below G (T92.setTop (mkF m 129 #[.val (.int p0), .val (.int p1), .val (.int p2), .val (.int p3), .val (.int p4), .val (.int (0 : Int32)), .val (.int (f1 p1)), .val (.int (f1 p2)), .val (.int (f1 p3)), .val (.int (f1 p4)), .val (.ref b35), .val (.ref b86), .val (.long (0 : Int64)), .second] [(.int (0 : Int32))]))
      refine own_to (fun _ kz => XS.iconst X92.here hx rfl (hb hby at_129) kz) ?_
      show own_Fin p e below G (T92.setTop (mkF m 130 #[.val (.int p0), .val (.int p1), .val (.int p2), .val (.int p3), .val (.int p4), .val (.int (0 : Int32)), .val (.int (f1 p1)), .val (.int (f1 p2)), .val (.int (f1 p3)), .val (.int (f1 p4)), .val (.ref b35), .val (.ref b86), .val (.long (0 : Int64)), .second] [(.int (2 : Int32)), (.int (0 : Int32))]))
      have hc130 : ¬ ((2 : Int32) < (0 : Int32)) := by decide
      refine own_to (fun _ kz => XS.icmpYes X92.here hx rfl (pc0 := 130) (pc' := 141) rfl (hb hby at_130) rfl (flt hc130).2.2.2 (by decide) (by decide) kz) ?_
      show own_Fin p e below G (T92.setTop (mkF m 141 #[.val (.int p0), .val (.int p1), .val (.int p2), .val (.int p3), .val (.int p4), .val (.int (0 : Int32)), .val (.int (f1 p1)), .val (.int (f1 p2)), .val (.int (f1 p3)), .val (.int (f1 p4)), .val (.ref b35), .val (.ref b86), .val (.long (0 : Int64)), .second] []))
      refine own_to (fun _ kz => XS.iload X92.here hx rfl (hb hby at_141) rfl  kz) ?_
      show own_Fin p e below G (T92.setTop (mkF m 143 #[.val (.int p0), .val (.int p1), .val (.int p2), .val (.int p3), .val (.int p4), .val (.int (0 : Int32)), .val (.int (f1 p1)), .val (.int (f1 p2)), .val (.int (f1 p3)), .val (.int (f1 p4)), .val (.ref b35), .val (.ref b86), .val (.long (0 : Int64)), .second] [(.int (0 : Int32))]))
      refine own_to (fun _ kz => XS.iconst X92.here hx rfl (hb hby at_143) kz) ?_
      show own_Fin p e below G (T92.setTop (mkF m 144 #[.val (.int p0), .val (.int p1), .val (.int p2), .val (.int p3), .val (.int p4), .val (.int (0 : Int32)), .val (.int (f1 p1)), .val (.int (f1 p2)), .val (.int (f1 p3)), .val (.int (f1 p4)), .val (.ref b35), .val (.ref b86), .val (.long (0 : Int64)), .second] [(.int (3 : Int32)), (.int (0 : Int32))]))
      have hc144 : ¬ ((3 : Int32) < (0 : Int32)) := by decide
      refine own_to (fun _ kz => XS.icmpYes X92.here hx rfl (pc0 := 144) (pc' := 155) rfl (hb hby at_144) rfl (flt hc144).2.2.2 (by decide) (by decide) kz) ?_
      show own_Fin p e below G (T92.setTop (mkF m 155 #[.val (.int p0), .val (.int p1), .val (.int p2), .val (.int p3), .val (.int p4), .val (.int (0 : Int32)), .val (.int (f1 p1)), .val (.int (f1 p2)), .val (.int (f1 p3)), .val (.int (f1 p4)), .val (.ref b35), .val (.ref b86), .val (.long (0 : Int64)), .second] []))
      refine own_to (fun _ kz => XS.iload X92.here hx rfl (hb hby at_155) rfl  kz) ?_
      show own_Fin p e below G (T92.setTop (mkF m 157 #[.val (.int p0), .val (.int p1), .val (.int p2), .val (.int p3), .val (.int p4), .val (.int (0 : Int32)), .val (.int (f1 p1)), .val (.int (f1 p2)), .val (.int (f1 p3)), .val (.int (f1 p4)), .val (.ref b35), .val (.ref b86), .val (.long (0 : Int64)), .second] [(.int (0 : Int32))]))
      have hc157 : ¬ ((0 : Int32) < (0 : Int32)) := by decide
      refine own_to (fun _ kz => XS.ifYes X92.here hx rfl (pc0 := 157) (pc' := 170) rfl (hb hby at_157) rfl ((if0 _ _).trans (flt hc157).2.2.2) (by decide) (by decide) kz) ?_
      show own_Fin p e below G (T92.setTop (mkF m 170 #[.val (.int p0), .val (.int p1), .val (.int p2), .val (.int p3), .val (.int p4), .val (.int (0 : Int32)), .val (.int (f1 p1)), .val (.int (f1 p2)), .val (.int (f1 p3)), .val (.int (f1 p4)), .val (.ref b35), .val (.ref b86), .val (.long (0 : Int64)), .second] []))
      refine own_to (fun _ kz => XS.aload X92.here hx rfl (hb hby at_170) rfl (rfl)  kz) ?_
      show own_Fin p e below G (T92.setTop (mkF m 172 #[.val (.int p0), .val (.int p1), .val (.int p2), .val (.int p3), .val (.int p4), .val (.int (0 : Int32)), .val (.int (f1 p1)), .val (.int (f1 p2)), .val (.int (f1 p3)), .val (.int (f1 p4)), .val (.ref b35), .val (.ref b86), .val (.long (0 : Int64)), .second] [(.ref b86)]))
      have Zz_172_Kp92 := Nat.le_trans Z_92 Kp92.1
      have Z_172 : n0 ≤ T92.heap.size := Zz_172_Kp92
      obtain ⟨cq172, kq172, qa172, qb172, qc172⟩ := isOf hZ rfl PE92
      obtain ⟨_, _, ⟨T172, L172, k172, n172⟩, -, X172, ⟨Lc172, hQ172, l172, y172, z172⟩, st172⟩ := X92.virtualBack hx (y := (⟨"wavegauge/model/Capacities", "total", "()J"⟩ : MethodName)) (z := (⟨"wavegauge/model/Capacities", "total", "()J"⟩ : MethodName)) hown (mvT hZ (hw _ (List.mem_of_getElem? (i := 26) rfl))) (mvT hZ (hw _ (List.mem_of_getElem? (i := 27) rfl))) (notFace_of_selects (args := #[]) (mvT hZ (hw _ (List.mem_of_getElem? (i := 29) rfl)))) (mvT hZ (hw _ (List.mem_of_getElem? (i := 29) rfl))) (mvT hZ (hw _ (List.mem_of_getElem? (i := 28) rfl))) (by decide) (backOf (W := 0) (rm4 l Z a0 hw [] b86 0 (fun _ => (0 : Int32)) b92 T92.heap n0 Z_172 PF92 PV92) hZ (hw _ (List.mem_of_getElem? (i := 30) rfl)) (hw _ (List.mem_of_getElem? (i := 8) rfl)) (by decide) (by decide)) qa172 qc172 (g := (mkF m 172 #[.val (.int p0), .val (.int p1), .val (.int p2), .val (.int p3), .val (.int p4), .val (.int (0 : Int32)), .val (.int (f1 p1)), .val (.int (f1 p2)), .val (.int (f1 p3)), .val (.int (f1 p4)), .val (.ref b35), .val (.ref b86), .val (.long (0 : Int64)), .second] [(.ref b86)])) rfl (by rw [hml]; rfl) (Steps.refl _) (argsL := []) (rest := []) (lenOf own_pd2 rfl) rfl (by show 2 * 0 + _ ≤ _; exact Nat.le_of_eq rfl) (hb hby at_172) (fun _ _ => ⟨rfl, rfl, (by decide : 3 + 0 ≤ _), (by decide : 5 + 0 ≤ _)⟩)
      dsimp only [Pt.U, Pt.locs, Pt.cells, Pt.slots] at X172 l172 y172 z172 st172 hQ172
      subst l172 y172 z172
      obtain ⟨rfl, N172q, e172⟩ := hQ172
      have N172 := Fr.app N92 N172q
      refine own_via st172 ?_
      show own_Fin p e below G (T172.setTop (mkF m 175 #[.val (.int p0), .val (.int p1), .val (.int p2), .val (.int p3), .val (.int p4), .val (.int (0 : Int32)), .val (.int (f1 p1)), .val (.int (f1 p2)), .val (.int (f1 p3)), .val (.int (f1 p4)), .val (.ref b35), .val (.ref b86), .val (.long (0 : Int64)), .second] [(.long (own_sumI (fun _ => (0 : Int32)) 0))]))
      refine own_to (fun _ kz => XS.lload X172.here hx rfl (hb hby at_175) rfl  kz) ?_
      show own_Fin p e below G (T172.setTop (mkF m 177 #[.val (.int p0), .val (.int p1), .val (.int p2), .val (.int p3), .val (.int p4), .val (.int (0 : Int32)), .val (.int (f1 p1)), .val (.int (f1 p2)), .val (.int (f1 p3)), .val (.int (f1 p4)), .val (.ref b35), .val (.ref b86), .val (.long (0 : Int64)), .second] [(.long (0 : Int64)), (.long (own_sumI (fun _ => (0 : Int32)) 0))]))
      refine own_to (fun _ kz => XS.lcmp X172.here hx rfl (hb hby at_177) rfl kz) ?_
      show own_Fin p e below G (T172.setTop (mkF m 178 #[.val (.int p0), .val (.int p1), .val (.int p2), .val (.int p3), .val (.int p4), .val (.int (0 : Int32)), .val (.int (f1 p1)), .val (.int (f1 p2)), .val (.int (f1 p3)), .val (.int (f1 p4)), .val (.ref b35), .val (.ref b86), .val (.long (0 : Int64)), .second] [(.int (lcmpW (own_sumI (fun _ => (0 : Int32)) 0) (0 : Int64)))]))
      have hc178 : (own_sumI (fun _ => (0 : Int32)) 0) = (0 : Int64) := (by simp [own_sumI, own_upd])
      refine own_to (fun _ kz => XS.ifNo X172.here hx rfl (hb hby at_178) rfl ((if0 _ _).trans (teq ((lw_eq _ _).mpr hc178)).2) kz) ?_
      show own_Fin p e below G (T172.setTop (mkF m 181 #[.val (.int p0), .val (.int p1), .val (.int p2), .val (.int p3), .val (.int p4), .val (.int (0 : Int32)), .val (.int (f1 p1)), .val (.int (f1 p2)), .val (.int (f1 p3)), .val (.int (f1 p4)), .val (.ref b35), .val (.ref b86), .val (.long (0 : Int64)), .second] []))
      refine own_to (fun _ kz => XS.iconst X172.here hx rfl (hb hby at_181) kz) ?_
      show own_Fin p e below G (T172.setTop (mkF m 182 #[.val (.int p0), .val (.int p1), .val (.int p2), .val (.int p3), .val (.int p4), .val (.int (0 : Int32)), .val (.int (f1 p1)), .val (.int (f1 p2)), .val (.int (f1 p3)), .val (.int (f1 p4)), .val (.ref b35), .val (.ref b86), .val (.long (0 : Int64)), .second] [(.int (1 : Int32))]))
      refine own_to (fun _ kz => XS.goto X172.here hx rfl (pc0 := 182) (pc' := 186) rfl (hb hby at_182) (by decide) (by decide) kz) ?_
      show own_Fin p e below G (T172.setTop (mkF m 186 #[.val (.int p0), .val (.int p1), .val (.int p2), .val (.int p3), .val (.int p4), .val (.int (0 : Int32)), .val (.int (f1 p1)), .val (.int (f1 p2)), .val (.int (f1 p3)), .val (.int (f1 p4)), .val (.ref b35), .val (.ref b86), .val (.long (0 : Int64)), .second] [(.int (1 : Int32))]))
      exact own_retN X172 hx hlk hG (t := .boolean) Bd.returns (by simp) (hb hby at_186) (by decide) (by decide) (by rw [e172]; exact ⟨rfl, N172, trivial⟩)
    · show own_Fin p e below G (T28.setTop (mkF m 33 #[.val (.int p0), .val (.int p1), .val (.int p2), .val (.int p3), .val (.int p4), .val (.int (1 : Int32)), .val (.int (f1 p1)), .val (.int (f1 p2)), .val (.int (f1 p3)), .val (.int (f1 p4)), .unset, .unset, .unset, .unset] []))
      refine own_to (fun _ kz => XS.iload X28.here hx rfl (hb hby at_33) rfl  kz) ?_
      show own_Fin p e below G (T28.setTop (mkF m 35 #[.val (.int p0), .val (.int p1), .val (.int p2), .val (.int p3), .val (.int p4), .val (.int (1 : Int32)), .val (.int (f1 p1)), .val (.int (f1 p2)), .val (.int (f1 p3)), .val (.int (f1 p4)), .unset, .unset, .unset, .unset] [(.int (1 : Int32))]))
      obtain ⟨T35, h35, k35, X35, e35, E35, A35, Xa35, st35⟩ := newPE X28 hx hZ (hw _ (List.mem_of_getElem? (i := 5) rfl)) e28 (g := (mkF m 35 #[.val (.int p0), .val (.int p1), .val (.int p2), .val (.int p3), .val (.int p4), .val (.int (1 : Int32)), .val (.int (f1 p1)), .val (.int (f1 p2)), .val (.int (f1 p3)), .val (.int (f1 p4)), .unset, .unset, .unset, .unset] [(.int (1 : Int32))])) rfl (hb hby at_35) rfl (by decide) (cap := 1) (by decide) (by decide) (by decide) (by decide) (ad := "[I") (by decide)
      obtain ⟨b35, g35⟩ : ∃ z, z = h0.size := ⟨_, rfl⟩
      rw [← g35] at A35 Xa35 st35
      refine own_to st35 ?_
      have g_b35 : n0 ≤ b35 := Nat.le_trans Z0 (Nat.le_of_eq g35.symm)
      have V35 : own_AV Value.int Z h35 b35 .int 1 (fun _ => (0 : Int32)) := own_AV.new A35 (by decide) (by decide) (fun _ => rfl)
      show own_Fin p e below G (T35.setTop (mkF m 37 #[.val (.int p0), .val (.int p1), .val (.int p2), .val (.int p3), .val (.int p4), .val (.int (1 : Int32)), .val (.int (f1 p1)), .val (.int (f1 p2)), .val (.int (f1 p3)), .val (.int (f1 p4)), .unset, .unset, .unset, .unset] [(.ref b35)]))
      refine own_to (fun _ kz => XS.astore X35.here hx rfl (hb hby at_37) rfl (rfl) (l' := #[.val (.int p0), .val (.int p1), .val (.int p2), .val (.int p3), .val (.int p4), .val (.int (1 : Int32)), .val (.int (f1 p1)), .val (.int (f1 p2)), .val (.int (f1 p3)), .val (.int (f1 p4)), .val (.ref b35), .unset, .unset, .unset]) rfl kz) ?_
      show own_Fin p e below G (T35.setTop (mkF m 39 #[.val (.int p0), .val (.int p1), .val (.int p2), .val (.int p3), .val (.int p4), .val (.int (1 : Int32)), .val (.int (f1 p1)), .val (.int (f1 p2)), .val (.int (f1 p3)), .val (.int (f1 p4)), .val (.ref b35), .unset, .unset, .unset] []))
      refine own_to (fun _ kz => XS.iload X35.here hx rfl (hb hby at_39) rfl  kz) ?_
      show own_Fin p e below G (T35.setTop (mkF m 41 #[.val (.int p0), .val (.int p1), .val (.int p2), .val (.int p3), .val (.int p4), .val (.int (1 : Int32)), .val (.int (f1 p1)), .val (.int (f1 p2)), .val (.int (f1 p3)), .val (.int (f1 p4)), .val (.ref b35), .unset, .unset, .unset] [(.int (1 : Int32))]))
      have hc41 : (0 : Int32) < (1 : Int32) := by decide
      refine own_to (fun _ kz => XS.ifNo X35.here hx rfl (hb hby at_41) rfl ((if0 _ _).trans (tlt hc41).2.2.2) kz) ?_
      show own_Fin p e below G (T35.setTop (mkF m 44 #[.val (.int p0), .val (.int p1), .val (.int p2), .val (.int p3), .val (.int p4), .val (.int (1 : Int32)), .val (.int (f1 p1)), .val (.int (f1 p2)), .val (.int (f1 p3)), .val (.int (f1 p4)), .val (.ref b35), .unset, .unset, .unset] []))
      refine own_to (fun _ kz => XS.aload X35.here hx rfl (hb hby at_44) rfl (rfl)  kz) ?_
      show own_Fin p e below G (T35.setTop (mkF m 46 #[.val (.int p0), .val (.int p1), .val (.int p2), .val (.int p3), .val (.int p4), .val (.int (1 : Int32)), .val (.int (f1 p1)), .val (.int (f1 p2)), .val (.int (f1 p3)), .val (.int (f1 p4)), .val (.ref b35), .unset, .unset, .unset] [(.ref b35)]))
      refine own_to (fun _ kz => XS.iconst X35.here hx rfl (hb hby at_46) kz) ?_
      show own_Fin p e below G (T35.setTop (mkF m 47 #[.val (.int p0), .val (.int p1), .val (.int p2), .val (.int p3), .val (.int p4), .val (.int (1 : Int32)), .val (.int (f1 p1)), .val (.int (f1 p2)), .val (.int (f1 p3)), .val (.int (f1 p4)), .val (.ref b35), .unset, .unset, .unset] [(.int (0 : Int32)), (.ref b35)]))
      refine own_to (fun _ kz => XS.iload X35.here hx rfl (hb hby at_47) rfl  kz) ?_
      show own_Fin p e below G (T35.setTop (mkF m 49 #[.val (.int p0), .val (.int p1), .val (.int p2), .val (.int p3), .val (.int p4), .val (.int (1 : Int32)), .val (.int (f1 p1)), .val (.int (f1 p2)), .val (.int (f1 p3)), .val (.int (f1 p4)), .val (.ref b35), .unset, .unset, .unset] [(.int (f1 p1)), (.int (0 : Int32)), (.ref b35)]))
      obtain ⟨nn49, cl49, Ar49, Sz49, Hs49⟩ := V35
      obtain ⟨T49, h49, X49, e49, W49, st49⟩ := stI X35 hx hZ e35 Ar49 (j := (0 : Int32)) (own_in Sz49 (by decide) rfl (by decide)) (g := (mkF m 49 #[.val (.int p0), .val (.int p1), .val (.int p2), .val (.int p3), .val (.int p4), .val (.int (1 : Int32)), .val (.int (f1 p1)), .val (.int (f1 p2)), .val (.int (f1 p3)), .val (.int (f1 p4)), .val (.ref b35), .unset, .unset, .unset] [(.int (f1 p1)), (.int (0 : Int32)), (.ref b35)])) rfl rfl (hb hby at_49)
      refine own_to st49 ?_
      have V49 : own_AV Value.int Z h49 b35 .int 1 (own_upd (fun _ => (0 : Int32)) 0 (f1 p1)) := own_AV.set nn49 Ar49 Sz49 Hs49 W49 rfl
      have N49 := Fr.snoc X49 N28 g_b35
      show own_Fin p e below G (T49.setTop (mkF m 50 #[.val (.int p0), .val (.int p1), .val (.int p2), .val (.int p3), .val (.int p4), .val (.int (1 : Int32)), .val (.int (f1 p1)), .val (.int (f1 p2)), .val (.int (f1 p3)), .val (.int (f1 p4)), .val (.ref b35), .unset, .unset, .unset] []))
      refine own_to (fun _ kz => XS.iload X49.here hx rfl (hb hby at_50) rfl  kz) ?_
      show own_Fin p e below G (T49.setTop (mkF m 52 #[.val (.int p0), .val (.int p1), .val (.int p2), .val (.int p3), .val (.int p4), .val (.int (1 : Int32)), .val (.int (f1 p1)), .val (.int (f1 p2)), .val (.int (f1 p3)), .val (.int (f1 p4)), .val (.ref b35), .unset, .unset, .unset] [(.int (1 : Int32))]))
      refine own_to (fun _ kz => XS.iconst X49.here hx rfl (hb hby at_52) kz) ?_
      show own_Fin p e below G (T49.setTop (mkF m 53 #[.val (.int p0), .val (.int p1), .val (.int p2), .val (.int p3), .val (.int p4), .val (.int (1 : Int32)), .val (.int (f1 p1)), .val (.int (f1 p2)), .val (.int (f1 p3)), .val (.int (f1 p4)), .val (.ref b35), .unset, .unset, .unset] [(.int (1 : Int32)), (.int (1 : Int32))]))
      have hc53 : ¬ ((1 : Int32) < (1 : Int32)) := by decide
      refine own_to (fun _ kz => XS.icmpYes X49.here hx rfl (pc0 := 53) (pc' := 62) rfl (hb hby at_53) rfl (flt hc53).2.2.2 (by decide) (by decide) kz) ?_
      show own_Fin p e below G (T49.setTop (mkF m 62 #[.val (.int p0), .val (.int p1), .val (.int p2), .val (.int p3), .val (.int p4), .val (.int (1 : Int32)), .val (.int (f1 p1)), .val (.int (f1 p2)), .val (.int (f1 p3)), .val (.int (f1 p4)), .val (.ref b35), .unset, .unset, .unset] []))
      refine own_to (fun _ kz => XS.iload X49.here hx rfl (hb hby at_62) rfl  kz) ?_
      show own_Fin p e below G (T49.setTop (mkF m 64 #[.val (.int p0), .val (.int p1), .val (.int p2), .val (.int p3), .val (.int p4), .val (.int (1 : Int32)), .val (.int (f1 p1)), .val (.int (f1 p2)), .val (.int (f1 p3)), .val (.int (f1 p4)), .val (.ref b35), .unset, .unset, .unset] [(.int (1 : Int32))]))
      refine own_to (fun _ kz => XS.iconst X49.here hx rfl (hb hby at_64) kz) ?_
      show own_Fin p e below G (T49.setTop (mkF m 65 #[.val (.int p0), .val (.int p1), .val (.int p2), .val (.int p3), .val (.int p4), .val (.int (1 : Int32)), .val (.int (f1 p1)), .val (.int (f1 p2)), .val (.int (f1 p3)), .val (.int (f1 p4)), .val (.ref b35), .unset, .unset, .unset] [(.int (2 : Int32)), (.int (1 : Int32))]))
      have hc65 : ¬ ((2 : Int32) < (1 : Int32)) := by decide
      refine own_to (fun _ kz => XS.icmpYes X49.here hx rfl (pc0 := 65) (pc' := 74) rfl (hb hby at_65) rfl (flt hc65).2.2.2 (by decide) (by decide) kz) ?_
      show own_Fin p e below G (T49.setTop (mkF m 74 #[.val (.int p0), .val (.int p1), .val (.int p2), .val (.int p3), .val (.int p4), .val (.int (1 : Int32)), .val (.int (f1 p1)), .val (.int (f1 p2)), .val (.int (f1 p3)), .val (.int (f1 p4)), .val (.ref b35), .unset, .unset, .unset] []))
      refine own_to (fun _ kz => XS.iload X49.here hx rfl (hb hby at_74) rfl  kz) ?_
      show own_Fin p e below G (T49.setTop (mkF m 76 #[.val (.int p0), .val (.int p1), .val (.int p2), .val (.int p3), .val (.int p4), .val (.int (1 : Int32)), .val (.int (f1 p1)), .val (.int (f1 p2)), .val (.int (f1 p3)), .val (.int (f1 p4)), .val (.ref b35), .unset, .unset, .unset] [(.int (1 : Int32))]))
      refine own_to (fun _ kz => XS.iconst X49.here hx rfl (hb hby at_76) kz) ?_
      show own_Fin p e below G (T49.setTop (mkF m 77 #[.val (.int p0), .val (.int p1), .val (.int p2), .val (.int p3), .val (.int p4), .val (.int (1 : Int32)), .val (.int (f1 p1)), .val (.int (f1 p2)), .val (.int (f1 p3)), .val (.int (f1 p4)), .val (.ref b35), .unset, .unset, .unset] [(.int (3 : Int32)), (.int (1 : Int32))]))
      have hc77 : ¬ ((3 : Int32) < (1 : Int32)) := by decide
      refine own_to (fun _ kz => XS.icmpYes X49.here hx rfl (pc0 := 77) (pc' := 86) rfl (hb hby at_77) rfl (flt hc77).2.2.2 (by decide) (by decide) kz) ?_
      show own_Fin p e below G (T49.setTop (mkF m 86 #[.val (.int p0), .val (.int p1), .val (.int p2), .val (.int p3), .val (.int p4), .val (.int (1 : Int32)), .val (.int (f1 p1)), .val (.int (f1 p2)), .val (.int (f1 p3)), .val (.int (f1 p4)), .val (.ref b35), .unset, .unset, .unset] []))
      have Zz_86_E35'1 := Nat.le_trans Z0 E35.1
      have Zz_86_W49 := Nat.le_trans Zz_86_E35'1 (Nat.le_of_eq (Wr.size W49).symm)
      have Z_86'1 : n0 ≤ h49.size := Zz_86_W49
      obtain ⟨T86, h86, X86, e86, E86, A86, D86, -, st86⟩ := newO X49 hx hZ hown (hw _ (List.mem_of_getElem? (i := 6) rfl)) (hw _ (List.mem_of_getElem? (i := 7) rfl)) (hw _ (List.mem_of_getElem? (i := 8) rfl)) e49 (g := (mkF m 86 #[.val (.int p0), .val (.int p1), .val (.int p2), .val (.int p3), .val (.int p4), .val (.int (1 : Int32)), .val (.int (f1 p1)), .val (.int (f1 p2)), .val (.int (f1 p3)), .val (.int (f1 p4)), .val (.ref b35), .unset, .unset, .unset] [])) rfl (hb hby at_86) (by decide) (by decide)
      obtain ⟨b86, g86⟩ : ∃ z, z = h49.size := ⟨_, rfl⟩
      rw [← g86] at A86 D86 st86
      refine own_to st86 ?_
      have ne_b35_b86'1 : b35 ≠ b86 := Nat.ne_of_lt (Nat.lt_of_lt_of_le V49.lt (Nat.le_of_eq g86.symm))
      have g_b86 : n0 ≤ b86 := Nat.le_trans Z_86'1 (Nat.le_of_eq g86.symm)
      have F_wavelengths_b86'1 : Fld Z h86 b86 "wavegauge/model/Capacities" "wavelengths" "[I" .null := D86 (Or.inr (hw _ (List.mem_of_getElem? (i := 25) rfl))) (ty := (.array .int)) (by decide)
      show own_Fin p e below G (T86.setTop (mkF m 89 #[.val (.int p0), .val (.int p1), .val (.int p2), .val (.int p3), .val (.int p4), .val (.int (1 : Int32)), .val (.int (f1 p1)), .val (.int (f1 p2)), .val (.int (f1 p3)), .val (.int (f1 p4)), .val (.ref b35), .unset, .unset, .unset] [(.ref b86)]))
      refine own_to (fun _ kz => XS.dup X86.here hx rfl (hb hby at_89) rfl rfl kz) ?_
      show own_Fin p e below G (T86.setTop (mkF m 90 #[.val (.int p0), .val (.int p1), .val (.int p2), .val (.int p3), .val (.int p4), .val (.int (1 : Int32)), .val (.int (f1 p1)), .val (.int (f1 p2)), .val (.int (f1 p3)), .val (.int (f1 p4)), .val (.ref b35), .unset, .unset, .unset] [(.ref b86), (.ref b86)]))
      refine own_to (fun _ kz => XS.aload X86.here hx rfl (hb hby at_90) rfl (rfl)  kz) ?_
      show own_Fin p e below G (T86.setTop (mkF m 92 #[.val (.int p0), .val (.int p1), .val (.int p2), .val (.int p3), .val (.int p4), .val (.int (1 : Int32)), .val (.int (f1 p1)), .val (.int (f1 p2)), .val (.int (f1 p3)), .val (.int (f1 p4)), .val (.ref b35), .unset, .unset, .unset] [(.ref b35), (.ref b86), (.ref b86)]))
      have V49_at_92 : own_AV Value.int Z h86 b35 .int 1 (own_upd (fun _ => (0 : Int32)) 0 (f1 p1)) := (V49.ext E86)
      have Xa35_at_92'1 : Exa Z h86 b35 "[I" := ((Xa35.wr W49).ext E86)
      have Zz_92_E86'1 := Nat.le_trans Z_86'1 E86.1
      have Z_92'1 : n0 ≤ h86.size := Zz_92_E86'1
      obtain ⟨_, _, ⟨T92, L92, k92, n92⟩, -, X92, ⟨Lc92, hQ92, l92, y92, z92⟩, st92⟩ := X86.specialBack hx (y := (⟨"wavegauge/model/Capacities", "<init>", "([I)V"⟩ : MethodName)) rfl hown (mvT hZ (hw _ (List.mem_of_getElem? (i := 9) rfl))) (mvT hZ (hw _ (List.mem_of_getElem? (i := 10) rfl))) (mvT hZ (hw _ (List.mem_of_getElem? (i := 11) rfl))) (by decide) (backOf (W := 1) (rm2 l Z a0 hw [] b86 b35 1 (own_upd (fun _ => (0 : Int32)) 0 (f1 p1)) h86 n0 Z_92'1 A86 F_wavelengths_b86'1 g_b86 V49_at_92 Xa35_at_92'1 (fun i _ => ((own_updr (P := own_R) (own_cnt _) (fun _ => own_R0))) i) (by decide)) hZ (hw _ (List.mem_of_getElem? (i := 11) rfl)) (hw _ (List.mem_of_getElem? (i := 8) rfl)) (by decide) (by decide)) (g := (mkF m 92 #[.val (.int p0), .val (.int p1), .val (.int p2), .val (.int p3), .val (.int p4), .val (.int (1 : Int32)), .val (.int (f1 p1)), .val (.int (f1 p2)), .val (.int (f1 p3)), .val (.int (f1 p4)), .val (.ref b35), .unset, .unset, .unset] [(.ref b35), (.ref b86), (.ref b86)])) rfl (by rw [hml]; rfl) (Steps.refl _) (a := b86) (argsL := [(.ref b35)]) (rest := [(.ref b86)]) (lenOf own_pd1 rfl) rfl (by show 2 * 0 + _ ≤ _; exact Nat.le_of_eq rfl) (hb hby at_92) (fun _ _ => ⟨rfl, e86, (by decide : 2 + 1 ≤ _), (by decide : 2 + 4 ≤ _)⟩)
      dsimp only [Pt.U, Pt.locs, Pt.cells, Pt.slots] at X92 l92 y92 z92 st92 hQ92
      subst l92 y92 z92
      obtain ⟨rfl, N92q, Kp92, PE92, b92, szq92, PF92, PV92⟩ := hQ92
      have ne_b35_b92'1 : b35 ≠ b92 := Nat.ne_of_lt (Nat.lt_of_lt_of_le V49_at_92.lt szq92)
      have ne_b86_b92'1 : b86 ≠ b92 := Nat.ne_of_lt (Nat.lt_of_lt_of_le A86.lt szq92)
      have N92 := Fr.app N49 N92q
      refine own_via st92 ?_
      show own_Fin p e below G (T92.setTop (mkF m 95 #[.val (.int p0), .val (.int p1), .val (.int p2), .val (.int p3), .val (.int p4), .val (.int (1 : Int32)), .val (.int (f1 p1)), .val (.int (f1 p2)), .val (.int (f1 p3)), .val (.int (f1 p4)), .val (.ref b35), .unset, .unset, .unset] [(.ref b86)]))
      refine own_to (fun _ kz => XS.astore X92.here hx rfl (hb hby at_95) rfl (rfl) (l' := #[.val (.int p0), .val (.int p1), .val (.int p2), .val (.int p3), .val (.int p4), .val (.int (1 : Int32)), .val (.int (f1 p1)), .val (.int (f1 p2)), .val (.int (f1 p3)), .val (.int (f1 p4)), .val (.ref b35), .val (.ref b86), .unset, .unset]) rfl kz) ?_
      show own_Fin p e below G (T92.setTop (mkF m 97 #[.val (.int p0), .val (.int p1), .val (.int p2), .val (.int p3), .val (.int p4), .val (.int (1 : Int32)), .val (.int (f1 p1)), .val (.int (f1 p2)), .val (.int (f1 p3)), .val (.int (f1 p4)), .val (.ref b35), .val (.ref b86), .unset, .unset] []))
      refine own_to (fun _ kz => XS.lconst X92.here hx rfl (hb hby at_97) kz) ?_
      show own_Fin p e below G (T92.setTop (mkF m 98 #[.val (.int p0), .val (.int p1), .val (.int p2), .val (.int p3), .val (.int p4), .val (.int (1 : Int32)), .val (.int (f1 p1)), .val (.int (f1 p2)), .val (.int (f1 p3)), .val (.int (f1 p4)), .val (.ref b35), .val (.ref b86), .unset, .unset] [(.long (0 : Int64))]))
      refine own_to (fun _ kz => XS.lstore X92.here hx rfl (hb hby at_98) rfl (l' := #[.val (.int p0), .val (.int p1), .val (.int p2), .val (.int p3), .val (.int p4), .val (.int (1 : Int32)), .val (.int (f1 p1)), .val (.int (f1 p2)), .val (.int (f1 p3)), .val (.int (f1 p4)), .val (.ref b35), .val (.ref b86), .val (.long (0 : Int64)), .second]) rfl kz) ?_
      show own_Fin p e below G (T92.setTop (mkF m 100 #[.val (.int p0), .val (.int p1), .val (.int p2), .val (.int p3), .val (.int p4), .val (.int (1 : Int32)), .val (.int (f1 p1)), .val (.int (f1 p2)), .val (.int (f1 p3)), .val (.int (f1 p4)), .val (.ref b35), .val (.ref b86), .val (.long (0 : Int64)), .second] []))
      refine own_to (fun _ kz => XS.iload X92.here hx rfl (hb hby at_100) rfl  kz) ?_
      show own_Fin p e below G (T92.setTop (mkF m 102 #[.val (.int p0), .val (.int p1), .val (.int p2), .val (.int p3), .val (.int p4), .val (.int (1 : Int32)), .val (.int (f1 p1)), .val (.int (f1 p2)), .val (.int (f1 p3)), .val (.int (f1 p4)), .val (.ref b35), .val (.ref b86), .val (.long (0 : Int64)), .second] [(.int (1 : Int32))]))
      have hc102 : (0 : Int32) < (1 : Int32) := by decide
      refine own_to (fun _ kz => XS.ifNo X92.here hx rfl (hb hby at_102) rfl ((if0 _ _).trans (tlt hc102).2.2.2) kz) ?_
      show own_Fin p e below G (T92.setTop (mkF m 105 #[.val (.int p0), .val (.int p1), .val (.int p2), .val (.int p3), .val (.int p4), .val (.int (1 : Int32)), .val (.int (f1 p1)), .val (.int (f1 p2)), .val (.int (f1 p3)), .val (.int (f1 p4)), .val (.ref b35), .val (.ref b86), .val (.long (0 : Int64)), .second] []))
      refine own_to (fun _ kz => XS.lload X92.here hx rfl (hb hby at_105) rfl  kz) ?_
      show own_Fin p e below G (T92.setTop (mkF m 107 #[.val (.int p0), .val (.int p1), .val (.int p2), .val (.int p3), .val (.int p4), .val (.int (1 : Int32)), .val (.int (f1 p1)), .val (.int (f1 p2)), .val (.int (f1 p3)), .val (.int (f1 p4)), .val (.ref b35), .val (.ref b86), .val (.long (0 : Int64)), .second] [(.long (0 : Int64))]))
      refine own_to (fun _ kz => XS.iload X92.here hx rfl (hb hby at_107) rfl  kz) ?_
      show own_Fin p e below G (T92.setTop (mkF m 109 #[.val (.int p0), .val (.int p1), .val (.int p2), .val (.int p3), .val (.int p4), .val (.int (1 : Int32)), .val (.int (f1 p1)), .val (.int (f1 p2)), .val (.int (f1 p3)), .val (.int (f1 p4)), .val (.ref b35), .val (.ref b86), .val (.long (0 : Int64)), .second] [(.int (f1 p1)), (.long (0 : Int64))]))
      refine own_to (fun _ kz => XS.i2l X92.here hx rfl (hb hby at_109) rfl kz) ?_
      show own_Fin p e below G (T92.setTop (mkF m 110 #[.val (.int p0), .val (.int p1), .val (.int p2), .val (.int p3), .val (.int p4), .val (.int (1 : Int32)), .val (.int (f1 p1)), .val (.int (f1 p2)), .val (.int (f1 p3)), .val (.int (f1 p4)), .val (.ref b35), .val (.ref b86), .val (.long (0 : Int64)), .second] [(.long ((f1 p1).toInt64)), (.long (0 : Int64))]))
      refine own_to (fun _ kz => XS.ladd X92.here hx rfl (hb hby at_110) rfl kz) ?_
      show own_Fin p e below G (T92.setTop (mkF m 111 #[.val (.int p0), .val (.int p1), .val (.int p2), .val (.int p3), .val (.int p4), .val (.int (1 : Int32)), .val (.int (f1 p1)), .val (.int (f1 p2)), .val (.int (f1 p3)), .val (.int (f1 p4)), .val (.ref b35), .val (.ref b86), .val (.long (0 : Int64)), .second] [(.long ((0 : Int64) + ((f1 p1).toInt64)))]))
      refine own_to (fun _ kz => XS.lstore X92.here hx rfl (hb hby at_111) rfl (l' := #[.val (.int p0), .val (.int p1), .val (.int p2), .val (.int p3), .val (.int p4), .val (.int (1 : Int32)), .val (.int (f1 p1)), .val (.int (f1 p2)), .val (.int (f1 p3)), .val (.int (f1 p4)), .val (.ref b35), .val (.ref b86), .val (.long ((0 : Int64) + ((f1 p1).toInt64))), .second]) rfl kz) ?_
      show own_Fin p e below G (T92.setTop (mkF m 113 #[.val (.int p0), .val (.int p1), .val (.int p2), .val (.int p3), .val (.int p4), .val (.int (1 : Int32)), .val (.int (f1 p1)), .val (.int (f1 p2)), .val (.int (f1 p3)), .val (.int (f1 p4)), .val (.ref b35), .val (.ref b86), .val (.long ((0 : Int64) + ((f1 p1).toInt64))), .second] []))
      refine own_to (fun _ kz => XS.iload X92.here hx rfl (hb hby at_113) rfl  kz) ?_
      show own_Fin p e below G (T92.setTop (mkF m 115 #[.val (.int p0), .val (.int p1), .val (.int p2), .val (.int p3), .val (.int p4), .val (.int (1 : Int32)), .val (.int (f1 p1)), .val (.int (f1 p2)), .val (.int (f1 p3)), .val (.int (f1 p4)), .val (.ref b35), .val (.ref b86), .val (.long ((0 : Int64) + ((f1 p1).toInt64))), .second] [(.int (1 : Int32))]))
      refine own_to (fun _ kz => XS.iconst X92.here hx rfl (hb hby at_115) kz) ?_
      show own_Fin p e below G (T92.setTop (mkF m 116 #[.val (.int p0), .val (.int p1), .val (.int p2), .val (.int p3), .val (.int p4), .val (.int (1 : Int32)), .val (.int (f1 p1)), .val (.int (f1 p2)), .val (.int (f1 p3)), .val (.int (f1 p4)), .val (.ref b35), .val (.ref b86), .val (.long ((0 : Int64) + ((f1 p1).toInt64))), .second] [(.int (1 : Int32)), (.int (1 : Int32))]))
      have hc116 : ¬ ((1 : Int32) < (1 : Int32)) := by decide
      refine own_to (fun _ kz => XS.icmpYes X92.here hx rfl (pc0 := 116) (pc' := 127) rfl (hb hby at_116) rfl (flt hc116).2.2.2 (by decide) (by decide) kz) ?_
      show own_Fin p e below G (T92.setTop (mkF m 127 #[.val (.int p0), .val (.int p1), .val (.int p2), .val (.int p3), .val (.int p4), .val (.int (1 : Int32)), .val (.int (f1 p1)), .val (.int (f1 p2)), .val (.int (f1 p3)), .val (.int (f1 p4)), .val (.ref b35), .val (.ref b86), .val (.long ((0 : Int64) + ((f1 p1).toInt64))), .second] []))
      refine own_to (fun _ kz => XS.iload X92.here hx rfl (hb hby at_127) rfl  kz) ?_
      show own_Fin p e below G (T92.setTop (mkF m 129 #[.val (.int p0), .val (.int p1), .val (.int p2), .val (.int p3), .val (.int p4), .val (.int (1 : Int32)), .val (.int (f1 p1)), .val (.int (f1 p2)), .val (.int (f1 p3)), .val (.int (f1 p4)), .val (.ref b35), .val (.ref b86), .val (.long ((0 : Int64) + ((f1 p1).toInt64))), .second] [(.int (1 : Int32))]))
      refine own_to (fun _ kz => XS.iconst X92.here hx rfl (hb hby at_129) kz) ?_
      show own_Fin p e below G (T92.setTop (mkF m 130 #[.val (.int p0), .val (.int p1), .val (.int p2), .val (.int p3), .val (.int p4), .val (.int (1 : Int32)), .val (.int (f1 p1)), .val (.int (f1 p2)), .val (.int (f1 p3)), .val (.int (f1 p4)), .val (.ref b35), .val (.ref b86), .val (.long ((0 : Int64) + ((f1 p1).toInt64))), .second] [(.int (2 : Int32)), (.int (1 : Int32))]))
      have hc130 : ¬ ((2 : Int32) < (1 : Int32)) := by decide
      refine own_to (fun _ kz => XS.icmpYes X92.here hx rfl (pc0 := 130) (pc' := 141) rfl (hb hby at_130) rfl (flt hc130).2.2.2 (by decide) (by decide) kz) ?_
      show own_Fin p e below G (T92.setTop (mkF m 141 #[.val (.int p0), .val (.int p1), .val (.int p2), .val (.int p3), .val (.int p4), .val (.int (1 : Int32)), .val (.int (f1 p1)), .val (.int (f1 p2)), .val (.int (f1 p3)), .val (.int (f1 p4)), .val (.ref b35), .val (.ref b86), .val (.long ((0 : Int64) + ((f1 p1).toInt64))), .second] []))
      refine own_to (fun _ kz => XS.iload X92.here hx rfl (hb hby at_141) rfl  kz) ?_
      show own_Fin p e below G (T92.setTop (mkF m 143 #[.val (.int p0), .val (.int p1), .val (.int p2), .val (.int p3), .val (.int p4), .val (.int (1 : Int32)), .val (.int (f1 p1)), .val (.int (f1 p2)), .val (.int (f1 p3)), .val (.int (f1 p4)), .val (.ref b35), .val (.ref b86), .val (.long ((0 : Int64) + ((f1 p1).toInt64))), .second] [(.int (1 : Int32))]))
      refine own_to (fun _ kz => XS.iconst X92.here hx rfl (hb hby at_143) kz) ?_
      show own_Fin p e below G (T92.setTop (mkF m 144 #[.val (.int p0), .val (.int p1), .val (.int p2), .val (.int p3), .val (.int p4), .val (.int (1 : Int32)), .val (.int (f1 p1)), .val (.int (f1 p2)), .val (.int (f1 p3)), .val (.int (f1 p4)), .val (.ref b35), .val (.ref b86), .val (.long ((0 : Int64) + ((f1 p1).toInt64))), .second] [(.int (3 : Int32)), (.int (1 : Int32))]))
      have hc144 : ¬ ((3 : Int32) < (1 : Int32)) := by decide
      refine own_to (fun _ kz => XS.icmpYes X92.here hx rfl (pc0 := 144) (pc' := 155) rfl (hb hby at_144) rfl (flt hc144).2.2.2 (by decide) (by decide) kz) ?_
      show own_Fin p e below G (T92.setTop (mkF m 155 #[.val (.int p0), .val (.int p1), .val (.int p2), .val (.int p3), .val (.int p4), .val (.int (1 : Int32)), .val (.int (f1 p1)), .val (.int (f1 p2)), .val (.int (f1 p3)), .val (.int (f1 p4)), .val (.ref b35), .val (.ref b86), .val (.long ((0 : Int64) + ((f1 p1).toInt64))), .second] []))
      refine own_to (fun _ kz => XS.iload X92.here hx rfl (hb hby at_155) rfl  kz) ?_
      show own_Fin p e below G (T92.setTop (mkF m 157 #[.val (.int p0), .val (.int p1), .val (.int p2), .val (.int p3), .val (.int p4), .val (.int (1 : Int32)), .val (.int (f1 p1)), .val (.int (f1 p2)), .val (.int (f1 p3)), .val (.int (f1 p4)), .val (.ref b35), .val (.ref b86), .val (.long ((0 : Int64) + ((f1 p1).toInt64))), .second] [(.int (1 : Int32))]))
      have hc157 : (0 : Int32) < (1 : Int32) := by decide
      refine own_to (fun _ kz => XS.ifNo X92.here hx rfl (hb hby at_157) rfl ((if0 _ _).trans (tlt hc157).2.2.2) kz) ?_
      show own_Fin p e below G (T92.setTop (mkF m 160 #[.val (.int p0), .val (.int p1), .val (.int p2), .val (.int p3), .val (.int p4), .val (.int (1 : Int32)), .val (.int (f1 p1)), .val (.int (f1 p2)), .val (.int (f1 p3)), .val (.int (f1 p4)), .val (.ref b35), .val (.ref b86), .val (.long ((0 : Int64) + ((f1 p1).toInt64))), .second] []))
      refine own_to (fun _ kz => XS.aload X92.here hx rfl (hb hby at_160) rfl (rfl)  kz) ?_
      show own_Fin p e below G (T92.setTop (mkF m 162 #[.val (.int p0), .val (.int p1), .val (.int p2), .val (.int p3), .val (.int p4), .val (.int (1 : Int32)), .val (.int (f1 p1)), .val (.int (f1 p2)), .val (.int (f1 p3)), .val (.int (f1 p4)), .val (.ref b35), .val (.ref b86), .val (.long ((0 : Int64) + ((f1 p1).toInt64))), .second] [(.ref b35)]))
      refine own_to (fun _ kz => XS.iconst X92.here hx rfl (hb hby at_162) kz) ?_
      show own_Fin p e below G (T92.setTop (mkF m 163 #[.val (.int p0), .val (.int p1), .val (.int p2), .val (.int p3), .val (.int p4), .val (.int (1 : Int32)), .val (.int (f1 p1)), .val (.int (f1 p2)), .val (.int (f1 p3)), .val (.int (f1 p4)), .val (.ref b35), .val (.ref b86), .val (.long ((0 : Int64) + ((f1 p1).toInt64))), .second] [(.int (0 : Int32)), (.ref b35)]))
      refine own_to (fun _ kz => XS.sipush X92.here hx rfl (hb hby at_163) kz) ?_
      show own_Fin p e below G (T92.setTop (mkF m 166 #[.val (.int p0), .val (.int p1), .val (.int p2), .val (.int p3), .val (.int p4), .val (.int (1 : Int32)), .val (.int (f1 p1)), .val (.int (f1 p2)), .val (.int (f1 p3)), .val (.int (f1 p4)), .val (.ref b35), .val (.ref b86), .val (.long ((0 : Int64) + ((f1 p1).toInt64))), .second] [(.int (320 : Int32)), (.int (0 : Int32)), (.ref b35)]))
      refine own_to (fun _ kz => XS.iload X92.here hx rfl (hb hby at_166) rfl  kz) ?_
      show own_Fin p e below G (T92.setTop (mkF m 168 #[.val (.int p0), .val (.int p1), .val (.int p2), .val (.int p3), .val (.int p4), .val (.int (1 : Int32)), .val (.int (f1 p1)), .val (.int (f1 p2)), .val (.int (f1 p3)), .val (.int (f1 p4)), .val (.ref b35), .val (.ref b86), .val (.long ((0 : Int64) + ((f1 p1).toInt64))), .second] [(.int (f1 p1)), (.int (320 : Int32)), (.int (0 : Int32)), (.ref b35)]))
      refine own_to (fun _ kz => XS.isub X92.here hx rfl (hb hby at_168) rfl kz) ?_
      show own_Fin p e below G (T92.setTop (mkF m 169 #[.val (.int p0), .val (.int p1), .val (.int p2), .val (.int p3), .val (.int p4), .val (.int (1 : Int32)), .val (.int (f1 p1)), .val (.int (f1 p2)), .val (.int (f1 p3)), .val (.int (f1 p4)), .val (.ref b35), .val (.ref b86), .val (.long ((0 : Int64) + ((f1 p1).toInt64))), .second] [(.int ((320 : Int32) - (f1 p1))), (.int (0 : Int32)), (.ref b35)]))
      have V49_at_169 : own_AV Value.int Z T92.heap b35 .int 1 (own_upd (fun _ => (0 : Int32)) 0 (f1 p1)) := (V49_at_92.keep Kp92 (ninS ne_b35_b86'1 nin0))
      obtain ⟨nn169, cl169, Ar169, Sz169, Hs169⟩ := V49_at_169
      obtain ⟨T169, h169, X169, e169, W169, st169⟩ := stI X92 hx hZ rfl Ar169 (j := (0 : Int32)) (own_in Sz169 (by decide) rfl (by decide)) (g := (mkF m 169 #[.val (.int p0), .val (.int p1), .val (.int p2), .val (.int p3), .val (.int p4), .val (.int (1 : Int32)), .val (.int (f1 p1)), .val (.int (f1 p2)), .val (.int (f1 p3)), .val (.int (f1 p4)), .val (.ref b35), .val (.ref b86), .val (.long ((0 : Int64) + ((f1 p1).toInt64))), .second] [(.int ((320 : Int32) - (f1 p1))), (.int (0 : Int32)), (.ref b35)])) rfl rfl (hb hby at_169)
      refine own_to st169 ?_
      have V169 : own_AV Value.int Z h169 b35 .int 1 (own_upd (own_upd (fun _ => (0 : Int32)) 0 (f1 p1)) 0 ((320 : Int32) - (f1 p1))) := own_AV.set nn169 Ar169 Sz169 Hs169 W169 rfl
      have N169 := Fr.snoc X169 N92 g_b35
      show own_Fin p e below G (T169.setTop (mkF m 170 #[.val (.int p0), .val (.int p1), .val (.int p2), .val (.int p3), .val (.int p4), .val (.int (1 : Int32)), .val (.int (f1 p1)), .val (.int (f1 p2)), .val (.int (f1 p3)), .val (.int (f1 p4)), .val (.ref b35), .val (.ref b86), .val (.long ((0 : Int64) + ((f1 p1).toInt64))), .second] []))
      refine own_to (fun _ kz => XS.aload X169.here hx rfl (hb hby at_170) rfl (rfl)  kz) ?_
      show own_Fin p e below G (T169.setTop (mkF m 172 #[.val (.int p0), .val (.int p1), .val (.int p2), .val (.int p3), .val (.int p4), .val (.int (1 : Int32)), .val (.int (f1 p1)), .val (.int (f1 p2)), .val (.int (f1 p3)), .val (.int (f1 p4)), .val (.ref b35), .val (.ref b86), .val (.long ((0 : Int64) + ((f1 p1).toInt64))), .second] [(.ref b86)]))
      have PF92_at_172 : Fld Z h169 b86 "wavegauge/model/Capacities" "wavelengths" "[I" (.ref b92) := (PF92.other W169 (Or.inl (Ne.symm ne_b35_b86'1)))
      have PV92_at_172 : own_AV Value.int Z h169 b92 .int 1 (own_upd (fun _ => (0 : Int32)) 0 (f1 p1)) := (PV92.other W169 (Ne.symm ne_b35_b92'1))
      have Zz_172_Kp92'1 := Nat.le_trans Z_92'1 Kp92.1
      have Zz_172_W169 := Nat.le_trans Zz_172_Kp92'1 (Nat.le_of_eq (Wr.size W169).symm)
      have Z_172'1 : n0 ≤ h169.size := Zz_172_W169
      have PE92_at_172 : Exa Z h169 b86 "wavegauge/model/Capacities" := (PE92.wr W169)
      obtain ⟨cq172, kq172, qa172, qb172, qc172⟩ := isOf hZ e169 PE92_at_172
      obtain ⟨_, _, ⟨T172, L172, k172, n172⟩, -, X172, ⟨Lc172, hQ172, l172, y172, z172⟩, st172⟩ := X169.virtualBack hx (y := (⟨"wavegauge/model/Capacities", "total", "()J"⟩ : MethodName)) (z := (⟨"wavegauge/model/Capacities", "total", "()J"⟩ : MethodName)) hown (mvT hZ (hw _ (List.mem_of_getElem? (i := 26) rfl))) (mvT hZ (hw _ (List.mem_of_getElem? (i := 27) rfl))) (notFace_of_selects (args := #[]) (mvT hZ (hw _ (List.mem_of_getElem? (i := 29) rfl)))) (mvT hZ (hw _ (List.mem_of_getElem? (i := 29) rfl))) (mvT hZ (hw _ (List.mem_of_getElem? (i := 28) rfl))) (by decide) (backOf (W := 0) (rm4 l Z a0 hw [] b86 1 (own_upd (fun _ => (0 : Int32)) 0 (f1 p1)) b92 h169 n0 Z_172'1 PF92_at_172 PV92_at_172) hZ (hw _ (List.mem_of_getElem? (i := 30) rfl)) (hw _ (List.mem_of_getElem? (i := 8) rfl)) (by decide) (by decide)) qa172 qc172 (g := (mkF m 172 #[.val (.int p0), .val (.int p1), .val (.int p2), .val (.int p3), .val (.int p4), .val (.int (1 : Int32)), .val (.int (f1 p1)), .val (.int (f1 p2)), .val (.int (f1 p3)), .val (.int (f1 p4)), .val (.ref b35), .val (.ref b86), .val (.long ((0 : Int64) + ((f1 p1).toInt64))), .second] [(.ref b86)])) rfl (by rw [hml]; rfl) (Steps.refl _) (argsL := []) (rest := []) (lenOf own_pd2 rfl) rfl (by show 2 * 0 + _ ≤ _; exact Nat.le_of_eq rfl) (hb hby at_172) (fun _ _ => ⟨rfl, e169, (by decide : 3 + 0 ≤ _), (by decide : 6 + 0 ≤ _)⟩)
      dsimp only [Pt.U, Pt.locs, Pt.cells, Pt.slots] at X172 l172 y172 z172 st172 hQ172
      subst l172 y172 z172
      obtain ⟨rfl, N172q, e172⟩ := hQ172
      have N172 := Fr.app N169 N172q
      refine own_via st172 ?_
      show own_Fin p e below G (T172.setTop (mkF m 175 #[.val (.int p0), .val (.int p1), .val (.int p2), .val (.int p3), .val (.int p4), .val (.int (1 : Int32)), .val (.int (f1 p1)), .val (.int (f1 p2)), .val (.int (f1 p3)), .val (.int (f1 p4)), .val (.ref b35), .val (.ref b86), .val (.long ((0 : Int64) + ((f1 p1).toInt64))), .second] [(.long (own_sumI (own_upd (fun _ => (0 : Int32)) 0 (f1 p1)) 1))]))
      refine own_to (fun _ kz => XS.lload X172.here hx rfl (hb hby at_175) rfl  kz) ?_
      show own_Fin p e below G (T172.setTop (mkF m 177 #[.val (.int p0), .val (.int p1), .val (.int p2), .val (.int p3), .val (.int p4), .val (.int (1 : Int32)), .val (.int (f1 p1)), .val (.int (f1 p2)), .val (.int (f1 p3)), .val (.int (f1 p4)), .val (.ref b35), .val (.ref b86), .val (.long ((0 : Int64) + ((f1 p1).toInt64))), .second] [(.long ((0 : Int64) + ((f1 p1).toInt64))), (.long (own_sumI (own_upd (fun _ => (0 : Int32)) 0 (f1 p1)) 1))]))
      refine own_to (fun _ kz => XS.lcmp X172.here hx rfl (hb hby at_177) rfl kz) ?_
      show own_Fin p e below G (T172.setTop (mkF m 178 #[.val (.int p0), .val (.int p1), .val (.int p2), .val (.int p3), .val (.int p4), .val (.int (1 : Int32)), .val (.int (f1 p1)), .val (.int (f1 p2)), .val (.int (f1 p3)), .val (.int (f1 p4)), .val (.ref b35), .val (.ref b86), .val (.long ((0 : Int64) + ((f1 p1).toInt64))), .second] [(.int (lcmpW (own_sumI (own_upd (fun _ => (0 : Int32)) 0 (f1 p1)) 1) ((0 : Int64) + ((f1 p1).toInt64))))]))
      have hc178 : (own_sumI (own_upd (fun _ => (0 : Int32)) 0 (f1 p1)) 1) = ((0 : Int64) + ((f1 p1).toInt64)) := (by simp [own_sumI, own_upd])
      refine own_to (fun _ kz => XS.ifNo X172.here hx rfl (hb hby at_178) rfl ((if0 _ _).trans (teq ((lw_eq _ _).mpr hc178)).2) kz) ?_
      show own_Fin p e below G (T172.setTop (mkF m 181 #[.val (.int p0), .val (.int p1), .val (.int p2), .val (.int p3), .val (.int p4), .val (.int (1 : Int32)), .val (.int (f1 p1)), .val (.int (f1 p2)), .val (.int (f1 p3)), .val (.int (f1 p4)), .val (.ref b35), .val (.ref b86), .val (.long ((0 : Int64) + ((f1 p1).toInt64))), .second] []))
      refine own_to (fun _ kz => XS.iconst X172.here hx rfl (hb hby at_181) kz) ?_
      show own_Fin p e below G (T172.setTop (mkF m 182 #[.val (.int p0), .val (.int p1), .val (.int p2), .val (.int p3), .val (.int p4), .val (.int (1 : Int32)), .val (.int (f1 p1)), .val (.int (f1 p2)), .val (.int (f1 p3)), .val (.int (f1 p4)), .val (.ref b35), .val (.ref b86), .val (.long ((0 : Int64) + ((f1 p1).toInt64))), .second] [(.int (1 : Int32))]))
      refine own_to (fun _ kz => XS.goto X172.here hx rfl (pc0 := 182) (pc' := 186) rfl (hb hby at_182) (by decide) (by decide) kz) ?_
      show own_Fin p e below G (T172.setTop (mkF m 186 #[.val (.int p0), .val (.int p1), .val (.int p2), .val (.int p3), .val (.int p4), .val (.int (1 : Int32)), .val (.int (f1 p1)), .val (.int (f1 p2)), .val (.int (f1 p3)), .val (.int (f1 p4)), .val (.ref b35), .val (.ref b86), .val (.long ((0 : Int64) + ((f1 p1).toInt64))), .second] [(.int (1 : Int32))]))
      exact own_retN X172 hx hlk hG (t := .boolean) Bd.returns (by simp) (hb hby at_186) (by decide) (by decide) (by rw [e172]; exact ⟨rfl, N172, trivial⟩)
    · show own_Fin p e below G (T28.setTop (mkF m 33 #[.val (.int p0), .val (.int p1), .val (.int p2), .val (.int p3), .val (.int p4), .val (.int (2 : Int32)), .val (.int (f1 p1)), .val (.int (f1 p2)), .val (.int (f1 p3)), .val (.int (f1 p4)), .unset, .unset, .unset, .unset] []))
      refine own_to (fun _ kz => XS.iload X28.here hx rfl (hb hby at_33) rfl  kz) ?_
      show own_Fin p e below G (T28.setTop (mkF m 35 #[.val (.int p0), .val (.int p1), .val (.int p2), .val (.int p3), .val (.int p4), .val (.int (2 : Int32)), .val (.int (f1 p1)), .val (.int (f1 p2)), .val (.int (f1 p3)), .val (.int (f1 p4)), .unset, .unset, .unset, .unset] [(.int (2 : Int32))]))
      obtain ⟨T35, h35, k35, X35, e35, E35, A35, Xa35, st35⟩ := newPE X28 hx hZ (hw _ (List.mem_of_getElem? (i := 5) rfl)) e28 (g := (mkF m 35 #[.val (.int p0), .val (.int p1), .val (.int p2), .val (.int p3), .val (.int p4), .val (.int (2 : Int32)), .val (.int (f1 p1)), .val (.int (f1 p2)), .val (.int (f1 p3)), .val (.int (f1 p4)), .unset, .unset, .unset, .unset] [(.int (2 : Int32))])) rfl (hb hby at_35) rfl (by decide) (cap := 2) (by decide) (by decide) (by decide) (by decide) (ad := "[I") (by decide)
      obtain ⟨b35, g35⟩ : ∃ z, z = h0.size := ⟨_, rfl⟩
      rw [← g35] at A35 Xa35 st35
      refine own_to st35 ?_
      have g_b35 : n0 ≤ b35 := Nat.le_trans Z0 (Nat.le_of_eq g35.symm)
      have V35 : own_AV Value.int Z h35 b35 .int 2 (fun _ => (0 : Int32)) := own_AV.new A35 (by decide) (by decide) (fun _ => rfl)
      show own_Fin p e below G (T35.setTop (mkF m 37 #[.val (.int p0), .val (.int p1), .val (.int p2), .val (.int p3), .val (.int p4), .val (.int (2 : Int32)), .val (.int (f1 p1)), .val (.int (f1 p2)), .val (.int (f1 p3)), .val (.int (f1 p4)), .unset, .unset, .unset, .unset] [(.ref b35)]))
      refine own_to (fun _ kz => XS.astore X35.here hx rfl (hb hby at_37) rfl (rfl) (l' := #[.val (.int p0), .val (.int p1), .val (.int p2), .val (.int p3), .val (.int p4), .val (.int (2 : Int32)), .val (.int (f1 p1)), .val (.int (f1 p2)), .val (.int (f1 p3)), .val (.int (f1 p4)), .val (.ref b35), .unset, .unset, .unset]) rfl kz) ?_
      show own_Fin p e below G (T35.setTop (mkF m 39 #[.val (.int p0), .val (.int p1), .val (.int p2), .val (.int p3), .val (.int p4), .val (.int (2 : Int32)), .val (.int (f1 p1)), .val (.int (f1 p2)), .val (.int (f1 p3)), .val (.int (f1 p4)), .val (.ref b35), .unset, .unset, .unset] []))
      refine own_to (fun _ kz => XS.iload X35.here hx rfl (hb hby at_39) rfl  kz) ?_
      show own_Fin p e below G (T35.setTop (mkF m 41 #[.val (.int p0), .val (.int p1), .val (.int p2), .val (.int p3), .val (.int p4), .val (.int (2 : Int32)), .val (.int (f1 p1)), .val (.int (f1 p2)), .val (.int (f1 p3)), .val (.int (f1 p4)), .val (.ref b35), .unset, .unset, .unset] [(.int (2 : Int32))]))
      have hc41 : (0 : Int32) < (2 : Int32) := by decide
      refine own_to (fun _ kz => XS.ifNo X35.here hx rfl (hb hby at_41) rfl ((if0 _ _).trans (tlt hc41).2.2.2) kz) ?_
      show own_Fin p e below G (T35.setTop (mkF m 44 #[.val (.int p0), .val (.int p1), .val (.int p2), .val (.int p3), .val (.int p4), .val (.int (2 : Int32)), .val (.int (f1 p1)), .val (.int (f1 p2)), .val (.int (f1 p3)), .val (.int (f1 p4)), .val (.ref b35), .unset, .unset, .unset] []))
      refine own_to (fun _ kz => XS.aload X35.here hx rfl (hb hby at_44) rfl (rfl)  kz) ?_
      show own_Fin p e below G (T35.setTop (mkF m 46 #[.val (.int p0), .val (.int p1), .val (.int p2), .val (.int p3), .val (.int p4), .val (.int (2 : Int32)), .val (.int (f1 p1)), .val (.int (f1 p2)), .val (.int (f1 p3)), .val (.int (f1 p4)), .val (.ref b35), .unset, .unset, .unset] [(.ref b35)]))
      refine own_to (fun _ kz => XS.iconst X35.here hx rfl (hb hby at_46) kz) ?_
      show own_Fin p e below G (T35.setTop (mkF m 47 #[.val (.int p0), .val (.int p1), .val (.int p2), .val (.int p3), .val (.int p4), .val (.int (2 : Int32)), .val (.int (f1 p1)), .val (.int (f1 p2)), .val (.int (f1 p3)), .val (.int (f1 p4)), .val (.ref b35), .unset, .unset, .unset] [(.int (0 : Int32)), (.ref b35)]))
      refine own_to (fun _ kz => XS.iload X35.here hx rfl (hb hby at_47) rfl  kz) ?_
      show own_Fin p e below G (T35.setTop (mkF m 49 #[.val (.int p0), .val (.int p1), .val (.int p2), .val (.int p3), .val (.int p4), .val (.int (2 : Int32)), .val (.int (f1 p1)), .val (.int (f1 p2)), .val (.int (f1 p3)), .val (.int (f1 p4)), .val (.ref b35), .unset, .unset, .unset] [(.int (f1 p1)), (.int (0 : Int32)), (.ref b35)]))
      obtain ⟨nn49, cl49, Ar49, Sz49, Hs49⟩ := V35
      obtain ⟨T49, h49, X49, e49, W49, st49⟩ := stI X35 hx hZ e35 Ar49 (j := (0 : Int32)) (own_in Sz49 (by decide) rfl (by decide)) (g := (mkF m 49 #[.val (.int p0), .val (.int p1), .val (.int p2), .val (.int p3), .val (.int p4), .val (.int (2 : Int32)), .val (.int (f1 p1)), .val (.int (f1 p2)), .val (.int (f1 p3)), .val (.int (f1 p4)), .val (.ref b35), .unset, .unset, .unset] [(.int (f1 p1)), (.int (0 : Int32)), (.ref b35)])) rfl rfl (hb hby at_49)
      refine own_to st49 ?_
      have V49 : own_AV Value.int Z h49 b35 .int 2 (own_upd (fun _ => (0 : Int32)) 0 (f1 p1)) := own_AV.set nn49 Ar49 Sz49 Hs49 W49 rfl
      have N49 := Fr.snoc X49 N28 g_b35
      show own_Fin p e below G (T49.setTop (mkF m 50 #[.val (.int p0), .val (.int p1), .val (.int p2), .val (.int p3), .val (.int p4), .val (.int (2 : Int32)), .val (.int (f1 p1)), .val (.int (f1 p2)), .val (.int (f1 p3)), .val (.int (f1 p4)), .val (.ref b35), .unset, .unset, .unset] []))
      refine own_to (fun _ kz => XS.iload X49.here hx rfl (hb hby at_50) rfl  kz) ?_
      show own_Fin p e below G (T49.setTop (mkF m 52 #[.val (.int p0), .val (.int p1), .val (.int p2), .val (.int p3), .val (.int p4), .val (.int (2 : Int32)), .val (.int (f1 p1)), .val (.int (f1 p2)), .val (.int (f1 p3)), .val (.int (f1 p4)), .val (.ref b35), .unset, .unset, .unset] [(.int (2 : Int32))]))
      refine own_to (fun _ kz => XS.iconst X49.here hx rfl (hb hby at_52) kz) ?_
      show own_Fin p e below G (T49.setTop (mkF m 53 #[.val (.int p0), .val (.int p1), .val (.int p2), .val (.int p3), .val (.int p4), .val (.int (2 : Int32)), .val (.int (f1 p1)), .val (.int (f1 p2)), .val (.int (f1 p3)), .val (.int (f1 p4)), .val (.ref b35), .unset, .unset, .unset] [(.int (1 : Int32)), (.int (2 : Int32))]))
      have hc53 : (1 : Int32) < (2 : Int32) := by decide
      refine own_to (fun _ kz => XS.icmpNo X49.here hx rfl (hb hby at_53) rfl (tlt hc53).2.2.2 kz) ?_
      show own_Fin p e below G (T49.setTop (mkF m 56 #[.val (.int p0), .val (.int p1), .val (.int p2), .val (.int p3), .val (.int p4), .val (.int (2 : Int32)), .val (.int (f1 p1)), .val (.int (f1 p2)), .val (.int (f1 p3)), .val (.int (f1 p4)), .val (.ref b35), .unset, .unset, .unset] []))
      refine own_to (fun _ kz => XS.aload X49.here hx rfl (hb hby at_56) rfl (rfl)  kz) ?_
      show own_Fin p e below G (T49.setTop (mkF m 58 #[.val (.int p0), .val (.int p1), .val (.int p2), .val (.int p3), .val (.int p4), .val (.int (2 : Int32)), .val (.int (f1 p1)), .val (.int (f1 p2)), .val (.int (f1 p3)), .val (.int (f1 p4)), .val (.ref b35), .unset, .unset, .unset] [(.ref b35)]))
      refine own_to (fun _ kz => XS.iconst X49.here hx rfl (hb hby at_58) kz) ?_
      show own_Fin p e below G (T49.setTop (mkF m 59 #[.val (.int p0), .val (.int p1), .val (.int p2), .val (.int p3), .val (.int p4), .val (.int (2 : Int32)), .val (.int (f1 p1)), .val (.int (f1 p2)), .val (.int (f1 p3)), .val (.int (f1 p4)), .val (.ref b35), .unset, .unset, .unset] [(.int (1 : Int32)), (.ref b35)]))
      refine own_to (fun _ kz => XS.iload X49.here hx rfl (hb hby at_59) rfl  kz) ?_
      show own_Fin p e below G (T49.setTop (mkF m 61 #[.val (.int p0), .val (.int p1), .val (.int p2), .val (.int p3), .val (.int p4), .val (.int (2 : Int32)), .val (.int (f1 p1)), .val (.int (f1 p2)), .val (.int (f1 p3)), .val (.int (f1 p4)), .val (.ref b35), .unset, .unset, .unset] [(.int (f1 p2)), (.int (1 : Int32)), (.ref b35)]))
      obtain ⟨nn61, cl61, Ar61, Sz61, Hs61⟩ := V49
      obtain ⟨T61, h61, X61, e61, W61, st61⟩ := stI X49 hx hZ e49 Ar61 (j := (1 : Int32)) (own_in Sz61 (by decide) rfl (by decide)) (g := (mkF m 61 #[.val (.int p0), .val (.int p1), .val (.int p2), .val (.int p3), .val (.int p4), .val (.int (2 : Int32)), .val (.int (f1 p1)), .val (.int (f1 p2)), .val (.int (f1 p3)), .val (.int (f1 p4)), .val (.ref b35), .unset, .unset, .unset] [(.int (f1 p2)), (.int (1 : Int32)), (.ref b35)])) rfl rfl (hb hby at_61)
      refine own_to st61 ?_
      have V61 : own_AV Value.int Z h61 b35 .int 2 (own_upd (own_upd (fun _ => (0 : Int32)) 0 (f1 p1)) 1 (f1 p2)) := own_AV.set nn61 Ar61 Sz61 Hs61 W61 rfl
      have N61 := Fr.snoc X61 N49 g_b35
      show own_Fin p e below G (T61.setTop (mkF m 62 #[.val (.int p0), .val (.int p1), .val (.int p2), .val (.int p3), .val (.int p4), .val (.int (2 : Int32)), .val (.int (f1 p1)), .val (.int (f1 p2)), .val (.int (f1 p3)), .val (.int (f1 p4)), .val (.ref b35), .unset, .unset, .unset] []))
      refine own_to (fun _ kz => XS.iload X61.here hx rfl (hb hby at_62) rfl  kz) ?_
      show own_Fin p e below G (T61.setTop (mkF m 64 #[.val (.int p0), .val (.int p1), .val (.int p2), .val (.int p3), .val (.int p4), .val (.int (2 : Int32)), .val (.int (f1 p1)), .val (.int (f1 p2)), .val (.int (f1 p3)), .val (.int (f1 p4)), .val (.ref b35), .unset, .unset, .unset] [(.int (2 : Int32))]))
      refine own_to (fun _ kz => XS.iconst X61.here hx rfl (hb hby at_64) kz) ?_
      show own_Fin p e below G (T61.setTop (mkF m 65 #[.val (.int p0), .val (.int p1), .val (.int p2), .val (.int p3), .val (.int p4), .val (.int (2 : Int32)), .val (.int (f1 p1)), .val (.int (f1 p2)), .val (.int (f1 p3)), .val (.int (f1 p4)), .val (.ref b35), .unset, .unset, .unset] [(.int (2 : Int32)), (.int (2 : Int32))]))
      have hc65 : ¬ ((2 : Int32) < (2 : Int32)) := by decide
      refine own_to (fun _ kz => XS.icmpYes X61.here hx rfl (pc0 := 65) (pc' := 74) rfl (hb hby at_65) rfl (flt hc65).2.2.2 (by decide) (by decide) kz) ?_
      show own_Fin p e below G (T61.setTop (mkF m 74 #[.val (.int p0), .val (.int p1), .val (.int p2), .val (.int p3), .val (.int p4), .val (.int (2 : Int32)), .val (.int (f1 p1)), .val (.int (f1 p2)), .val (.int (f1 p3)), .val (.int (f1 p4)), .val (.ref b35), .unset, .unset, .unset] []))
      refine own_to (fun _ kz => XS.iload X61.here hx rfl (hb hby at_74) rfl  kz) ?_
      show own_Fin p e below G (T61.setTop (mkF m 76 #[.val (.int p0), .val (.int p1), .val (.int p2), .val (.int p3), .val (.int p4), .val (.int (2 : Int32)), .val (.int (f1 p1)), .val (.int (f1 p2)), .val (.int (f1 p3)), .val (.int (f1 p4)), .val (.ref b35), .unset, .unset, .unset] [(.int (2 : Int32))]))
      refine own_to (fun _ kz => XS.iconst X61.here hx rfl (hb hby at_76) kz) ?_
      show own_Fin p e below G (T61.setTop (mkF m 77 #[.val (.int p0), .val (.int p1), .val (.int p2), .val (.int p3), .val (.int p4), .val (.int (2 : Int32)), .val (.int (f1 p1)), .val (.int (f1 p2)), .val (.int (f1 p3)), .val (.int (f1 p4)), .val (.ref b35), .unset, .unset, .unset] [(.int (3 : Int32)), (.int (2 : Int32))]))
      have hc77 : ¬ ((3 : Int32) < (2 : Int32)) := by decide
      refine own_to (fun _ kz => XS.icmpYes X61.here hx rfl (pc0 := 77) (pc' := 86) rfl (hb hby at_77) rfl (flt hc77).2.2.2 (by decide) (by decide) kz) ?_
      show own_Fin p e below G (T61.setTop (mkF m 86 #[.val (.int p0), .val (.int p1), .val (.int p2), .val (.int p3), .val (.int p4), .val (.int (2 : Int32)), .val (.int (f1 p1)), .val (.int (f1 p2)), .val (.int (f1 p3)), .val (.int (f1 p4)), .val (.ref b35), .unset, .unset, .unset] []))
      have Zz_86_E35'2 := Nat.le_trans Z0 E35.1
      have Zz_86_W49'1 := Nat.le_trans Zz_86_E35'2 (Nat.le_of_eq (Wr.size W49).symm)
      have Zz_86_W61 := Nat.le_trans Zz_86_W49'1 (Nat.le_of_eq (Wr.size W61).symm)
      have Z_86'2 : n0 ≤ h61.size := Zz_86_W61
      obtain ⟨T86, h86, X86, e86, E86, A86, D86, -, st86⟩ := newO X61 hx hZ hown (hw _ (List.mem_of_getElem? (i := 6) rfl)) (hw _ (List.mem_of_getElem? (i := 7) rfl)) (hw _ (List.mem_of_getElem? (i := 8) rfl)) e61 (g := (mkF m 86 #[.val (.int p0), .val (.int p1), .val (.int p2), .val (.int p3), .val (.int p4), .val (.int (2 : Int32)), .val (.int (f1 p1)), .val (.int (f1 p2)), .val (.int (f1 p3)), .val (.int (f1 p4)), .val (.ref b35), .unset, .unset, .unset] [])) rfl (hb hby at_86) (by decide) (by decide)
      obtain ⟨b86, g86⟩ : ∃ z, z = h61.size := ⟨_, rfl⟩
      rw [← g86] at A86 D86 st86
      refine own_to st86 ?_
      have ne_b35_b86'2 : b35 ≠ b86 := Nat.ne_of_lt (Nat.lt_of_lt_of_le V61.lt (Nat.le_of_eq g86.symm))
      have g_b86 : n0 ≤ b86 := Nat.le_trans Z_86'2 (Nat.le_of_eq g86.symm)
      have F_wavelengths_b86'2 : Fld Z h86 b86 "wavegauge/model/Capacities" "wavelengths" "[I" .null := D86 (Or.inr (hw _ (List.mem_of_getElem? (i := 25) rfl))) (ty := (.array .int)) (by decide)
      show own_Fin p e below G (T86.setTop (mkF m 89 #[.val (.int p0), .val (.int p1), .val (.int p2), .val (.int p3), .val (.int p4), .val (.int (2 : Int32)), .val (.int (f1 p1)), .val (.int (f1 p2)), .val (.int (f1 p3)), .val (.int (f1 p4)), .val (.ref b35), .unset, .unset, .unset] [(.ref b86)]))
      refine own_to (fun _ kz => XS.dup X86.here hx rfl (hb hby at_89) rfl rfl kz) ?_
      show own_Fin p e below G (T86.setTop (mkF m 90 #[.val (.int p0), .val (.int p1), .val (.int p2), .val (.int p3), .val (.int p4), .val (.int (2 : Int32)), .val (.int (f1 p1)), .val (.int (f1 p2)), .val (.int (f1 p3)), .val (.int (f1 p4)), .val (.ref b35), .unset, .unset, .unset] [(.ref b86), (.ref b86)]))
      refine own_to (fun _ kz => XS.aload X86.here hx rfl (hb hby at_90) rfl (rfl)  kz) ?_
      show own_Fin p e below G (T86.setTop (mkF m 92 #[.val (.int p0), .val (.int p1), .val (.int p2), .val (.int p3), .val (.int p4), .val (.int (2 : Int32)), .val (.int (f1 p1)), .val (.int (f1 p2)), .val (.int (f1 p3)), .val (.int (f1 p4)), .val (.ref b35), .unset, .unset, .unset] [(.ref b35), (.ref b86), (.ref b86)]))
      have V61_at_92 : own_AV Value.int Z h86 b35 .int 2 (own_upd (own_upd (fun _ => (0 : Int32)) 0 (f1 p1)) 1 (f1 p2)) := (V61.ext E86)
      have Xa35_at_92'2 : Exa Z h86 b35 "[I" := (((Xa35.wr W49).wr W61).ext E86)
      have Zz_92_E86'2 := Nat.le_trans Z_86'2 E86.1
      have Z_92'2 : n0 ≤ h86.size := Zz_92_E86'2
      obtain ⟨_, _, ⟨T92, L92, k92, n92⟩, -, X92, ⟨Lc92, hQ92, l92, y92, z92⟩, st92⟩ := X86.specialBack hx (y := (⟨"wavegauge/model/Capacities", "<init>", "([I)V"⟩ : MethodName)) rfl hown (mvT hZ (hw _ (List.mem_of_getElem? (i := 9) rfl))) (mvT hZ (hw _ (List.mem_of_getElem? (i := 10) rfl))) (mvT hZ (hw _ (List.mem_of_getElem? (i := 11) rfl))) (by decide) (backOf (W := 1) (rm2 l Z a0 hw [] b86 b35 2 (own_upd (own_upd (fun _ => (0 : Int32)) 0 (f1 p1)) 1 (f1 p2)) h86 n0 Z_92'2 A86 F_wavelengths_b86'2 g_b86 V61_at_92 Xa35_at_92'2 (fun i _ => ((own_updr (P := own_R) (own_cnt _) (own_updr (P := own_R) (own_cnt _) (fun _ => own_R0)))) i) (by decide)) hZ (hw _ (List.mem_of_getElem? (i := 11) rfl)) (hw _ (List.mem_of_getElem? (i := 8) rfl)) (by decide) (by decide)) (g := (mkF m 92 #[.val (.int p0), .val (.int p1), .val (.int p2), .val (.int p3), .val (.int p4), .val (.int (2 : Int32)), .val (.int (f1 p1)), .val (.int (f1 p2)), .val (.int (f1 p3)), .val (.int (f1 p4)), .val (.ref b35), .unset, .unset, .unset] [(.ref b35), (.ref b86), (.ref b86)])) rfl (by rw [hml]; rfl) (Steps.refl _) (a := b86) (argsL := [(.ref b35)]) (rest := [(.ref b86)]) (lenOf own_pd1 rfl) rfl (by show 2 * 0 + _ ≤ _; exact Nat.le_of_eq rfl) (hb hby at_92) (fun _ _ => ⟨rfl, e86, (by decide : 2 + 1 ≤ _), (by decide : 3 + 4 ≤ _)⟩)
      dsimp only [Pt.U, Pt.locs, Pt.cells, Pt.slots] at X92 l92 y92 z92 st92 hQ92
      subst l92 y92 z92
      obtain ⟨rfl, N92q, Kp92, PE92, b92, szq92, PF92, PV92⟩ := hQ92
      have ne_b35_b92'2 : b35 ≠ b92 := Nat.ne_of_lt (Nat.lt_of_lt_of_le V61_at_92.lt szq92)
      have ne_b86_b92'2 : b86 ≠ b92 := Nat.ne_of_lt (Nat.lt_of_lt_of_le A86.lt szq92)
      have N92 := Fr.app N61 N92q
      refine own_via st92 ?_
      show own_Fin p e below G (T92.setTop (mkF m 95 #[.val (.int p0), .val (.int p1), .val (.int p2), .val (.int p3), .val (.int p4), .val (.int (2 : Int32)), .val (.int (f1 p1)), .val (.int (f1 p2)), .val (.int (f1 p3)), .val (.int (f1 p4)), .val (.ref b35), .unset, .unset, .unset] [(.ref b86)]))
      refine own_to (fun _ kz => XS.astore X92.here hx rfl (hb hby at_95) rfl (rfl) (l' := #[.val (.int p0), .val (.int p1), .val (.int p2), .val (.int p3), .val (.int p4), .val (.int (2 : Int32)), .val (.int (f1 p1)), .val (.int (f1 p2)), .val (.int (f1 p3)), .val (.int (f1 p4)), .val (.ref b35), .val (.ref b86), .unset, .unset]) rfl kz) ?_
      show own_Fin p e below G (T92.setTop (mkF m 97 #[.val (.int p0), .val (.int p1), .val (.int p2), .val (.int p3), .val (.int p4), .val (.int (2 : Int32)), .val (.int (f1 p1)), .val (.int (f1 p2)), .val (.int (f1 p3)), .val (.int (f1 p4)), .val (.ref b35), .val (.ref b86), .unset, .unset] []))
      refine own_to (fun _ kz => XS.lconst X92.here hx rfl (hb hby at_97) kz) ?_
      show own_Fin p e below G (T92.setTop (mkF m 98 #[.val (.int p0), .val (.int p1), .val (.int p2), .val (.int p3), .val (.int p4), .val (.int (2 : Int32)), .val (.int (f1 p1)), .val (.int (f1 p2)), .val (.int (f1 p3)), .val (.int (f1 p4)), .val (.ref b35), .val (.ref b86), .unset, .unset] [(.long (0 : Int64))]))
      refine own_to (fun _ kz => XS.lstore X92.here hx rfl (hb hby at_98) rfl (l' := #[.val (.int p0), .val (.int p1), .val (.int p2), .val (.int p3), .val (.int p4), .val (.int (2 : Int32)), .val (.int (f1 p1)), .val (.int (f1 p2)), .val (.int (f1 p3)), .val (.int (f1 p4)), .val (.ref b35), .val (.ref b86), .val (.long (0 : Int64)), .second]) rfl kz) ?_
      show own_Fin p e below G (T92.setTop (mkF m 100 #[.val (.int p0), .val (.int p1), .val (.int p2), .val (.int p3), .val (.int p4), .val (.int (2 : Int32)), .val (.int (f1 p1)), .val (.int (f1 p2)), .val (.int (f1 p3)), .val (.int (f1 p4)), .val (.ref b35), .val (.ref b86), .val (.long (0 : Int64)), .second] []))
      refine own_to (fun _ kz => XS.iload X92.here hx rfl (hb hby at_100) rfl  kz) ?_
      show own_Fin p e below G (T92.setTop (mkF m 102 #[.val (.int p0), .val (.int p1), .val (.int p2), .val (.int p3), .val (.int p4), .val (.int (2 : Int32)), .val (.int (f1 p1)), .val (.int (f1 p2)), .val (.int (f1 p3)), .val (.int (f1 p4)), .val (.ref b35), .val (.ref b86), .val (.long (0 : Int64)), .second] [(.int (2 : Int32))]))
      have hc102 : (0 : Int32) < (2 : Int32) := by decide
      refine own_to (fun _ kz => XS.ifNo X92.here hx rfl (hb hby at_102) rfl ((if0 _ _).trans (tlt hc102).2.2.2) kz) ?_
      show own_Fin p e below G (T92.setTop (mkF m 105 #[.val (.int p0), .val (.int p1), .val (.int p2), .val (.int p3), .val (.int p4), .val (.int (2 : Int32)), .val (.int (f1 p1)), .val (.int (f1 p2)), .val (.int (f1 p3)), .val (.int (f1 p4)), .val (.ref b35), .val (.ref b86), .val (.long (0 : Int64)), .second] []))
      refine own_to (fun _ kz => XS.lload X92.here hx rfl (hb hby at_105) rfl  kz) ?_
      show own_Fin p e below G (T92.setTop (mkF m 107 #[.val (.int p0), .val (.int p1), .val (.int p2), .val (.int p3), .val (.int p4), .val (.int (2 : Int32)), .val (.int (f1 p1)), .val (.int (f1 p2)), .val (.int (f1 p3)), .val (.int (f1 p4)), .val (.ref b35), .val (.ref b86), .val (.long (0 : Int64)), .second] [(.long (0 : Int64))]))
      refine own_to (fun _ kz => XS.iload X92.here hx rfl (hb hby at_107) rfl  kz) ?_
      show own_Fin p e below G (T92.setTop (mkF m 109 #[.val (.int p0), .val (.int p1), .val (.int p2), .val (.int p3), .val (.int p4), .val (.int (2 : Int32)), .val (.int (f1 p1)), .val (.int (f1 p2)), .val (.int (f1 p3)), .val (.int (f1 p4)), .val (.ref b35), .val (.ref b86), .val (.long (0 : Int64)), .second] [(.int (f1 p1)), (.long (0 : Int64))]))
      refine own_to (fun _ kz => XS.i2l X92.here hx rfl (hb hby at_109) rfl kz) ?_
      show own_Fin p e below G (T92.setTop (mkF m 110 #[.val (.int p0), .val (.int p1), .val (.int p2), .val (.int p3), .val (.int p4), .val (.int (2 : Int32)), .val (.int (f1 p1)), .val (.int (f1 p2)), .val (.int (f1 p3)), .val (.int (f1 p4)), .val (.ref b35), .val (.ref b86), .val (.long (0 : Int64)), .second] [(.long ((f1 p1).toInt64)), (.long (0 : Int64))]))
      refine own_to (fun _ kz => XS.ladd X92.here hx rfl (hb hby at_110) rfl kz) ?_
      show own_Fin p e below G (T92.setTop (mkF m 111 #[.val (.int p0), .val (.int p1), .val (.int p2), .val (.int p3), .val (.int p4), .val (.int (2 : Int32)), .val (.int (f1 p1)), .val (.int (f1 p2)), .val (.int (f1 p3)), .val (.int (f1 p4)), .val (.ref b35), .val (.ref b86), .val (.long (0 : Int64)), .second] [(.long ((0 : Int64) + ((f1 p1).toInt64)))]))
      refine own_to (fun _ kz => XS.lstore X92.here hx rfl (hb hby at_111) rfl (l' := #[.val (.int p0), .val (.int p1), .val (.int p2), .val (.int p3), .val (.int p4), .val (.int (2 : Int32)), .val (.int (f1 p1)), .val (.int (f1 p2)), .val (.int (f1 p3)), .val (.int (f1 p4)), .val (.ref b35), .val (.ref b86), .val (.long ((0 : Int64) + ((f1 p1).toInt64))), .second]) rfl kz) ?_
      show own_Fin p e below G (T92.setTop (mkF m 113 #[.val (.int p0), .val (.int p1), .val (.int p2), .val (.int p3), .val (.int p4), .val (.int (2 : Int32)), .val (.int (f1 p1)), .val (.int (f1 p2)), .val (.int (f1 p3)), .val (.int (f1 p4)), .val (.ref b35), .val (.ref b86), .val (.long ((0 : Int64) + ((f1 p1).toInt64))), .second] []))
      refine own_to (fun _ kz => XS.iload X92.here hx rfl (hb hby at_113) rfl  kz) ?_
      show own_Fin p e below G (T92.setTop (mkF m 115 #[.val (.int p0), .val (.int p1), .val (.int p2), .val (.int p3), .val (.int p4), .val (.int (2 : Int32)), .val (.int (f1 p1)), .val (.int (f1 p2)), .val (.int (f1 p3)), .val (.int (f1 p4)), .val (.ref b35), .val (.ref b86), .val (.long ((0 : Int64) + ((f1 p1).toInt64))), .second] [(.int (2 : Int32))]))
      refine own_to (fun _ kz => XS.iconst X92.here hx rfl (hb hby at_115) kz) ?_
      show own_Fin p e below G (T92.setTop (mkF m 116 #[.val (.int p0), .val (.int p1), .val (.int p2), .val (.int p3), .val (.int p4), .val (.int (2 : Int32)), .val (.int (f1 p1)), .val (.int (f1 p2)), .val (.int (f1 p3)), .val (.int (f1 p4)), .val (.ref b35), .val (.ref b86), .val (.long ((0 : Int64) + ((f1 p1).toInt64))), .second] [(.int (1 : Int32)), (.int (2 : Int32))]))
      have hc116 : (1 : Int32) < (2 : Int32) := by decide
      refine own_to (fun _ kz => XS.icmpNo X92.here hx rfl (hb hby at_116) rfl (tlt hc116).2.2.2 kz) ?_
      show own_Fin p e below G (T92.setTop (mkF m 119 #[.val (.int p0), .val (.int p1), .val (.int p2), .val (.int p3), .val (.int p4), .val (.int (2 : Int32)), .val (.int (f1 p1)), .val (.int (f1 p2)), .val (.int (f1 p3)), .val (.int (f1 p4)), .val (.ref b35), .val (.ref b86), .val (.long ((0 : Int64) + ((f1 p1).toInt64))), .second] []))
      refine own_to (fun _ kz => XS.lload X92.here hx rfl (hb hby at_119) rfl  kz) ?_
      show own_Fin p e below G (T92.setTop (mkF m 121 #[.val (.int p0), .val (.int p1), .val (.int p2), .val (.int p3), .val (.int p4), .val (.int (2 : Int32)), .val (.int (f1 p1)), .val (.int (f1 p2)), .val (.int (f1 p3)), .val (.int (f1 p4)), .val (.ref b35), .val (.ref b86), .val (.long ((0 : Int64) + ((f1 p1).toInt64))), .second] [(.long ((0 : Int64) + ((f1 p1).toInt64)))]))
      refine own_to (fun _ kz => XS.iload X92.here hx rfl (hb hby at_121) rfl  kz) ?_
      show own_Fin p e below G (T92.setTop (mkF m 123 #[.val (.int p0), .val (.int p1), .val (.int p2), .val (.int p3), .val (.int p4), .val (.int (2 : Int32)), .val (.int (f1 p1)), .val (.int (f1 p2)), .val (.int (f1 p3)), .val (.int (f1 p4)), .val (.ref b35), .val (.ref b86), .val (.long ((0 : Int64) + ((f1 p1).toInt64))), .second] [(.int (f1 p2)), (.long ((0 : Int64) + ((f1 p1).toInt64)))]))
      refine own_to (fun _ kz => XS.i2l X92.here hx rfl (hb hby at_123) rfl kz) ?_
      show own_Fin p e below G (T92.setTop (mkF m 124 #[.val (.int p0), .val (.int p1), .val (.int p2), .val (.int p3), .val (.int p4), .val (.int (2 : Int32)), .val (.int (f1 p1)), .val (.int (f1 p2)), .val (.int (f1 p3)), .val (.int (f1 p4)), .val (.ref b35), .val (.ref b86), .val (.long ((0 : Int64) + ((f1 p1).toInt64))), .second] [(.long ((f1 p2).toInt64)), (.long ((0 : Int64) + ((f1 p1).toInt64)))]))
      refine own_to (fun _ kz => XS.ladd X92.here hx rfl (hb hby at_124) rfl kz) ?_
      show own_Fin p e below G (T92.setTop (mkF m 125 #[.val (.int p0), .val (.int p1), .val (.int p2), .val (.int p3), .val (.int p4), .val (.int (2 : Int32)), .val (.int (f1 p1)), .val (.int (f1 p2)), .val (.int (f1 p3)), .val (.int (f1 p4)), .val (.ref b35), .val (.ref b86), .val (.long ((0 : Int64) + ((f1 p1).toInt64))), .second] [(.long (((0 : Int64) + ((f1 p1).toInt64)) + ((f1 p2).toInt64)))]))
      refine own_to (fun _ kz => XS.lstore X92.here hx rfl (hb hby at_125) rfl (l' := #[.val (.int p0), .val (.int p1), .val (.int p2), .val (.int p3), .val (.int p4), .val (.int (2 : Int32)), .val (.int (f1 p1)), .val (.int (f1 p2)), .val (.int (f1 p3)), .val (.int (f1 p4)), .val (.ref b35), .val (.ref b86), .val (.long (((0 : Int64) + ((f1 p1).toInt64)) + ((f1 p2).toInt64))), .second]) rfl kz) ?_
      show own_Fin p e below G (T92.setTop (mkF m 127 #[.val (.int p0), .val (.int p1), .val (.int p2), .val (.int p3), .val (.int p4), .val (.int (2 : Int32)), .val (.int (f1 p1)), .val (.int (f1 p2)), .val (.int (f1 p3)), .val (.int (f1 p4)), .val (.ref b35), .val (.ref b86), .val (.long (((0 : Int64) + ((f1 p1).toInt64)) + ((f1 p2).toInt64))), .second] []))
      refine own_to (fun _ kz => XS.iload X92.here hx rfl (hb hby at_127) rfl  kz) ?_
      show own_Fin p e below G (T92.setTop (mkF m 129 #[.val (.int p0), .val (.int p1), .val (.int p2), .val (.int p3), .val (.int p4), .val (.int (2 : Int32)), .val (.int (f1 p1)), .val (.int (f1 p2)), .val (.int (f1 p3)), .val (.int (f1 p4)), .val (.ref b35), .val (.ref b86), .val (.long (((0 : Int64) + ((f1 p1).toInt64)) + ((f1 p2).toInt64))), .second] [(.int (2 : Int32))]))
      refine own_to (fun _ kz => XS.iconst X92.here hx rfl (hb hby at_129) kz) ?_
      show own_Fin p e below G (T92.setTop (mkF m 130 #[.val (.int p0), .val (.int p1), .val (.int p2), .val (.int p3), .val (.int p4), .val (.int (2 : Int32)), .val (.int (f1 p1)), .val (.int (f1 p2)), .val (.int (f1 p3)), .val (.int (f1 p4)), .val (.ref b35), .val (.ref b86), .val (.long (((0 : Int64) + ((f1 p1).toInt64)) + ((f1 p2).toInt64))), .second] [(.int (2 : Int32)), (.int (2 : Int32))]))
      have hc130 : ¬ ((2 : Int32) < (2 : Int32)) := by decide
      refine own_to (fun _ kz => XS.icmpYes X92.here hx rfl (pc0 := 130) (pc' := 141) rfl (hb hby at_130) rfl (flt hc130).2.2.2 (by decide) (by decide) kz) ?_
      show own_Fin p e below G (T92.setTop (mkF m 141 #[.val (.int p0), .val (.int p1), .val (.int p2), .val (.int p3), .val (.int p4), .val (.int (2 : Int32)), .val (.int (f1 p1)), .val (.int (f1 p2)), .val (.int (f1 p3)), .val (.int (f1 p4)), .val (.ref b35), .val (.ref b86), .val (.long (((0 : Int64) + ((f1 p1).toInt64)) + ((f1 p2).toInt64))), .second] []))
      refine own_to (fun _ kz => XS.iload X92.here hx rfl (hb hby at_141) rfl  kz) ?_
      show own_Fin p e below G (T92.setTop (mkF m 143 #[.val (.int p0), .val (.int p1), .val (.int p2), .val (.int p3), .val (.int p4), .val (.int (2 : Int32)), .val (.int (f1 p1)), .val (.int (f1 p2)), .val (.int (f1 p3)), .val (.int (f1 p4)), .val (.ref b35), .val (.ref b86), .val (.long (((0 : Int64) + ((f1 p1).toInt64)) + ((f1 p2).toInt64))), .second] [(.int (2 : Int32))]))
      refine own_to (fun _ kz => XS.iconst X92.here hx rfl (hb hby at_143) kz) ?_
      show own_Fin p e below G (T92.setTop (mkF m 144 #[.val (.int p0), .val (.int p1), .val (.int p2), .val (.int p3), .val (.int p4), .val (.int (2 : Int32)), .val (.int (f1 p1)), .val (.int (f1 p2)), .val (.int (f1 p3)), .val (.int (f1 p4)), .val (.ref b35), .val (.ref b86), .val (.long (((0 : Int64) + ((f1 p1).toInt64)) + ((f1 p2).toInt64))), .second] [(.int (3 : Int32)), (.int (2 : Int32))]))
      have hc144 : ¬ ((3 : Int32) < (2 : Int32)) := by decide
      refine own_to (fun _ kz => XS.icmpYes X92.here hx rfl (pc0 := 144) (pc' := 155) rfl (hb hby at_144) rfl (flt hc144).2.2.2 (by decide) (by decide) kz) ?_
      show own_Fin p e below G (T92.setTop (mkF m 155 #[.val (.int p0), .val (.int p1), .val (.int p2), .val (.int p3), .val (.int p4), .val (.int (2 : Int32)), .val (.int (f1 p1)), .val (.int (f1 p2)), .val (.int (f1 p3)), .val (.int (f1 p4)), .val (.ref b35), .val (.ref b86), .val (.long (((0 : Int64) + ((f1 p1).toInt64)) + ((f1 p2).toInt64))), .second] []))
      refine own_to (fun _ kz => XS.iload X92.here hx rfl (hb hby at_155) rfl  kz) ?_
      show own_Fin p e below G (T92.setTop (mkF m 157 #[.val (.int p0), .val (.int p1), .val (.int p2), .val (.int p3), .val (.int p4), .val (.int (2 : Int32)), .val (.int (f1 p1)), .val (.int (f1 p2)), .val (.int (f1 p3)), .val (.int (f1 p4)), .val (.ref b35), .val (.ref b86), .val (.long (((0 : Int64) + ((f1 p1).toInt64)) + ((f1 p2).toInt64))), .second] [(.int (2 : Int32))]))
      have hc157 : (0 : Int32) < (2 : Int32) := by decide
      refine own_to (fun _ kz => XS.ifNo X92.here hx rfl (hb hby at_157) rfl ((if0 _ _).trans (tlt hc157).2.2.2) kz) ?_
      show own_Fin p e below G (T92.setTop (mkF m 160 #[.val (.int p0), .val (.int p1), .val (.int p2), .val (.int p3), .val (.int p4), .val (.int (2 : Int32)), .val (.int (f1 p1)), .val (.int (f1 p2)), .val (.int (f1 p3)), .val (.int (f1 p4)), .val (.ref b35), .val (.ref b86), .val (.long (((0 : Int64) + ((f1 p1).toInt64)) + ((f1 p2).toInt64))), .second] []))
      refine own_to (fun _ kz => XS.aload X92.here hx rfl (hb hby at_160) rfl (rfl)  kz) ?_
      show own_Fin p e below G (T92.setTop (mkF m 162 #[.val (.int p0), .val (.int p1), .val (.int p2), .val (.int p3), .val (.int p4), .val (.int (2 : Int32)), .val (.int (f1 p1)), .val (.int (f1 p2)), .val (.int (f1 p3)), .val (.int (f1 p4)), .val (.ref b35), .val (.ref b86), .val (.long (((0 : Int64) + ((f1 p1).toInt64)) + ((f1 p2).toInt64))), .second] [(.ref b35)]))
      refine own_to (fun _ kz => XS.iconst X92.here hx rfl (hb hby at_162) kz) ?_
      show own_Fin p e below G (T92.setTop (mkF m 163 #[.val (.int p0), .val (.int p1), .val (.int p2), .val (.int p3), .val (.int p4), .val (.int (2 : Int32)), .val (.int (f1 p1)), .val (.int (f1 p2)), .val (.int (f1 p3)), .val (.int (f1 p4)), .val (.ref b35), .val (.ref b86), .val (.long (((0 : Int64) + ((f1 p1).toInt64)) + ((f1 p2).toInt64))), .second] [(.int (0 : Int32)), (.ref b35)]))
      refine own_to (fun _ kz => XS.sipush X92.here hx rfl (hb hby at_163) kz) ?_
      show own_Fin p e below G (T92.setTop (mkF m 166 #[.val (.int p0), .val (.int p1), .val (.int p2), .val (.int p3), .val (.int p4), .val (.int (2 : Int32)), .val (.int (f1 p1)), .val (.int (f1 p2)), .val (.int (f1 p3)), .val (.int (f1 p4)), .val (.ref b35), .val (.ref b86), .val (.long (((0 : Int64) + ((f1 p1).toInt64)) + ((f1 p2).toInt64))), .second] [(.int (320 : Int32)), (.int (0 : Int32)), (.ref b35)]))
      refine own_to (fun _ kz => XS.iload X92.here hx rfl (hb hby at_166) rfl  kz) ?_
      show own_Fin p e below G (T92.setTop (mkF m 168 #[.val (.int p0), .val (.int p1), .val (.int p2), .val (.int p3), .val (.int p4), .val (.int (2 : Int32)), .val (.int (f1 p1)), .val (.int (f1 p2)), .val (.int (f1 p3)), .val (.int (f1 p4)), .val (.ref b35), .val (.ref b86), .val (.long (((0 : Int64) + ((f1 p1).toInt64)) + ((f1 p2).toInt64))), .second] [(.int (f1 p1)), (.int (320 : Int32)), (.int (0 : Int32)), (.ref b35)]))
      refine own_to (fun _ kz => XS.isub X92.here hx rfl (hb hby at_168) rfl kz) ?_
      show own_Fin p e below G (T92.setTop (mkF m 169 #[.val (.int p0), .val (.int p1), .val (.int p2), .val (.int p3), .val (.int p4), .val (.int (2 : Int32)), .val (.int (f1 p1)), .val (.int (f1 p2)), .val (.int (f1 p3)), .val (.int (f1 p4)), .val (.ref b35), .val (.ref b86), .val (.long (((0 : Int64) + ((f1 p1).toInt64)) + ((f1 p2).toInt64))), .second] [(.int ((320 : Int32) - (f1 p1))), (.int (0 : Int32)), (.ref b35)]))
      have V61_at_169 : own_AV Value.int Z T92.heap b35 .int 2 (own_upd (own_upd (fun _ => (0 : Int32)) 0 (f1 p1)) 1 (f1 p2)) := (V61_at_92.keep Kp92 (ninS ne_b35_b86'2 nin0))
      obtain ⟨nn169, cl169, Ar169, Sz169, Hs169⟩ := V61_at_169
      obtain ⟨T169, h169, X169, e169, W169, st169⟩ := stI X92 hx hZ rfl Ar169 (j := (0 : Int32)) (own_in Sz169 (by decide) rfl (by decide)) (g := (mkF m 169 #[.val (.int p0), .val (.int p1), .val (.int p2), .val (.int p3), .val (.int p4), .val (.int (2 : Int32)), .val (.int (f1 p1)), .val (.int (f1 p2)), .val (.int (f1 p3)), .val (.int (f1 p4)), .val (.ref b35), .val (.ref b86), .val (.long (((0 : Int64) + ((f1 p1).toInt64)) + ((f1 p2).toInt64))), .second] [(.int ((320 : Int32) - (f1 p1))), (.int (0 : Int32)), (.ref b35)])) rfl rfl (hb hby at_169)
      refine own_to st169 ?_
      have V169 : own_AV Value.int Z h169 b35 .int 2 (own_upd (own_upd (own_upd (fun _ => (0 : Int32)) 0 (f1 p1)) 1 (f1 p2)) 0 ((320 : Int32) - (f1 p1))) := own_AV.set nn169 Ar169 Sz169 Hs169 W169 rfl
      have N169 := Fr.snoc X169 N92 g_b35
      show own_Fin p e below G (T169.setTop (mkF m 170 #[.val (.int p0), .val (.int p1), .val (.int p2), .val (.int p3), .val (.int p4), .val (.int (2 : Int32)), .val (.int (f1 p1)), .val (.int (f1 p2)), .val (.int (f1 p3)), .val (.int (f1 p4)), .val (.ref b35), .val (.ref b86), .val (.long (((0 : Int64) + ((f1 p1).toInt64)) + ((f1 p2).toInt64))), .second] []))
      refine own_to (fun _ kz => XS.aload X169.here hx rfl (hb hby at_170) rfl (rfl)  kz) ?_
      show own_Fin p e below G (T169.setTop (mkF m 172 #[.val (.int p0), .val (.int p1), .val (.int p2), .val (.int p3), .val (.int p4), .val (.int (2 : Int32)), .val (.int (f1 p1)), .val (.int (f1 p2)), .val (.int (f1 p3)), .val (.int (f1 p4)), .val (.ref b35), .val (.ref b86), .val (.long (((0 : Int64) + ((f1 p1).toInt64)) + ((f1 p2).toInt64))), .second] [(.ref b86)]))
      have PF92_at_172'1 : Fld Z h169 b86 "wavegauge/model/Capacities" "wavelengths" "[I" (.ref b92) := (PF92.other W169 (Or.inl (Ne.symm ne_b35_b86'2)))
      have PV92_at_172'1 : own_AV Value.int Z h169 b92 .int 2 (own_upd (own_upd (fun _ => (0 : Int32)) 0 (f1 p1)) 1 (f1 p2)) := (PV92.other W169 (Ne.symm ne_b35_b92'2))
      have Zz_172_Kp92'2 := Nat.le_trans Z_92'2 Kp92.1
      have Zz_172_W169'1 := Nat.le_trans Zz_172_Kp92'2 (Nat.le_of_eq (Wr.size W169).symm)
      have Z_172'2 : n0 ≤ h169.size := Zz_172_W169'1
      have PE92_at_172'1 : Exa Z h169 b86 "wavegauge/model/Capacities" := (PE92.wr W169)
      obtain ⟨cq172, kq172, qa172, qb172, qc172⟩ := isOf hZ e169 PE92_at_172'1
      obtain ⟨_, _, ⟨T172, L172, k172, n172⟩, -, X172, ⟨Lc172, hQ172, l172, y172, z172⟩, st172⟩ := X169.virtualBack hx (y := (⟨"wavegauge/model/Capacities", "total", "()J"⟩ : MethodName)) (z := (⟨"wavegauge/model/Capacities", "total", "()J"⟩ : MethodName)) hown (mvT hZ (hw _ (List.mem_of_getElem? (i := 26) rfl))) (mvT hZ (hw _ (List.mem_of_getElem? (i := 27) rfl))) (notFace_of_selects (args := #[]) (mvT hZ (hw _ (List.mem_of_getElem? (i := 29) rfl)))) (mvT hZ (hw _ (List.mem_of_getElem? (i := 29) rfl))) (mvT hZ (hw _ (List.mem_of_getElem? (i := 28) rfl))) (by decide) (backOf (W := 0) (rm4 l Z a0 hw [] b86 2 (own_upd (own_upd (fun _ => (0 : Int32)) 0 (f1 p1)) 1 (f1 p2)) b92 h169 n0 Z_172'2 PF92_at_172'1 PV92_at_172'1) hZ (hw _ (List.mem_of_getElem? (i := 30) rfl)) (hw _ (List.mem_of_getElem? (i := 8) rfl)) (by decide) (by decide)) qa172 qc172 (g := (mkF m 172 #[.val (.int p0), .val (.int p1), .val (.int p2), .val (.int p3), .val (.int p4), .val (.int (2 : Int32)), .val (.int (f1 p1)), .val (.int (f1 p2)), .val (.int (f1 p3)), .val (.int (f1 p4)), .val (.ref b35), .val (.ref b86), .val (.long (((0 : Int64) + ((f1 p1).toInt64)) + ((f1 p2).toInt64))), .second] [(.ref b86)])) rfl (by rw [hml]; rfl) (Steps.refl _) (argsL := []) (rest := []) (lenOf own_pd2 rfl) rfl (by show 2 * 0 + _ ≤ _; exact Nat.le_of_eq rfl) (hb hby at_172) (fun _ _ => ⟨rfl, e169, (by decide : 3 + 0 ≤ _), (by decide : 7 + 0 ≤ _)⟩)
      dsimp only [Pt.U, Pt.locs, Pt.cells, Pt.slots] at X172 l172 y172 z172 st172 hQ172
      subst l172 y172 z172
      obtain ⟨rfl, N172q, e172⟩ := hQ172
      have N172 := Fr.app N169 N172q
      refine own_via st172 ?_
      show own_Fin p e below G (T172.setTop (mkF m 175 #[.val (.int p0), .val (.int p1), .val (.int p2), .val (.int p3), .val (.int p4), .val (.int (2 : Int32)), .val (.int (f1 p1)), .val (.int (f1 p2)), .val (.int (f1 p3)), .val (.int (f1 p4)), .val (.ref b35), .val (.ref b86), .val (.long (((0 : Int64) + ((f1 p1).toInt64)) + ((f1 p2).toInt64))), .second] [(.long (own_sumI (own_upd (own_upd (fun _ => (0 : Int32)) 0 (f1 p1)) 1 (f1 p2)) 2))]))
      refine own_to (fun _ kz => XS.lload X172.here hx rfl (hb hby at_175) rfl  kz) ?_
      show own_Fin p e below G (T172.setTop (mkF m 177 #[.val (.int p0), .val (.int p1), .val (.int p2), .val (.int p3), .val (.int p4), .val (.int (2 : Int32)), .val (.int (f1 p1)), .val (.int (f1 p2)), .val (.int (f1 p3)), .val (.int (f1 p4)), .val (.ref b35), .val (.ref b86), .val (.long (((0 : Int64) + ((f1 p1).toInt64)) + ((f1 p2).toInt64))), .second] [(.long (((0 : Int64) + ((f1 p1).toInt64)) + ((f1 p2).toInt64))), (.long (own_sumI (own_upd (own_upd (fun _ => (0 : Int32)) 0 (f1 p1)) 1 (f1 p2)) 2))]))
      refine own_to (fun _ kz => XS.lcmp X172.here hx rfl (hb hby at_177) rfl kz) ?_
      show own_Fin p e below G (T172.setTop (mkF m 178 #[.val (.int p0), .val (.int p1), .val (.int p2), .val (.int p3), .val (.int p4), .val (.int (2 : Int32)), .val (.int (f1 p1)), .val (.int (f1 p2)), .val (.int (f1 p3)), .val (.int (f1 p4)), .val (.ref b35), .val (.ref b86), .val (.long (((0 : Int64) + ((f1 p1).toInt64)) + ((f1 p2).toInt64))), .second] [(.int (lcmpW (own_sumI (own_upd (own_upd (fun _ => (0 : Int32)) 0 (f1 p1)) 1 (f1 p2)) 2) (((0 : Int64) + ((f1 p1).toInt64)) + ((f1 p2).toInt64))))]))
      have hc178 : (own_sumI (own_upd (own_upd (fun _ => (0 : Int32)) 0 (f1 p1)) 1 (f1 p2)) 2) = (((0 : Int64) + ((f1 p1).toInt64)) + ((f1 p2).toInt64)) := (by simp [own_sumI, own_upd])
      refine own_to (fun _ kz => XS.ifNo X172.here hx rfl (hb hby at_178) rfl ((if0 _ _).trans (teq ((lw_eq _ _).mpr hc178)).2) kz) ?_
      show own_Fin p e below G (T172.setTop (mkF m 181 #[.val (.int p0), .val (.int p1), .val (.int p2), .val (.int p3), .val (.int p4), .val (.int (2 : Int32)), .val (.int (f1 p1)), .val (.int (f1 p2)), .val (.int (f1 p3)), .val (.int (f1 p4)), .val (.ref b35), .val (.ref b86), .val (.long (((0 : Int64) + ((f1 p1).toInt64)) + ((f1 p2).toInt64))), .second] []))
      refine own_to (fun _ kz => XS.iconst X172.here hx rfl (hb hby at_181) kz) ?_
      show own_Fin p e below G (T172.setTop (mkF m 182 #[.val (.int p0), .val (.int p1), .val (.int p2), .val (.int p3), .val (.int p4), .val (.int (2 : Int32)), .val (.int (f1 p1)), .val (.int (f1 p2)), .val (.int (f1 p3)), .val (.int (f1 p4)), .val (.ref b35), .val (.ref b86), .val (.long (((0 : Int64) + ((f1 p1).toInt64)) + ((f1 p2).toInt64))), .second] [(.int (1 : Int32))]))
      refine own_to (fun _ kz => XS.goto X172.here hx rfl (pc0 := 182) (pc' := 186) rfl (hb hby at_182) (by decide) (by decide) kz) ?_
      show own_Fin p e below G (T172.setTop (mkF m 186 #[.val (.int p0), .val (.int p1), .val (.int p2), .val (.int p3), .val (.int p4), .val (.int (2 : Int32)), .val (.int (f1 p1)), .val (.int (f1 p2)), .val (.int (f1 p3)), .val (.int (f1 p4)), .val (.ref b35), .val (.ref b86), .val (.long (((0 : Int64) + ((f1 p1).toInt64)) + ((f1 p2).toInt64))), .second] [(.int (1 : Int32))]))
      exact own_retN X172 hx hlk hG (t := .boolean) Bd.returns (by simp) (hb hby at_186) (by decide) (by decide) (by rw [e172]; exact ⟨rfl, N172, trivial⟩)
    · show own_Fin p e below G (T28.setTop (mkF m 33 #[.val (.int p0), .val (.int p1), .val (.int p2), .val (.int p3), .val (.int p4), .val (.int (3 : Int32)), .val (.int (f1 p1)), .val (.int (f1 p2)), .val (.int (f1 p3)), .val (.int (f1 p4)), .unset, .unset, .unset, .unset] []))
      refine own_to (fun _ kz => XS.iload X28.here hx rfl (hb hby at_33) rfl  kz) ?_
      show own_Fin p e below G (T28.setTop (mkF m 35 #[.val (.int p0), .val (.int p1), .val (.int p2), .val (.int p3), .val (.int p4), .val (.int (3 : Int32)), .val (.int (f1 p1)), .val (.int (f1 p2)), .val (.int (f1 p3)), .val (.int (f1 p4)), .unset, .unset, .unset, .unset] [(.int (3 : Int32))]))
      obtain ⟨T35, h35, k35, X35, e35, E35, A35, Xa35, st35⟩ := newPE X28 hx hZ (hw _ (List.mem_of_getElem? (i := 5) rfl)) e28 (g := (mkF m 35 #[.val (.int p0), .val (.int p1), .val (.int p2), .val (.int p3), .val (.int p4), .val (.int (3 : Int32)), .val (.int (f1 p1)), .val (.int (f1 p2)), .val (.int (f1 p3)), .val (.int (f1 p4)), .unset, .unset, .unset, .unset] [(.int (3 : Int32))])) rfl (hb hby at_35) rfl (by decide) (cap := 3) (by decide) (by decide) (by decide) (by decide) (ad := "[I") (by decide)
      obtain ⟨b35, g35⟩ : ∃ z, z = h0.size := ⟨_, rfl⟩
      rw [← g35] at A35 Xa35 st35
      refine own_to st35 ?_
      have g_b35 : n0 ≤ b35 := Nat.le_trans Z0 (Nat.le_of_eq g35.symm)
      have V35 : own_AV Value.int Z h35 b35 .int 3 (fun _ => (0 : Int32)) := own_AV.new A35 (by decide) (by decide) (fun _ => rfl)
      show own_Fin p e below G (T35.setTop (mkF m 37 #[.val (.int p0), .val (.int p1), .val (.int p2), .val (.int p3), .val (.int p4), .val (.int (3 : Int32)), .val (.int (f1 p1)), .val (.int (f1 p2)), .val (.int (f1 p3)), .val (.int (f1 p4)), .unset, .unset, .unset, .unset] [(.ref b35)]))
      refine own_to (fun _ kz => XS.astore X35.here hx rfl (hb hby at_37) rfl (rfl) (l' := #[.val (.int p0), .val (.int p1), .val (.int p2), .val (.int p3), .val (.int p4), .val (.int (3 : Int32)), .val (.int (f1 p1)), .val (.int (f1 p2)), .val (.int (f1 p3)), .val (.int (f1 p4)), .val (.ref b35), .unset, .unset, .unset]) rfl kz) ?_
      show own_Fin p e below G (T35.setTop (mkF m 39 #[.val (.int p0), .val (.int p1), .val (.int p2), .val (.int p3), .val (.int p4), .val (.int (3 : Int32)), .val (.int (f1 p1)), .val (.int (f1 p2)), .val (.int (f1 p3)), .val (.int (f1 p4)), .val (.ref b35), .unset, .unset, .unset] []))
      refine own_to (fun _ kz => XS.iload X35.here hx rfl (hb hby at_39) rfl  kz) ?_
      show own_Fin p e below G (T35.setTop (mkF m 41 #[.val (.int p0), .val (.int p1), .val (.int p2), .val (.int p3), .val (.int p4), .val (.int (3 : Int32)), .val (.int (f1 p1)), .val (.int (f1 p2)), .val (.int (f1 p3)), .val (.int (f1 p4)), .val (.ref b35), .unset, .unset, .unset] [(.int (3 : Int32))]))
      have hc41 : (0 : Int32) < (3 : Int32) := by decide
      refine own_to (fun _ kz => XS.ifNo X35.here hx rfl (hb hby at_41) rfl ((if0 _ _).trans (tlt hc41).2.2.2) kz) ?_
      show own_Fin p e below G (T35.setTop (mkF m 44 #[.val (.int p0), .val (.int p1), .val (.int p2), .val (.int p3), .val (.int p4), .val (.int (3 : Int32)), .val (.int (f1 p1)), .val (.int (f1 p2)), .val (.int (f1 p3)), .val (.int (f1 p4)), .val (.ref b35), .unset, .unset, .unset] []))
      refine own_to (fun _ kz => XS.aload X35.here hx rfl (hb hby at_44) rfl (rfl)  kz) ?_
      show own_Fin p e below G (T35.setTop (mkF m 46 #[.val (.int p0), .val (.int p1), .val (.int p2), .val (.int p3), .val (.int p4), .val (.int (3 : Int32)), .val (.int (f1 p1)), .val (.int (f1 p2)), .val (.int (f1 p3)), .val (.int (f1 p4)), .val (.ref b35), .unset, .unset, .unset] [(.ref b35)]))
      refine own_to (fun _ kz => XS.iconst X35.here hx rfl (hb hby at_46) kz) ?_
      show own_Fin p e below G (T35.setTop (mkF m 47 #[.val (.int p0), .val (.int p1), .val (.int p2), .val (.int p3), .val (.int p4), .val (.int (3 : Int32)), .val (.int (f1 p1)), .val (.int (f1 p2)), .val (.int (f1 p3)), .val (.int (f1 p4)), .val (.ref b35), .unset, .unset, .unset] [(.int (0 : Int32)), (.ref b35)]))
      refine own_to (fun _ kz => XS.iload X35.here hx rfl (hb hby at_47) rfl  kz) ?_
      show own_Fin p e below G (T35.setTop (mkF m 49 #[.val (.int p0), .val (.int p1), .val (.int p2), .val (.int p3), .val (.int p4), .val (.int (3 : Int32)), .val (.int (f1 p1)), .val (.int (f1 p2)), .val (.int (f1 p3)), .val (.int (f1 p4)), .val (.ref b35), .unset, .unset, .unset] [(.int (f1 p1)), (.int (0 : Int32)), (.ref b35)]))
      obtain ⟨nn49, cl49, Ar49, Sz49, Hs49⟩ := V35
      obtain ⟨T49, h49, X49, e49, W49, st49⟩ := stI X35 hx hZ e35 Ar49 (j := (0 : Int32)) (own_in Sz49 (by decide) rfl (by decide)) (g := (mkF m 49 #[.val (.int p0), .val (.int p1), .val (.int p2), .val (.int p3), .val (.int p4), .val (.int (3 : Int32)), .val (.int (f1 p1)), .val (.int (f1 p2)), .val (.int (f1 p3)), .val (.int (f1 p4)), .val (.ref b35), .unset, .unset, .unset] [(.int (f1 p1)), (.int (0 : Int32)), (.ref b35)])) rfl rfl (hb hby at_49)
      refine own_to st49 ?_
      have V49 : own_AV Value.int Z h49 b35 .int 3 (own_upd (fun _ => (0 : Int32)) 0 (f1 p1)) := own_AV.set nn49 Ar49 Sz49 Hs49 W49 rfl
      have N49 := Fr.snoc X49 N28 g_b35
      show own_Fin p e below G (T49.setTop (mkF m 50 #[.val (.int p0), .val (.int p1), .val (.int p2), .val (.int p3), .val (.int p4), .val (.int (3 : Int32)), .val (.int (f1 p1)), .val (.int (f1 p2)), .val (.int (f1 p3)), .val (.int (f1 p4)), .val (.ref b35), .unset, .unset, .unset] []))
      refine own_to (fun _ kz => XS.iload X49.here hx rfl (hb hby at_50) rfl  kz) ?_
      show own_Fin p e below G (T49.setTop (mkF m 52 #[.val (.int p0), .val (.int p1), .val (.int p2), .val (.int p3), .val (.int p4), .val (.int (3 : Int32)), .val (.int (f1 p1)), .val (.int (f1 p2)), .val (.int (f1 p3)), .val (.int (f1 p4)), .val (.ref b35), .unset, .unset, .unset] [(.int (3 : Int32))]))
      refine own_to (fun _ kz => XS.iconst X49.here hx rfl (hb hby at_52) kz) ?_
      show own_Fin p e below G (T49.setTop (mkF m 53 #[.val (.int p0), .val (.int p1), .val (.int p2), .val (.int p3), .val (.int p4), .val (.int (3 : Int32)), .val (.int (f1 p1)), .val (.int (f1 p2)), .val (.int (f1 p3)), .val (.int (f1 p4)), .val (.ref b35), .unset, .unset, .unset] [(.int (1 : Int32)), (.int (3 : Int32))]))
      have hc53 : (1 : Int32) < (3 : Int32) := by decide
      refine own_to (fun _ kz => XS.icmpNo X49.here hx rfl (hb hby at_53) rfl (tlt hc53).2.2.2 kz) ?_
      show own_Fin p e below G (T49.setTop (mkF m 56 #[.val (.int p0), .val (.int p1), .val (.int p2), .val (.int p3), .val (.int p4), .val (.int (3 : Int32)), .val (.int (f1 p1)), .val (.int (f1 p2)), .val (.int (f1 p3)), .val (.int (f1 p4)), .val (.ref b35), .unset, .unset, .unset] []))
      refine own_to (fun _ kz => XS.aload X49.here hx rfl (hb hby at_56) rfl (rfl)  kz) ?_
      show own_Fin p e below G (T49.setTop (mkF m 58 #[.val (.int p0), .val (.int p1), .val (.int p2), .val (.int p3), .val (.int p4), .val (.int (3 : Int32)), .val (.int (f1 p1)), .val (.int (f1 p2)), .val (.int (f1 p3)), .val (.int (f1 p4)), .val (.ref b35), .unset, .unset, .unset] [(.ref b35)]))
      refine own_to (fun _ kz => XS.iconst X49.here hx rfl (hb hby at_58) kz) ?_
      show own_Fin p e below G (T49.setTop (mkF m 59 #[.val (.int p0), .val (.int p1), .val (.int p2), .val (.int p3), .val (.int p4), .val (.int (3 : Int32)), .val (.int (f1 p1)), .val (.int (f1 p2)), .val (.int (f1 p3)), .val (.int (f1 p4)), .val (.ref b35), .unset, .unset, .unset] [(.int (1 : Int32)), (.ref b35)]))
      refine own_to (fun _ kz => XS.iload X49.here hx rfl (hb hby at_59) rfl  kz) ?_
      show own_Fin p e below G (T49.setTop (mkF m 61 #[.val (.int p0), .val (.int p1), .val (.int p2), .val (.int p3), .val (.int p4), .val (.int (3 : Int32)), .val (.int (f1 p1)), .val (.int (f1 p2)), .val (.int (f1 p3)), .val (.int (f1 p4)), .val (.ref b35), .unset, .unset, .unset] [(.int (f1 p2)), (.int (1 : Int32)), (.ref b35)]))
      obtain ⟨nn61, cl61, Ar61, Sz61, Hs61⟩ := V49
      obtain ⟨T61, h61, X61, e61, W61, st61⟩ := stI X49 hx hZ e49 Ar61 (j := (1 : Int32)) (own_in Sz61 (by decide) rfl (by decide)) (g := (mkF m 61 #[.val (.int p0), .val (.int p1), .val (.int p2), .val (.int p3), .val (.int p4), .val (.int (3 : Int32)), .val (.int (f1 p1)), .val (.int (f1 p2)), .val (.int (f1 p3)), .val (.int (f1 p4)), .val (.ref b35), .unset, .unset, .unset] [(.int (f1 p2)), (.int (1 : Int32)), (.ref b35)])) rfl rfl (hb hby at_61)
      refine own_to st61 ?_
      have V61 : own_AV Value.int Z h61 b35 .int 3 (own_upd (own_upd (fun _ => (0 : Int32)) 0 (f1 p1)) 1 (f1 p2)) := own_AV.set nn61 Ar61 Sz61 Hs61 W61 rfl
      have N61 := Fr.snoc X61 N49 g_b35
      show own_Fin p e below G (T61.setTop (mkF m 62 #[.val (.int p0), .val (.int p1), .val (.int p2), .val (.int p3), .val (.int p4), .val (.int (3 : Int32)), .val (.int (f1 p1)), .val (.int (f1 p2)), .val (.int (f1 p3)), .val (.int (f1 p4)), .val (.ref b35), .unset, .unset, .unset] []))
      refine own_to (fun _ kz => XS.iload X61.here hx rfl (hb hby at_62) rfl  kz) ?_
      show own_Fin p e below G (T61.setTop (mkF m 64 #[.val (.int p0), .val (.int p1), .val (.int p2), .val (.int p3), .val (.int p4), .val (.int (3 : Int32)), .val (.int (f1 p1)), .val (.int (f1 p2)), .val (.int (f1 p3)), .val (.int (f1 p4)), .val (.ref b35), .unset, .unset, .unset] [(.int (3 : Int32))]))
      refine own_to (fun _ kz => XS.iconst X61.here hx rfl (hb hby at_64) kz) ?_
      show own_Fin p e below G (T61.setTop (mkF m 65 #[.val (.int p0), .val (.int p1), .val (.int p2), .val (.int p3), .val (.int p4), .val (.int (3 : Int32)), .val (.int (f1 p1)), .val (.int (f1 p2)), .val (.int (f1 p3)), .val (.int (f1 p4)), .val (.ref b35), .unset, .unset, .unset] [(.int (2 : Int32)), (.int (3 : Int32))]))
      have hc65 : (2 : Int32) < (3 : Int32) := by decide
      refine own_to (fun _ kz => XS.icmpNo X61.here hx rfl (hb hby at_65) rfl (tlt hc65).2.2.2 kz) ?_
      show own_Fin p e below G (T61.setTop (mkF m 68 #[.val (.int p0), .val (.int p1), .val (.int p2), .val (.int p3), .val (.int p4), .val (.int (3 : Int32)), .val (.int (f1 p1)), .val (.int (f1 p2)), .val (.int (f1 p3)), .val (.int (f1 p4)), .val (.ref b35), .unset, .unset, .unset] []))
      refine own_to (fun _ kz => XS.aload X61.here hx rfl (hb hby at_68) rfl (rfl)  kz) ?_
      show own_Fin p e below G (T61.setTop (mkF m 70 #[.val (.int p0), .val (.int p1), .val (.int p2), .val (.int p3), .val (.int p4), .val (.int (3 : Int32)), .val (.int (f1 p1)), .val (.int (f1 p2)), .val (.int (f1 p3)), .val (.int (f1 p4)), .val (.ref b35), .unset, .unset, .unset] [(.ref b35)]))
      refine own_to (fun _ kz => XS.iconst X61.here hx rfl (hb hby at_70) kz) ?_
      show own_Fin p e below G (T61.setTop (mkF m 71 #[.val (.int p0), .val (.int p1), .val (.int p2), .val (.int p3), .val (.int p4), .val (.int (3 : Int32)), .val (.int (f1 p1)), .val (.int (f1 p2)), .val (.int (f1 p3)), .val (.int (f1 p4)), .val (.ref b35), .unset, .unset, .unset] [(.int (2 : Int32)), (.ref b35)]))
      refine own_to (fun _ kz => XS.iload X61.here hx rfl (hb hby at_71) rfl  kz) ?_
      show own_Fin p e below G (T61.setTop (mkF m 73 #[.val (.int p0), .val (.int p1), .val (.int p2), .val (.int p3), .val (.int p4), .val (.int (3 : Int32)), .val (.int (f1 p1)), .val (.int (f1 p2)), .val (.int (f1 p3)), .val (.int (f1 p4)), .val (.ref b35), .unset, .unset, .unset] [(.int (f1 p3)), (.int (2 : Int32)), (.ref b35)]))
      obtain ⟨nn73, cl73, Ar73, Sz73, Hs73⟩ := V61
      obtain ⟨T73, h73, X73, e73, W73, st73⟩ := stI X61 hx hZ e61 Ar73 (j := (2 : Int32)) (own_in Sz73 (by decide) rfl (by decide)) (g := (mkF m 73 #[.val (.int p0), .val (.int p1), .val (.int p2), .val (.int p3), .val (.int p4), .val (.int (3 : Int32)), .val (.int (f1 p1)), .val (.int (f1 p2)), .val (.int (f1 p3)), .val (.int (f1 p4)), .val (.ref b35), .unset, .unset, .unset] [(.int (f1 p3)), (.int (2 : Int32)), (.ref b35)])) rfl rfl (hb hby at_73)
      refine own_to st73 ?_
      have V73 : own_AV Value.int Z h73 b35 .int 3 (own_upd (own_upd (own_upd (fun _ => (0 : Int32)) 0 (f1 p1)) 1 (f1 p2)) 2 (f1 p3)) := own_AV.set nn73 Ar73 Sz73 Hs73 W73 rfl
      have N73 := Fr.snoc X73 N61 g_b35
      show own_Fin p e below G (T73.setTop (mkF m 74 #[.val (.int p0), .val (.int p1), .val (.int p2), .val (.int p3), .val (.int p4), .val (.int (3 : Int32)), .val (.int (f1 p1)), .val (.int (f1 p2)), .val (.int (f1 p3)), .val (.int (f1 p4)), .val (.ref b35), .unset, .unset, .unset] []))
      refine own_to (fun _ kz => XS.iload X73.here hx rfl (hb hby at_74) rfl  kz) ?_
      show own_Fin p e below G (T73.setTop (mkF m 76 #[.val (.int p0), .val (.int p1), .val (.int p2), .val (.int p3), .val (.int p4), .val (.int (3 : Int32)), .val (.int (f1 p1)), .val (.int (f1 p2)), .val (.int (f1 p3)), .val (.int (f1 p4)), .val (.ref b35), .unset, .unset, .unset] [(.int (3 : Int32))]))
      refine own_to (fun _ kz => XS.iconst X73.here hx rfl (hb hby at_76) kz) ?_
      show own_Fin p e below G (T73.setTop (mkF m 77 #[.val (.int p0), .val (.int p1), .val (.int p2), .val (.int p3), .val (.int p4), .val (.int (3 : Int32)), .val (.int (f1 p1)), .val (.int (f1 p2)), .val (.int (f1 p3)), .val (.int (f1 p4)), .val (.ref b35), .unset, .unset, .unset] [(.int (3 : Int32)), (.int (3 : Int32))]))
      have hc77 : ¬ ((3 : Int32) < (3 : Int32)) := by decide
      refine own_to (fun _ kz => XS.icmpYes X73.here hx rfl (pc0 := 77) (pc' := 86) rfl (hb hby at_77) rfl (flt hc77).2.2.2 (by decide) (by decide) kz) ?_
      show own_Fin p e below G (T73.setTop (mkF m 86 #[.val (.int p0), .val (.int p1), .val (.int p2), .val (.int p3), .val (.int p4), .val (.int (3 : Int32)), .val (.int (f1 p1)), .val (.int (f1 p2)), .val (.int (f1 p3)), .val (.int (f1 p4)), .val (.ref b35), .unset, .unset, .unset] []))
      have Zz_86_E35'3 := Nat.le_trans Z0 E35.1
      have Zz_86_W49'2 := Nat.le_trans Zz_86_E35'3 (Nat.le_of_eq (Wr.size W49).symm)
      have Zz_86_W61'1 := Nat.le_trans Zz_86_W49'2 (Nat.le_of_eq (Wr.size W61).symm)
      have Zz_86_W73 := Nat.le_trans Zz_86_W61'1 (Nat.le_of_eq (Wr.size W73).symm)
      have Z_86'3 : n0 ≤ h73.size := Zz_86_W73
      obtain ⟨T86, h86, X86, e86, E86, A86, D86, -, st86⟩ := newO X73 hx hZ hown (hw _ (List.mem_of_getElem? (i := 6) rfl)) (hw _ (List.mem_of_getElem? (i := 7) rfl)) (hw _ (List.mem_of_getElem? (i := 8) rfl)) e73 (g := (mkF m 86 #[.val (.int p0), .val (.int p1), .val (.int p2), .val (.int p3), .val (.int p4), .val (.int (3 : Int32)), .val (.int (f1 p1)), .val (.int (f1 p2)), .val (.int (f1 p3)), .val (.int (f1 p4)), .val (.ref b35), .unset, .unset, .unset] [])) rfl (hb hby at_86) (by decide) (by decide)
      obtain ⟨b86, g86⟩ : ∃ z, z = h73.size := ⟨_, rfl⟩
      rw [← g86] at A86 D86 st86
      refine own_to st86 ?_
      have ne_b35_b86'3 : b35 ≠ b86 := Nat.ne_of_lt (Nat.lt_of_lt_of_le V73.lt (Nat.le_of_eq g86.symm))
      have g_b86 : n0 ≤ b86 := Nat.le_trans Z_86'3 (Nat.le_of_eq g86.symm)
      have F_wavelengths_b86'3 : Fld Z h86 b86 "wavegauge/model/Capacities" "wavelengths" "[I" .null := D86 (Or.inr (hw _ (List.mem_of_getElem? (i := 25) rfl))) (ty := (.array .int)) (by decide)
      show own_Fin p e below G (T86.setTop (mkF m 89 #[.val (.int p0), .val (.int p1), .val (.int p2), .val (.int p3), .val (.int p4), .val (.int (3 : Int32)), .val (.int (f1 p1)), .val (.int (f1 p2)), .val (.int (f1 p3)), .val (.int (f1 p4)), .val (.ref b35), .unset, .unset, .unset] [(.ref b86)]))
      refine own_to (fun _ kz => XS.dup X86.here hx rfl (hb hby at_89) rfl rfl kz) ?_
      show own_Fin p e below G (T86.setTop (mkF m 90 #[.val (.int p0), .val (.int p1), .val (.int p2), .val (.int p3), .val (.int p4), .val (.int (3 : Int32)), .val (.int (f1 p1)), .val (.int (f1 p2)), .val (.int (f1 p3)), .val (.int (f1 p4)), .val (.ref b35), .unset, .unset, .unset] [(.ref b86), (.ref b86)]))
      refine own_to (fun _ kz => XS.aload X86.here hx rfl (hb hby at_90) rfl (rfl)  kz) ?_
      show own_Fin p e below G (T86.setTop (mkF m 92 #[.val (.int p0), .val (.int p1), .val (.int p2), .val (.int p3), .val (.int p4), .val (.int (3 : Int32)), .val (.int (f1 p1)), .val (.int (f1 p2)), .val (.int (f1 p3)), .val (.int (f1 p4)), .val (.ref b35), .unset, .unset, .unset] [(.ref b35), (.ref b86), (.ref b86)]))
      have V73_at_92 : own_AV Value.int Z h86 b35 .int 3 (own_upd (own_upd (own_upd (fun _ => (0 : Int32)) 0 (f1 p1)) 1 (f1 p2)) 2 (f1 p3)) := (V73.ext E86)
      have Xa35_at_92'3 : Exa Z h86 b35 "[I" := ((((Xa35.wr W49).wr W61).wr W73).ext E86)
      have Zz_92_E86'3 := Nat.le_trans Z_86'3 E86.1
      have Z_92'3 : n0 ≤ h86.size := Zz_92_E86'3
      obtain ⟨_, _, ⟨T92, L92, k92, n92⟩, -, X92, ⟨Lc92, hQ92, l92, y92, z92⟩, st92⟩ := X86.specialBack hx (y := (⟨"wavegauge/model/Capacities", "<init>", "([I)V"⟩ : MethodName)) rfl hown (mvT hZ (hw _ (List.mem_of_getElem? (i := 9) rfl))) (mvT hZ (hw _ (List.mem_of_getElem? (i := 10) rfl))) (mvT hZ (hw _ (List.mem_of_getElem? (i := 11) rfl))) (by decide) (backOf (W := 1) (rm2 l Z a0 hw [] b86 b35 3 (own_upd (own_upd (own_upd (fun _ => (0 : Int32)) 0 (f1 p1)) 1 (f1 p2)) 2 (f1 p3)) h86 n0 Z_92'3 A86 F_wavelengths_b86'3 g_b86 V73_at_92 Xa35_at_92'3 (fun i _ => ((own_updr (P := own_R) (own_cnt _) (own_updr (P := own_R) (own_cnt _) (own_updr (P := own_R) (own_cnt _) (fun _ => own_R0))))) i) (by decide)) hZ (hw _ (List.mem_of_getElem? (i := 11) rfl)) (hw _ (List.mem_of_getElem? (i := 8) rfl)) (by decide) (by decide)) (g := (mkF m 92 #[.val (.int p0), .val (.int p1), .val (.int p2), .val (.int p3), .val (.int p4), .val (.int (3 : Int32)), .val (.int (f1 p1)), .val (.int (f1 p2)), .val (.int (f1 p3)), .val (.int (f1 p4)), .val (.ref b35), .unset, .unset, .unset] [(.ref b35), (.ref b86), (.ref b86)])) rfl (by rw [hml]; rfl) (Steps.refl _) (a := b86) (argsL := [(.ref b35)]) (rest := [(.ref b86)]) (lenOf own_pd1 rfl) rfl (by show 2 * 0 + _ ≤ _; exact Nat.le_of_eq rfl) (hb hby at_92) (fun _ _ => ⟨rfl, e86, (by decide : 2 + 1 ≤ _), (by decide : 4 + 4 ≤ _)⟩)
      dsimp only [Pt.U, Pt.locs, Pt.cells, Pt.slots] at X92 l92 y92 z92 st92 hQ92
      subst l92 y92 z92
      obtain ⟨rfl, N92q, Kp92, PE92, b92, szq92, PF92, PV92⟩ := hQ92
      have ne_b35_b92'3 : b35 ≠ b92 := Nat.ne_of_lt (Nat.lt_of_lt_of_le V73_at_92.lt szq92)
      have ne_b86_b92'3 : b86 ≠ b92 := Nat.ne_of_lt (Nat.lt_of_lt_of_le A86.lt szq92)
      have N92 := Fr.app N73 N92q
      refine own_via st92 ?_
      show own_Fin p e below G (T92.setTop (mkF m 95 #[.val (.int p0), .val (.int p1), .val (.int p2), .val (.int p3), .val (.int p4), .val (.int (3 : Int32)), .val (.int (f1 p1)), .val (.int (f1 p2)), .val (.int (f1 p3)), .val (.int (f1 p4)), .val (.ref b35), .unset, .unset, .unset] [(.ref b86)]))
      refine own_to (fun _ kz => XS.astore X92.here hx rfl (hb hby at_95) rfl (rfl) (l' := #[.val (.int p0), .val (.int p1), .val (.int p2), .val (.int p3), .val (.int p4), .val (.int (3 : Int32)), .val (.int (f1 p1)), .val (.int (f1 p2)), .val (.int (f1 p3)), .val (.int (f1 p4)), .val (.ref b35), .val (.ref b86), .unset, .unset]) rfl kz) ?_
      show own_Fin p e below G (T92.setTop (mkF m 97 #[.val (.int p0), .val (.int p1), .val (.int p2), .val (.int p3), .val (.int p4), .val (.int (3 : Int32)), .val (.int (f1 p1)), .val (.int (f1 p2)), .val (.int (f1 p3)), .val (.int (f1 p4)), .val (.ref b35), .val (.ref b86), .unset, .unset] []))
      refine own_to (fun _ kz => XS.lconst X92.here hx rfl (hb hby at_97) kz) ?_
      show own_Fin p e below G (T92.setTop (mkF m 98 #[.val (.int p0), .val (.int p1), .val (.int p2), .val (.int p3), .val (.int p4), .val (.int (3 : Int32)), .val (.int (f1 p1)), .val (.int (f1 p2)), .val (.int (f1 p3)), .val (.int (f1 p4)), .val (.ref b35), .val (.ref b86), .unset, .unset] [(.long (0 : Int64))]))
      refine own_to (fun _ kz => XS.lstore X92.here hx rfl (hb hby at_98) rfl (l' := #[.val (.int p0), .val (.int p1), .val (.int p2), .val (.int p3), .val (.int p4), .val (.int (3 : Int32)), .val (.int (f1 p1)), .val (.int (f1 p2)), .val (.int (f1 p3)), .val (.int (f1 p4)), .val (.ref b35), .val (.ref b86), .val (.long (0 : Int64)), .second]) rfl kz) ?_
      show own_Fin p e below G (T92.setTop (mkF m 100 #[.val (.int p0), .val (.int p1), .val (.int p2), .val (.int p3), .val (.int p4), .val (.int (3 : Int32)), .val (.int (f1 p1)), .val (.int (f1 p2)), .val (.int (f1 p3)), .val (.int (f1 p4)), .val (.ref b35), .val (.ref b86), .val (.long (0 : Int64)), .second] []))
      refine own_to (fun _ kz => XS.iload X92.here hx rfl (hb hby at_100) rfl  kz) ?_
      show own_Fin p e below G (T92.setTop (mkF m 102 #[.val (.int p0), .val (.int p1), .val (.int p2), .val (.int p3), .val (.int p4), .val (.int (3 : Int32)), .val (.int (f1 p1)), .val (.int (f1 p2)), .val (.int (f1 p3)), .val (.int (f1 p4)), .val (.ref b35), .val (.ref b86), .val (.long (0 : Int64)), .second] [(.int (3 : Int32))]))
      have hc102 : (0 : Int32) < (3 : Int32) := by decide
      refine own_to (fun _ kz => XS.ifNo X92.here hx rfl (hb hby at_102) rfl ((if0 _ _).trans (tlt hc102).2.2.2) kz) ?_
      show own_Fin p e below G (T92.setTop (mkF m 105 #[.val (.int p0), .val (.int p1), .val (.int p2), .val (.int p3), .val (.int p4), .val (.int (3 : Int32)), .val (.int (f1 p1)), .val (.int (f1 p2)), .val (.int (f1 p3)), .val (.int (f1 p4)), .val (.ref b35), .val (.ref b86), .val (.long (0 : Int64)), .second] []))
      refine own_to (fun _ kz => XS.lload X92.here hx rfl (hb hby at_105) rfl  kz) ?_
      show own_Fin p e below G (T92.setTop (mkF m 107 #[.val (.int p0), .val (.int p1), .val (.int p2), .val (.int p3), .val (.int p4), .val (.int (3 : Int32)), .val (.int (f1 p1)), .val (.int (f1 p2)), .val (.int (f1 p3)), .val (.int (f1 p4)), .val (.ref b35), .val (.ref b86), .val (.long (0 : Int64)), .second] [(.long (0 : Int64))]))
      refine own_to (fun _ kz => XS.iload X92.here hx rfl (hb hby at_107) rfl  kz) ?_
      show own_Fin p e below G (T92.setTop (mkF m 109 #[.val (.int p0), .val (.int p1), .val (.int p2), .val (.int p3), .val (.int p4), .val (.int (3 : Int32)), .val (.int (f1 p1)), .val (.int (f1 p2)), .val (.int (f1 p3)), .val (.int (f1 p4)), .val (.ref b35), .val (.ref b86), .val (.long (0 : Int64)), .second] [(.int (f1 p1)), (.long (0 : Int64))]))
      refine own_to (fun _ kz => XS.i2l X92.here hx rfl (hb hby at_109) rfl kz) ?_
      show own_Fin p e below G (T92.setTop (mkF m 110 #[.val (.int p0), .val (.int p1), .val (.int p2), .val (.int p3), .val (.int p4), .val (.int (3 : Int32)), .val (.int (f1 p1)), .val (.int (f1 p2)), .val (.int (f1 p3)), .val (.int (f1 p4)), .val (.ref b35), .val (.ref b86), .val (.long (0 : Int64)), .second] [(.long ((f1 p1).toInt64)), (.long (0 : Int64))]))
      refine own_to (fun _ kz => XS.ladd X92.here hx rfl (hb hby at_110) rfl kz) ?_
      show own_Fin p e below G (T92.setTop (mkF m 111 #[.val (.int p0), .val (.int p1), .val (.int p2), .val (.int p3), .val (.int p4), .val (.int (3 : Int32)), .val (.int (f1 p1)), .val (.int (f1 p2)), .val (.int (f1 p3)), .val (.int (f1 p4)), .val (.ref b35), .val (.ref b86), .val (.long (0 : Int64)), .second] [(.long ((0 : Int64) + ((f1 p1).toInt64)))]))
      refine own_to (fun _ kz => XS.lstore X92.here hx rfl (hb hby at_111) rfl (l' := #[.val (.int p0), .val (.int p1), .val (.int p2), .val (.int p3), .val (.int p4), .val (.int (3 : Int32)), .val (.int (f1 p1)), .val (.int (f1 p2)), .val (.int (f1 p3)), .val (.int (f1 p4)), .val (.ref b35), .val (.ref b86), .val (.long ((0 : Int64) + ((f1 p1).toInt64))), .second]) rfl kz) ?_
      show own_Fin p e below G (T92.setTop (mkF m 113 #[.val (.int p0), .val (.int p1), .val (.int p2), .val (.int p3), .val (.int p4), .val (.int (3 : Int32)), .val (.int (f1 p1)), .val (.int (f1 p2)), .val (.int (f1 p3)), .val (.int (f1 p4)), .val (.ref b35), .val (.ref b86), .val (.long ((0 : Int64) + ((f1 p1).toInt64))), .second] []))
      refine own_to (fun _ kz => XS.iload X92.here hx rfl (hb hby at_113) rfl  kz) ?_
      show own_Fin p e below G (T92.setTop (mkF m 115 #[.val (.int p0), .val (.int p1), .val (.int p2), .val (.int p3), .val (.int p4), .val (.int (3 : Int32)), .val (.int (f1 p1)), .val (.int (f1 p2)), .val (.int (f1 p3)), .val (.int (f1 p4)), .val (.ref b35), .val (.ref b86), .val (.long ((0 : Int64) + ((f1 p1).toInt64))), .second] [(.int (3 : Int32))]))
      refine own_to (fun _ kz => XS.iconst X92.here hx rfl (hb hby at_115) kz) ?_
      show own_Fin p e below G (T92.setTop (mkF m 116 #[.val (.int p0), .val (.int p1), .val (.int p2), .val (.int p3), .val (.int p4), .val (.int (3 : Int32)), .val (.int (f1 p1)), .val (.int (f1 p2)), .val (.int (f1 p3)), .val (.int (f1 p4)), .val (.ref b35), .val (.ref b86), .val (.long ((0 : Int64) + ((f1 p1).toInt64))), .second] [(.int (1 : Int32)), (.int (3 : Int32))]))
      have hc116 : (1 : Int32) < (3 : Int32) := by decide
      refine own_to (fun _ kz => XS.icmpNo X92.here hx rfl (hb hby at_116) rfl (tlt hc116).2.2.2 kz) ?_
      show own_Fin p e below G (T92.setTop (mkF m 119 #[.val (.int p0), .val (.int p1), .val (.int p2), .val (.int p3), .val (.int p4), .val (.int (3 : Int32)), .val (.int (f1 p1)), .val (.int (f1 p2)), .val (.int (f1 p3)), .val (.int (f1 p4)), .val (.ref b35), .val (.ref b86), .val (.long ((0 : Int64) + ((f1 p1).toInt64))), .second] []))
      refine own_to (fun _ kz => XS.lload X92.here hx rfl (hb hby at_119) rfl  kz) ?_
      show own_Fin p e below G (T92.setTop (mkF m 121 #[.val (.int p0), .val (.int p1), .val (.int p2), .val (.int p3), .val (.int p4), .val (.int (3 : Int32)), .val (.int (f1 p1)), .val (.int (f1 p2)), .val (.int (f1 p3)), .val (.int (f1 p4)), .val (.ref b35), .val (.ref b86), .val (.long ((0 : Int64) + ((f1 p1).toInt64))), .second] [(.long ((0 : Int64) + ((f1 p1).toInt64)))]))
      refine own_to (fun _ kz => XS.iload X92.here hx rfl (hb hby at_121) rfl  kz) ?_
      show own_Fin p e below G (T92.setTop (mkF m 123 #[.val (.int p0), .val (.int p1), .val (.int p2), .val (.int p3), .val (.int p4), .val (.int (3 : Int32)), .val (.int (f1 p1)), .val (.int (f1 p2)), .val (.int (f1 p3)), .val (.int (f1 p4)), .val (.ref b35), .val (.ref b86), .val (.long ((0 : Int64) + ((f1 p1).toInt64))), .second] [(.int (f1 p2)), (.long ((0 : Int64) + ((f1 p1).toInt64)))]))
      refine own_to (fun _ kz => XS.i2l X92.here hx rfl (hb hby at_123) rfl kz) ?_
      show own_Fin p e below G (T92.setTop (mkF m 124 #[.val (.int p0), .val (.int p1), .val (.int p2), .val (.int p3), .val (.int p4), .val (.int (3 : Int32)), .val (.int (f1 p1)), .val (.int (f1 p2)), .val (.int (f1 p3)), .val (.int (f1 p4)), .val (.ref b35), .val (.ref b86), .val (.long ((0 : Int64) + ((f1 p1).toInt64))), .second] [(.long ((f1 p2).toInt64)), (.long ((0 : Int64) + ((f1 p1).toInt64)))]))
      refine own_to (fun _ kz => XS.ladd X92.here hx rfl (hb hby at_124) rfl kz) ?_
      show own_Fin p e below G (T92.setTop (mkF m 125 #[.val (.int p0), .val (.int p1), .val (.int p2), .val (.int p3), .val (.int p4), .val (.int (3 : Int32)), .val (.int (f1 p1)), .val (.int (f1 p2)), .val (.int (f1 p3)), .val (.int (f1 p4)), .val (.ref b35), .val (.ref b86), .val (.long ((0 : Int64) + ((f1 p1).toInt64))), .second] [(.long (((0 : Int64) + ((f1 p1).toInt64)) + ((f1 p2).toInt64)))]))
      refine own_to (fun _ kz => XS.lstore X92.here hx rfl (hb hby at_125) rfl (l' := #[.val (.int p0), .val (.int p1), .val (.int p2), .val (.int p3), .val (.int p4), .val (.int (3 : Int32)), .val (.int (f1 p1)), .val (.int (f1 p2)), .val (.int (f1 p3)), .val (.int (f1 p4)), .val (.ref b35), .val (.ref b86), .val (.long (((0 : Int64) + ((f1 p1).toInt64)) + ((f1 p2).toInt64))), .second]) rfl kz) ?_
      show own_Fin p e below G (T92.setTop (mkF m 127 #[.val (.int p0), .val (.int p1), .val (.int p2), .val (.int p3), .val (.int p4), .val (.int (3 : Int32)), .val (.int (f1 p1)), .val (.int (f1 p2)), .val (.int (f1 p3)), .val (.int (f1 p4)), .val (.ref b35), .val (.ref b86), .val (.long (((0 : Int64) + ((f1 p1).toInt64)) + ((f1 p2).toInt64))), .second] []))
      refine own_to (fun _ kz => XS.iload X92.here hx rfl (hb hby at_127) rfl  kz) ?_
      show own_Fin p e below G (T92.setTop (mkF m 129 #[.val (.int p0), .val (.int p1), .val (.int p2), .val (.int p3), .val (.int p4), .val (.int (3 : Int32)), .val (.int (f1 p1)), .val (.int (f1 p2)), .val (.int (f1 p3)), .val (.int (f1 p4)), .val (.ref b35), .val (.ref b86), .val (.long (((0 : Int64) + ((f1 p1).toInt64)) + ((f1 p2).toInt64))), .second] [(.int (3 : Int32))]))
      refine own_to (fun _ kz => XS.iconst X92.here hx rfl (hb hby at_129) kz) ?_
      show own_Fin p e below G (T92.setTop (mkF m 130 #[.val (.int p0), .val (.int p1), .val (.int p2), .val (.int p3), .val (.int p4), .val (.int (3 : Int32)), .val (.int (f1 p1)), .val (.int (f1 p2)), .val (.int (f1 p3)), .val (.int (f1 p4)), .val (.ref b35), .val (.ref b86), .val (.long (((0 : Int64) + ((f1 p1).toInt64)) + ((f1 p2).toInt64))), .second] [(.int (2 : Int32)), (.int (3 : Int32))]))
      have hc130 : (2 : Int32) < (3 : Int32) := by decide
      refine own_to (fun _ kz => XS.icmpNo X92.here hx rfl (hb hby at_130) rfl (tlt hc130).2.2.2 kz) ?_
      show own_Fin p e below G (T92.setTop (mkF m 133 #[.val (.int p0), .val (.int p1), .val (.int p2), .val (.int p3), .val (.int p4), .val (.int (3 : Int32)), .val (.int (f1 p1)), .val (.int (f1 p2)), .val (.int (f1 p3)), .val (.int (f1 p4)), .val (.ref b35), .val (.ref b86), .val (.long (((0 : Int64) + ((f1 p1).toInt64)) + ((f1 p2).toInt64))), .second] []))
      refine own_to (fun _ kz => XS.lload X92.here hx rfl (hb hby at_133) rfl  kz) ?_
      show own_Fin p e below G (T92.setTop (mkF m 135 #[.val (.int p0), .val (.int p1), .val (.int p2), .val (.int p3), .val (.int p4), .val (.int (3 : Int32)), .val (.int (f1 p1)), .val (.int (f1 p2)), .val (.int (f1 p3)), .val (.int (f1 p4)), .val (.ref b35), .val (.ref b86), .val (.long (((0 : Int64) + ((f1 p1).toInt64)) + ((f1 p2).toInt64))), .second] [(.long (((0 : Int64) + ((f1 p1).toInt64)) + ((f1 p2).toInt64)))]))
      refine own_to (fun _ kz => XS.iload X92.here hx rfl (hb hby at_135) rfl  kz) ?_
      show own_Fin p e below G (T92.setTop (mkF m 137 #[.val (.int p0), .val (.int p1), .val (.int p2), .val (.int p3), .val (.int p4), .val (.int (3 : Int32)), .val (.int (f1 p1)), .val (.int (f1 p2)), .val (.int (f1 p3)), .val (.int (f1 p4)), .val (.ref b35), .val (.ref b86), .val (.long (((0 : Int64) + ((f1 p1).toInt64)) + ((f1 p2).toInt64))), .second] [(.int (f1 p3)), (.long (((0 : Int64) + ((f1 p1).toInt64)) + ((f1 p2).toInt64)))]))
      refine own_to (fun _ kz => XS.i2l X92.here hx rfl (hb hby at_137) rfl kz) ?_
      show own_Fin p e below G (T92.setTop (mkF m 138 #[.val (.int p0), .val (.int p1), .val (.int p2), .val (.int p3), .val (.int p4), .val (.int (3 : Int32)), .val (.int (f1 p1)), .val (.int (f1 p2)), .val (.int (f1 p3)), .val (.int (f1 p4)), .val (.ref b35), .val (.ref b86), .val (.long (((0 : Int64) + ((f1 p1).toInt64)) + ((f1 p2).toInt64))), .second] [(.long ((f1 p3).toInt64)), (.long (((0 : Int64) + ((f1 p1).toInt64)) + ((f1 p2).toInt64)))]))
      refine own_to (fun _ kz => XS.ladd X92.here hx rfl (hb hby at_138) rfl kz) ?_
      show own_Fin p e below G (T92.setTop (mkF m 139 #[.val (.int p0), .val (.int p1), .val (.int p2), .val (.int p3), .val (.int p4), .val (.int (3 : Int32)), .val (.int (f1 p1)), .val (.int (f1 p2)), .val (.int (f1 p3)), .val (.int (f1 p4)), .val (.ref b35), .val (.ref b86), .val (.long (((0 : Int64) + ((f1 p1).toInt64)) + ((f1 p2).toInt64))), .second] [(.long ((((0 : Int64) + ((f1 p1).toInt64)) + ((f1 p2).toInt64)) + ((f1 p3).toInt64)))]))
      refine own_to (fun _ kz => XS.lstore X92.here hx rfl (hb hby at_139) rfl (l' := #[.val (.int p0), .val (.int p1), .val (.int p2), .val (.int p3), .val (.int p4), .val (.int (3 : Int32)), .val (.int (f1 p1)), .val (.int (f1 p2)), .val (.int (f1 p3)), .val (.int (f1 p4)), .val (.ref b35), .val (.ref b86), .val (.long ((((0 : Int64) + ((f1 p1).toInt64)) + ((f1 p2).toInt64)) + ((f1 p3).toInt64))), .second]) rfl kz) ?_
      show own_Fin p e below G (T92.setTop (mkF m 141 #[.val (.int p0), .val (.int p1), .val (.int p2), .val (.int p3), .val (.int p4), .val (.int (3 : Int32)), .val (.int (f1 p1)), .val (.int (f1 p2)), .val (.int (f1 p3)), .val (.int (f1 p4)), .val (.ref b35), .val (.ref b86), .val (.long ((((0 : Int64) + ((f1 p1).toInt64)) + ((f1 p2).toInt64)) + ((f1 p3).toInt64))), .second] []))
      refine own_to (fun _ kz => XS.iload X92.here hx rfl (hb hby at_141) rfl  kz) ?_
      show own_Fin p e below G (T92.setTop (mkF m 143 #[.val (.int p0), .val (.int p1), .val (.int p2), .val (.int p3), .val (.int p4), .val (.int (3 : Int32)), .val (.int (f1 p1)), .val (.int (f1 p2)), .val (.int (f1 p3)), .val (.int (f1 p4)), .val (.ref b35), .val (.ref b86), .val (.long ((((0 : Int64) + ((f1 p1).toInt64)) + ((f1 p2).toInt64)) + ((f1 p3).toInt64))), .second] [(.int (3 : Int32))]))
      refine own_to (fun _ kz => XS.iconst X92.here hx rfl (hb hby at_143) kz) ?_
      show own_Fin p e below G (T92.setTop (mkF m 144 #[.val (.int p0), .val (.int p1), .val (.int p2), .val (.int p3), .val (.int p4), .val (.int (3 : Int32)), .val (.int (f1 p1)), .val (.int (f1 p2)), .val (.int (f1 p3)), .val (.int (f1 p4)), .val (.ref b35), .val (.ref b86), .val (.long ((((0 : Int64) + ((f1 p1).toInt64)) + ((f1 p2).toInt64)) + ((f1 p3).toInt64))), .second] [(.int (3 : Int32)), (.int (3 : Int32))]))
      have hc144 : ¬ ((3 : Int32) < (3 : Int32)) := by decide
      refine own_to (fun _ kz => XS.icmpYes X92.here hx rfl (pc0 := 144) (pc' := 155) rfl (hb hby at_144) rfl (flt hc144).2.2.2 (by decide) (by decide) kz) ?_
      show own_Fin p e below G (T92.setTop (mkF m 155 #[.val (.int p0), .val (.int p1), .val (.int p2), .val (.int p3), .val (.int p4), .val (.int (3 : Int32)), .val (.int (f1 p1)), .val (.int (f1 p2)), .val (.int (f1 p3)), .val (.int (f1 p4)), .val (.ref b35), .val (.ref b86), .val (.long ((((0 : Int64) + ((f1 p1).toInt64)) + ((f1 p2).toInt64)) + ((f1 p3).toInt64))), .second] []))
      refine own_to (fun _ kz => XS.iload X92.here hx rfl (hb hby at_155) rfl  kz) ?_
      show own_Fin p e below G (T92.setTop (mkF m 157 #[.val (.int p0), .val (.int p1), .val (.int p2), .val (.int p3), .val (.int p4), .val (.int (3 : Int32)), .val (.int (f1 p1)), .val (.int (f1 p2)), .val (.int (f1 p3)), .val (.int (f1 p4)), .val (.ref b35), .val (.ref b86), .val (.long ((((0 : Int64) + ((f1 p1).toInt64)) + ((f1 p2).toInt64)) + ((f1 p3).toInt64))), .second] [(.int (3 : Int32))]))
      have hc157 : (0 : Int32) < (3 : Int32) := by decide
      refine own_to (fun _ kz => XS.ifNo X92.here hx rfl (hb hby at_157) rfl ((if0 _ _).trans (tlt hc157).2.2.2) kz) ?_
      show own_Fin p e below G (T92.setTop (mkF m 160 #[.val (.int p0), .val (.int p1), .val (.int p2), .val (.int p3), .val (.int p4), .val (.int (3 : Int32)), .val (.int (f1 p1)), .val (.int (f1 p2)), .val (.int (f1 p3)), .val (.int (f1 p4)), .val (.ref b35), .val (.ref b86), .val (.long ((((0 : Int64) + ((f1 p1).toInt64)) + ((f1 p2).toInt64)) + ((f1 p3).toInt64))), .second] []))
      refine own_to (fun _ kz => XS.aload X92.here hx rfl (hb hby at_160) rfl (rfl)  kz) ?_
      show own_Fin p e below G (T92.setTop (mkF m 162 #[.val (.int p0), .val (.int p1), .val (.int p2), .val (.int p3), .val (.int p4), .val (.int (3 : Int32)), .val (.int (f1 p1)), .val (.int (f1 p2)), .val (.int (f1 p3)), .val (.int (f1 p4)), .val (.ref b35), .val (.ref b86), .val (.long ((((0 : Int64) + ((f1 p1).toInt64)) + ((f1 p2).toInt64)) + ((f1 p3).toInt64))), .second] [(.ref b35)]))
      refine own_to (fun _ kz => XS.iconst X92.here hx rfl (hb hby at_162) kz) ?_
      show own_Fin p e below G (T92.setTop (mkF m 163 #[.val (.int p0), .val (.int p1), .val (.int p2), .val (.int p3), .val (.int p4), .val (.int (3 : Int32)), .val (.int (f1 p1)), .val (.int (f1 p2)), .val (.int (f1 p3)), .val (.int (f1 p4)), .val (.ref b35), .val (.ref b86), .val (.long ((((0 : Int64) + ((f1 p1).toInt64)) + ((f1 p2).toInt64)) + ((f1 p3).toInt64))), .second] [(.int (0 : Int32)), (.ref b35)]))
      refine own_to (fun _ kz => XS.sipush X92.here hx rfl (hb hby at_163) kz) ?_
      show own_Fin p e below G (T92.setTop (mkF m 166 #[.val (.int p0), .val (.int p1), .val (.int p2), .val (.int p3), .val (.int p4), .val (.int (3 : Int32)), .val (.int (f1 p1)), .val (.int (f1 p2)), .val (.int (f1 p3)), .val (.int (f1 p4)), .val (.ref b35), .val (.ref b86), .val (.long ((((0 : Int64) + ((f1 p1).toInt64)) + ((f1 p2).toInt64)) + ((f1 p3).toInt64))), .second] [(.int (320 : Int32)), (.int (0 : Int32)), (.ref b35)]))
      refine own_to (fun _ kz => XS.iload X92.here hx rfl (hb hby at_166) rfl  kz) ?_
      show own_Fin p e below G (T92.setTop (mkF m 168 #[.val (.int p0), .val (.int p1), .val (.int p2), .val (.int p3), .val (.int p4), .val (.int (3 : Int32)), .val (.int (f1 p1)), .val (.int (f1 p2)), .val (.int (f1 p3)), .val (.int (f1 p4)), .val (.ref b35), .val (.ref b86), .val (.long ((((0 : Int64) + ((f1 p1).toInt64)) + ((f1 p2).toInt64)) + ((f1 p3).toInt64))), .second] [(.int (f1 p1)), (.int (320 : Int32)), (.int (0 : Int32)), (.ref b35)]))
      refine own_to (fun _ kz => XS.isub X92.here hx rfl (hb hby at_168) rfl kz) ?_
      show own_Fin p e below G (T92.setTop (mkF m 169 #[.val (.int p0), .val (.int p1), .val (.int p2), .val (.int p3), .val (.int p4), .val (.int (3 : Int32)), .val (.int (f1 p1)), .val (.int (f1 p2)), .val (.int (f1 p3)), .val (.int (f1 p4)), .val (.ref b35), .val (.ref b86), .val (.long ((((0 : Int64) + ((f1 p1).toInt64)) + ((f1 p2).toInt64)) + ((f1 p3).toInt64))), .second] [(.int ((320 : Int32) - (f1 p1))), (.int (0 : Int32)), (.ref b35)]))
      have V73_at_169 : own_AV Value.int Z T92.heap b35 .int 3 (own_upd (own_upd (own_upd (fun _ => (0 : Int32)) 0 (f1 p1)) 1 (f1 p2)) 2 (f1 p3)) := (V73_at_92.keep Kp92 (ninS ne_b35_b86'3 nin0))
      obtain ⟨nn169, cl169, Ar169, Sz169, Hs169⟩ := V73_at_169
      obtain ⟨T169, h169, X169, e169, W169, st169⟩ := stI X92 hx hZ rfl Ar169 (j := (0 : Int32)) (own_in Sz169 (by decide) rfl (by decide)) (g := (mkF m 169 #[.val (.int p0), .val (.int p1), .val (.int p2), .val (.int p3), .val (.int p4), .val (.int (3 : Int32)), .val (.int (f1 p1)), .val (.int (f1 p2)), .val (.int (f1 p3)), .val (.int (f1 p4)), .val (.ref b35), .val (.ref b86), .val (.long ((((0 : Int64) + ((f1 p1).toInt64)) + ((f1 p2).toInt64)) + ((f1 p3).toInt64))), .second] [(.int ((320 : Int32) - (f1 p1))), (.int (0 : Int32)), (.ref b35)])) rfl rfl (hb hby at_169)
      refine own_to st169 ?_
      have V169 : own_AV Value.int Z h169 b35 .int 3 (own_upd (own_upd (own_upd (own_upd (fun _ => (0 : Int32)) 0 (f1 p1)) 1 (f1 p2)) 2 (f1 p3)) 0 ((320 : Int32) - (f1 p1))) := own_AV.set nn169 Ar169 Sz169 Hs169 W169 rfl
      have N169 := Fr.snoc X169 N92 g_b35
      show own_Fin p e below G (T169.setTop (mkF m 170 #[.val (.int p0), .val (.int p1), .val (.int p2), .val (.int p3), .val (.int p4), .val (.int (3 : Int32)), .val (.int (f1 p1)), .val (.int (f1 p2)), .val (.int (f1 p3)), .val (.int (f1 p4)), .val (.ref b35), .val (.ref b86), .val (.long ((((0 : Int64) + ((f1 p1).toInt64)) + ((f1 p2).toInt64)) + ((f1 p3).toInt64))), .second] []))
      refine own_to (fun _ kz => XS.aload X169.here hx rfl (hb hby at_170) rfl (rfl)  kz) ?_
      show own_Fin p e below G (T169.setTop (mkF m 172 #[.val (.int p0), .val (.int p1), .val (.int p2), .val (.int p3), .val (.int p4), .val (.int (3 : Int32)), .val (.int (f1 p1)), .val (.int (f1 p2)), .val (.int (f1 p3)), .val (.int (f1 p4)), .val (.ref b35), .val (.ref b86), .val (.long ((((0 : Int64) + ((f1 p1).toInt64)) + ((f1 p2).toInt64)) + ((f1 p3).toInt64))), .second] [(.ref b86)]))
      have PF92_at_172'2 : Fld Z h169 b86 "wavegauge/model/Capacities" "wavelengths" "[I" (.ref b92) := (PF92.other W169 (Or.inl (Ne.symm ne_b35_b86'3)))
      have PV92_at_172'2 : own_AV Value.int Z h169 b92 .int 3 (own_upd (own_upd (own_upd (fun _ => (0 : Int32)) 0 (f1 p1)) 1 (f1 p2)) 2 (f1 p3)) := (PV92.other W169 (Ne.symm ne_b35_b92'3))
      have Zz_172_Kp92'3 := Nat.le_trans Z_92'3 Kp92.1
      have Zz_172_W169'2 := Nat.le_trans Zz_172_Kp92'3 (Nat.le_of_eq (Wr.size W169).symm)
      have Z_172'3 : n0 ≤ h169.size := Zz_172_W169'2
      have PE92_at_172'2 : Exa Z h169 b86 "wavegauge/model/Capacities" := (PE92.wr W169)
      obtain ⟨cq172, kq172, qa172, qb172, qc172⟩ := isOf hZ e169 PE92_at_172'2
      obtain ⟨_, _, ⟨T172, L172, k172, n172⟩, -, X172, ⟨Lc172, hQ172, l172, y172, z172⟩, st172⟩ := X169.virtualBack hx (y := (⟨"wavegauge/model/Capacities", "total", "()J"⟩ : MethodName)) (z := (⟨"wavegauge/model/Capacities", "total", "()J"⟩ : MethodName)) hown (mvT hZ (hw _ (List.mem_of_getElem? (i := 26) rfl))) (mvT hZ (hw _ (List.mem_of_getElem? (i := 27) rfl))) (notFace_of_selects (args := #[]) (mvT hZ (hw _ (List.mem_of_getElem? (i := 29) rfl)))) (mvT hZ (hw _ (List.mem_of_getElem? (i := 29) rfl))) (mvT hZ (hw _ (List.mem_of_getElem? (i := 28) rfl))) (by decide) (backOf (W := 0) (rm4 l Z a0 hw [] b86 3 (own_upd (own_upd (own_upd (fun _ => (0 : Int32)) 0 (f1 p1)) 1 (f1 p2)) 2 (f1 p3)) b92 h169 n0 Z_172'3 PF92_at_172'2 PV92_at_172'2) hZ (hw _ (List.mem_of_getElem? (i := 30) rfl)) (hw _ (List.mem_of_getElem? (i := 8) rfl)) (by decide) (by decide)) qa172 qc172 (g := (mkF m 172 #[.val (.int p0), .val (.int p1), .val (.int p2), .val (.int p3), .val (.int p4), .val (.int (3 : Int32)), .val (.int (f1 p1)), .val (.int (f1 p2)), .val (.int (f1 p3)), .val (.int (f1 p4)), .val (.ref b35), .val (.ref b86), .val (.long ((((0 : Int64) + ((f1 p1).toInt64)) + ((f1 p2).toInt64)) + ((f1 p3).toInt64))), .second] [(.ref b86)])) rfl (by rw [hml]; rfl) (Steps.refl _) (argsL := []) (rest := []) (lenOf own_pd2 rfl) rfl (by show 2 * 0 + _ ≤ _; exact Nat.le_of_eq rfl) (hb hby at_172) (fun _ _ => ⟨rfl, e169, (by decide : 3 + 0 ≤ _), (by decide : 8 + 0 ≤ _)⟩)
      dsimp only [Pt.U, Pt.locs, Pt.cells, Pt.slots] at X172 l172 y172 z172 st172 hQ172
      subst l172 y172 z172
      obtain ⟨rfl, N172q, e172⟩ := hQ172
      have N172 := Fr.app N169 N172q
      refine own_via st172 ?_
      show own_Fin p e below G (T172.setTop (mkF m 175 #[.val (.int p0), .val (.int p1), .val (.int p2), .val (.int p3), .val (.int p4), .val (.int (3 : Int32)), .val (.int (f1 p1)), .val (.int (f1 p2)), .val (.int (f1 p3)), .val (.int (f1 p4)), .val (.ref b35), .val (.ref b86), .val (.long ((((0 : Int64) + ((f1 p1).toInt64)) + ((f1 p2).toInt64)) + ((f1 p3).toInt64))), .second] [(.long (own_sumI (own_upd (own_upd (own_upd (fun _ => (0 : Int32)) 0 (f1 p1)) 1 (f1 p2)) 2 (f1 p3)) 3))]))
      refine own_to (fun _ kz => XS.lload X172.here hx rfl (hb hby at_175) rfl  kz) ?_
      show own_Fin p e below G (T172.setTop (mkF m 177 #[.val (.int p0), .val (.int p1), .val (.int p2), .val (.int p3), .val (.int p4), .val (.int (3 : Int32)), .val (.int (f1 p1)), .val (.int (f1 p2)), .val (.int (f1 p3)), .val (.int (f1 p4)), .val (.ref b35), .val (.ref b86), .val (.long ((((0 : Int64) + ((f1 p1).toInt64)) + ((f1 p2).toInt64)) + ((f1 p3).toInt64))), .second] [(.long ((((0 : Int64) + ((f1 p1).toInt64)) + ((f1 p2).toInt64)) + ((f1 p3).toInt64))), (.long (own_sumI (own_upd (own_upd (own_upd (fun _ => (0 : Int32)) 0 (f1 p1)) 1 (f1 p2)) 2 (f1 p3)) 3))]))
      refine own_to (fun _ kz => XS.lcmp X172.here hx rfl (hb hby at_177) rfl kz) ?_
      show own_Fin p e below G (T172.setTop (mkF m 178 #[.val (.int p0), .val (.int p1), .val (.int p2), .val (.int p3), .val (.int p4), .val (.int (3 : Int32)), .val (.int (f1 p1)), .val (.int (f1 p2)), .val (.int (f1 p3)), .val (.int (f1 p4)), .val (.ref b35), .val (.ref b86), .val (.long ((((0 : Int64) + ((f1 p1).toInt64)) + ((f1 p2).toInt64)) + ((f1 p3).toInt64))), .second] [(.int (lcmpW (own_sumI (own_upd (own_upd (own_upd (fun _ => (0 : Int32)) 0 (f1 p1)) 1 (f1 p2)) 2 (f1 p3)) 3) ((((0 : Int64) + ((f1 p1).toInt64)) + ((f1 p2).toInt64)) + ((f1 p3).toInt64))))]))
      have hc178 : (own_sumI (own_upd (own_upd (own_upd (fun _ => (0 : Int32)) 0 (f1 p1)) 1 (f1 p2)) 2 (f1 p3)) 3) = ((((0 : Int64) + ((f1 p1).toInt64)) + ((f1 p2).toInt64)) + ((f1 p3).toInt64)) := (by simp [own_sumI, own_upd])
      refine own_to (fun _ kz => XS.ifNo X172.here hx rfl (hb hby at_178) rfl ((if0 _ _).trans (teq ((lw_eq _ _).mpr hc178)).2) kz) ?_
      show own_Fin p e below G (T172.setTop (mkF m 181 #[.val (.int p0), .val (.int p1), .val (.int p2), .val (.int p3), .val (.int p4), .val (.int (3 : Int32)), .val (.int (f1 p1)), .val (.int (f1 p2)), .val (.int (f1 p3)), .val (.int (f1 p4)), .val (.ref b35), .val (.ref b86), .val (.long ((((0 : Int64) + ((f1 p1).toInt64)) + ((f1 p2).toInt64)) + ((f1 p3).toInt64))), .second] []))
      refine own_to (fun _ kz => XS.iconst X172.here hx rfl (hb hby at_181) kz) ?_
      show own_Fin p e below G (T172.setTop (mkF m 182 #[.val (.int p0), .val (.int p1), .val (.int p2), .val (.int p3), .val (.int p4), .val (.int (3 : Int32)), .val (.int (f1 p1)), .val (.int (f1 p2)), .val (.int (f1 p3)), .val (.int (f1 p4)), .val (.ref b35), .val (.ref b86), .val (.long ((((0 : Int64) + ((f1 p1).toInt64)) + ((f1 p2).toInt64)) + ((f1 p3).toInt64))), .second] [(.int (1 : Int32))]))
      refine own_to (fun _ kz => XS.goto X172.here hx rfl (pc0 := 182) (pc' := 186) rfl (hb hby at_182) (by decide) (by decide) kz) ?_
      show own_Fin p e below G (T172.setTop (mkF m 186 #[.val (.int p0), .val (.int p1), .val (.int p2), .val (.int p3), .val (.int p4), .val (.int (3 : Int32)), .val (.int (f1 p1)), .val (.int (f1 p2)), .val (.int (f1 p3)), .val (.int (f1 p4)), .val (.ref b35), .val (.ref b86), .val (.long ((((0 : Int64) + ((f1 p1).toInt64)) + ((f1 p2).toInt64)) + ((f1 p3).toInt64))), .second] [(.int (1 : Int32))]))
      exact own_retN X172 hx hlk hG (t := .boolean) Bd.returns (by simp) (hb hby at_186) (by decide) (by decide) (by rw [e172]; exact ⟨rfl, N172, trivial⟩)
    · show own_Fin p e below G (T28.setTop (mkF m 33 #[.val (.int p0), .val (.int p1), .val (.int p2), .val (.int p3), .val (.int p4), .val (.int (4 : Int32)), .val (.int (f1 p1)), .val (.int (f1 p2)), .val (.int (f1 p3)), .val (.int (f1 p4)), .unset, .unset, .unset, .unset] []))
      refine own_to (fun _ kz => XS.iload X28.here hx rfl (hb hby at_33) rfl  kz) ?_
      show own_Fin p e below G (T28.setTop (mkF m 35 #[.val (.int p0), .val (.int p1), .val (.int p2), .val (.int p3), .val (.int p4), .val (.int (4 : Int32)), .val (.int (f1 p1)), .val (.int (f1 p2)), .val (.int (f1 p3)), .val (.int (f1 p4)), .unset, .unset, .unset, .unset] [(.int (4 : Int32))]))
      obtain ⟨T35, h35, k35, X35, e35, E35, A35, Xa35, st35⟩ := newPE X28 hx hZ (hw _ (List.mem_of_getElem? (i := 5) rfl)) e28 (g := (mkF m 35 #[.val (.int p0), .val (.int p1), .val (.int p2), .val (.int p3), .val (.int p4), .val (.int (4 : Int32)), .val (.int (f1 p1)), .val (.int (f1 p2)), .val (.int (f1 p3)), .val (.int (f1 p4)), .unset, .unset, .unset, .unset] [(.int (4 : Int32))])) rfl (hb hby at_35) rfl (by decide) (cap := 4) (by decide) (by decide) (by decide) (by decide) (ad := "[I") (by decide)
      obtain ⟨b35, g35⟩ : ∃ z, z = h0.size := ⟨_, rfl⟩
      rw [← g35] at A35 Xa35 st35
      refine own_to st35 ?_
      have g_b35 : n0 ≤ b35 := Nat.le_trans Z0 (Nat.le_of_eq g35.symm)
      have V35 : own_AV Value.int Z h35 b35 .int 4 (fun _ => (0 : Int32)) := own_AV.new A35 (by decide) (by decide) (fun _ => rfl)
      show own_Fin p e below G (T35.setTop (mkF m 37 #[.val (.int p0), .val (.int p1), .val (.int p2), .val (.int p3), .val (.int p4), .val (.int (4 : Int32)), .val (.int (f1 p1)), .val (.int (f1 p2)), .val (.int (f1 p3)), .val (.int (f1 p4)), .unset, .unset, .unset, .unset] [(.ref b35)]))
      refine own_to (fun _ kz => XS.astore X35.here hx rfl (hb hby at_37) rfl (rfl) (l' := #[.val (.int p0), .val (.int p1), .val (.int p2), .val (.int p3), .val (.int p4), .val (.int (4 : Int32)), .val (.int (f1 p1)), .val (.int (f1 p2)), .val (.int (f1 p3)), .val (.int (f1 p4)), .val (.ref b35), .unset, .unset, .unset]) rfl kz) ?_
      show own_Fin p e below G (T35.setTop (mkF m 39 #[.val (.int p0), .val (.int p1), .val (.int p2), .val (.int p3), .val (.int p4), .val (.int (4 : Int32)), .val (.int (f1 p1)), .val (.int (f1 p2)), .val (.int (f1 p3)), .val (.int (f1 p4)), .val (.ref b35), .unset, .unset, .unset] []))
      refine own_to (fun _ kz => XS.iload X35.here hx rfl (hb hby at_39) rfl  kz) ?_
      show own_Fin p e below G (T35.setTop (mkF m 41 #[.val (.int p0), .val (.int p1), .val (.int p2), .val (.int p3), .val (.int p4), .val (.int (4 : Int32)), .val (.int (f1 p1)), .val (.int (f1 p2)), .val (.int (f1 p3)), .val (.int (f1 p4)), .val (.ref b35), .unset, .unset, .unset] [(.int (4 : Int32))]))
      have hc41 : (0 : Int32) < (4 : Int32) := by decide
      refine own_to (fun _ kz => XS.ifNo X35.here hx rfl (hb hby at_41) rfl ((if0 _ _).trans (tlt hc41).2.2.2) kz) ?_
      show own_Fin p e below G (T35.setTop (mkF m 44 #[.val (.int p0), .val (.int p1), .val (.int p2), .val (.int p3), .val (.int p4), .val (.int (4 : Int32)), .val (.int (f1 p1)), .val (.int (f1 p2)), .val (.int (f1 p3)), .val (.int (f1 p4)), .val (.ref b35), .unset, .unset, .unset] []))
      refine own_to (fun _ kz => XS.aload X35.here hx rfl (hb hby at_44) rfl (rfl)  kz) ?_
      show own_Fin p e below G (T35.setTop (mkF m 46 #[.val (.int p0), .val (.int p1), .val (.int p2), .val (.int p3), .val (.int p4), .val (.int (4 : Int32)), .val (.int (f1 p1)), .val (.int (f1 p2)), .val (.int (f1 p3)), .val (.int (f1 p4)), .val (.ref b35), .unset, .unset, .unset] [(.ref b35)]))
      refine own_to (fun _ kz => XS.iconst X35.here hx rfl (hb hby at_46) kz) ?_
      show own_Fin p e below G (T35.setTop (mkF m 47 #[.val (.int p0), .val (.int p1), .val (.int p2), .val (.int p3), .val (.int p4), .val (.int (4 : Int32)), .val (.int (f1 p1)), .val (.int (f1 p2)), .val (.int (f1 p3)), .val (.int (f1 p4)), .val (.ref b35), .unset, .unset, .unset] [(.int (0 : Int32)), (.ref b35)]))
      refine own_to (fun _ kz => XS.iload X35.here hx rfl (hb hby at_47) rfl  kz) ?_
      show own_Fin p e below G (T35.setTop (mkF m 49 #[.val (.int p0), .val (.int p1), .val (.int p2), .val (.int p3), .val (.int p4), .val (.int (4 : Int32)), .val (.int (f1 p1)), .val (.int (f1 p2)), .val (.int (f1 p3)), .val (.int (f1 p4)), .val (.ref b35), .unset, .unset, .unset] [(.int (f1 p1)), (.int (0 : Int32)), (.ref b35)]))
      obtain ⟨nn49, cl49, Ar49, Sz49, Hs49⟩ := V35
      obtain ⟨T49, h49, X49, e49, W49, st49⟩ := stI X35 hx hZ e35 Ar49 (j := (0 : Int32)) (own_in Sz49 (by decide) rfl (by decide)) (g := (mkF m 49 #[.val (.int p0), .val (.int p1), .val (.int p2), .val (.int p3), .val (.int p4), .val (.int (4 : Int32)), .val (.int (f1 p1)), .val (.int (f1 p2)), .val (.int (f1 p3)), .val (.int (f1 p4)), .val (.ref b35), .unset, .unset, .unset] [(.int (f1 p1)), (.int (0 : Int32)), (.ref b35)])) rfl rfl (hb hby at_49)
      refine own_to st49 ?_
      have V49 : own_AV Value.int Z h49 b35 .int 4 (own_upd (fun _ => (0 : Int32)) 0 (f1 p1)) := own_AV.set nn49 Ar49 Sz49 Hs49 W49 rfl
      have N49 := Fr.snoc X49 N28 g_b35
      show own_Fin p e below G (T49.setTop (mkF m 50 #[.val (.int p0), .val (.int p1), .val (.int p2), .val (.int p3), .val (.int p4), .val (.int (4 : Int32)), .val (.int (f1 p1)), .val (.int (f1 p2)), .val (.int (f1 p3)), .val (.int (f1 p4)), .val (.ref b35), .unset, .unset, .unset] []))
      refine own_to (fun _ kz => XS.iload X49.here hx rfl (hb hby at_50) rfl  kz) ?_
      show own_Fin p e below G (T49.setTop (mkF m 52 #[.val (.int p0), .val (.int p1), .val (.int p2), .val (.int p3), .val (.int p4), .val (.int (4 : Int32)), .val (.int (f1 p1)), .val (.int (f1 p2)), .val (.int (f1 p3)), .val (.int (f1 p4)), .val (.ref b35), .unset, .unset, .unset] [(.int (4 : Int32))]))
      refine own_to (fun _ kz => XS.iconst X49.here hx rfl (hb hby at_52) kz) ?_
      show own_Fin p e below G (T49.setTop (mkF m 53 #[.val (.int p0), .val (.int p1), .val (.int p2), .val (.int p3), .val (.int p4), .val (.int (4 : Int32)), .val (.int (f1 p1)), .val (.int (f1 p2)), .val (.int (f1 p3)), .val (.int (f1 p4)), .val (.ref b35), .unset, .unset, .unset] [(.int (1 : Int32)), (.int (4 : Int32))]))
      have hc53 : (1 : Int32) < (4 : Int32) := by decide
      refine own_to (fun _ kz => XS.icmpNo X49.here hx rfl (hb hby at_53) rfl (tlt hc53).2.2.2 kz) ?_
      show own_Fin p e below G (T49.setTop (mkF m 56 #[.val (.int p0), .val (.int p1), .val (.int p2), .val (.int p3), .val (.int p4), .val (.int (4 : Int32)), .val (.int (f1 p1)), .val (.int (f1 p2)), .val (.int (f1 p3)), .val (.int (f1 p4)), .val (.ref b35), .unset, .unset, .unset] []))
      refine own_to (fun _ kz => XS.aload X49.here hx rfl (hb hby at_56) rfl (rfl)  kz) ?_
      show own_Fin p e below G (T49.setTop (mkF m 58 #[.val (.int p0), .val (.int p1), .val (.int p2), .val (.int p3), .val (.int p4), .val (.int (4 : Int32)), .val (.int (f1 p1)), .val (.int (f1 p2)), .val (.int (f1 p3)), .val (.int (f1 p4)), .val (.ref b35), .unset, .unset, .unset] [(.ref b35)]))
      refine own_to (fun _ kz => XS.iconst X49.here hx rfl (hb hby at_58) kz) ?_
      show own_Fin p e below G (T49.setTop (mkF m 59 #[.val (.int p0), .val (.int p1), .val (.int p2), .val (.int p3), .val (.int p4), .val (.int (4 : Int32)), .val (.int (f1 p1)), .val (.int (f1 p2)), .val (.int (f1 p3)), .val (.int (f1 p4)), .val (.ref b35), .unset, .unset, .unset] [(.int (1 : Int32)), (.ref b35)]))
      refine own_to (fun _ kz => XS.iload X49.here hx rfl (hb hby at_59) rfl  kz) ?_
      show own_Fin p e below G (T49.setTop (mkF m 61 #[.val (.int p0), .val (.int p1), .val (.int p2), .val (.int p3), .val (.int p4), .val (.int (4 : Int32)), .val (.int (f1 p1)), .val (.int (f1 p2)), .val (.int (f1 p3)), .val (.int (f1 p4)), .val (.ref b35), .unset, .unset, .unset] [(.int (f1 p2)), (.int (1 : Int32)), (.ref b35)]))
      obtain ⟨nn61, cl61, Ar61, Sz61, Hs61⟩ := V49
      obtain ⟨T61, h61, X61, e61, W61, st61⟩ := stI X49 hx hZ e49 Ar61 (j := (1 : Int32)) (own_in Sz61 (by decide) rfl (by decide)) (g := (mkF m 61 #[.val (.int p0), .val (.int p1), .val (.int p2), .val (.int p3), .val (.int p4), .val (.int (4 : Int32)), .val (.int (f1 p1)), .val (.int (f1 p2)), .val (.int (f1 p3)), .val (.int (f1 p4)), .val (.ref b35), .unset, .unset, .unset] [(.int (f1 p2)), (.int (1 : Int32)), (.ref b35)])) rfl rfl (hb hby at_61)
      refine own_to st61 ?_
      have V61 : own_AV Value.int Z h61 b35 .int 4 (own_upd (own_upd (fun _ => (0 : Int32)) 0 (f1 p1)) 1 (f1 p2)) := own_AV.set nn61 Ar61 Sz61 Hs61 W61 rfl
      have N61 := Fr.snoc X61 N49 g_b35
      show own_Fin p e below G (T61.setTop (mkF m 62 #[.val (.int p0), .val (.int p1), .val (.int p2), .val (.int p3), .val (.int p4), .val (.int (4 : Int32)), .val (.int (f1 p1)), .val (.int (f1 p2)), .val (.int (f1 p3)), .val (.int (f1 p4)), .val (.ref b35), .unset, .unset, .unset] []))
      refine own_to (fun _ kz => XS.iload X61.here hx rfl (hb hby at_62) rfl  kz) ?_
      show own_Fin p e below G (T61.setTop (mkF m 64 #[.val (.int p0), .val (.int p1), .val (.int p2), .val (.int p3), .val (.int p4), .val (.int (4 : Int32)), .val (.int (f1 p1)), .val (.int (f1 p2)), .val (.int (f1 p3)), .val (.int (f1 p4)), .val (.ref b35), .unset, .unset, .unset] [(.int (4 : Int32))]))
      refine own_to (fun _ kz => XS.iconst X61.here hx rfl (hb hby at_64) kz) ?_
      show own_Fin p e below G (T61.setTop (mkF m 65 #[.val (.int p0), .val (.int p1), .val (.int p2), .val (.int p3), .val (.int p4), .val (.int (4 : Int32)), .val (.int (f1 p1)), .val (.int (f1 p2)), .val (.int (f1 p3)), .val (.int (f1 p4)), .val (.ref b35), .unset, .unset, .unset] [(.int (2 : Int32)), (.int (4 : Int32))]))
      have hc65 : (2 : Int32) < (4 : Int32) := by decide
      refine own_to (fun _ kz => XS.icmpNo X61.here hx rfl (hb hby at_65) rfl (tlt hc65).2.2.2 kz) ?_
      show own_Fin p e below G (T61.setTop (mkF m 68 #[.val (.int p0), .val (.int p1), .val (.int p2), .val (.int p3), .val (.int p4), .val (.int (4 : Int32)), .val (.int (f1 p1)), .val (.int (f1 p2)), .val (.int (f1 p3)), .val (.int (f1 p4)), .val (.ref b35), .unset, .unset, .unset] []))
      refine own_to (fun _ kz => XS.aload X61.here hx rfl (hb hby at_68) rfl (rfl)  kz) ?_
      show own_Fin p e below G (T61.setTop (mkF m 70 #[.val (.int p0), .val (.int p1), .val (.int p2), .val (.int p3), .val (.int p4), .val (.int (4 : Int32)), .val (.int (f1 p1)), .val (.int (f1 p2)), .val (.int (f1 p3)), .val (.int (f1 p4)), .val (.ref b35), .unset, .unset, .unset] [(.ref b35)]))
      refine own_to (fun _ kz => XS.iconst X61.here hx rfl (hb hby at_70) kz) ?_
      show own_Fin p e below G (T61.setTop (mkF m 71 #[.val (.int p0), .val (.int p1), .val (.int p2), .val (.int p3), .val (.int p4), .val (.int (4 : Int32)), .val (.int (f1 p1)), .val (.int (f1 p2)), .val (.int (f1 p3)), .val (.int (f1 p4)), .val (.ref b35), .unset, .unset, .unset] [(.int (2 : Int32)), (.ref b35)]))
      refine own_to (fun _ kz => XS.iload X61.here hx rfl (hb hby at_71) rfl  kz) ?_
      show own_Fin p e below G (T61.setTop (mkF m 73 #[.val (.int p0), .val (.int p1), .val (.int p2), .val (.int p3), .val (.int p4), .val (.int (4 : Int32)), .val (.int (f1 p1)), .val (.int (f1 p2)), .val (.int (f1 p3)), .val (.int (f1 p4)), .val (.ref b35), .unset, .unset, .unset] [(.int (f1 p3)), (.int (2 : Int32)), (.ref b35)]))
      obtain ⟨nn73, cl73, Ar73, Sz73, Hs73⟩ := V61
      obtain ⟨T73, h73, X73, e73, W73, st73⟩ := stI X61 hx hZ e61 Ar73 (j := (2 : Int32)) (own_in Sz73 (by decide) rfl (by decide)) (g := (mkF m 73 #[.val (.int p0), .val (.int p1), .val (.int p2), .val (.int p3), .val (.int p4), .val (.int (4 : Int32)), .val (.int (f1 p1)), .val (.int (f1 p2)), .val (.int (f1 p3)), .val (.int (f1 p4)), .val (.ref b35), .unset, .unset, .unset] [(.int (f1 p3)), (.int (2 : Int32)), (.ref b35)])) rfl rfl (hb hby at_73)
      refine own_to st73 ?_
      have V73 : own_AV Value.int Z h73 b35 .int 4 (own_upd (own_upd (own_upd (fun _ => (0 : Int32)) 0 (f1 p1)) 1 (f1 p2)) 2 (f1 p3)) := own_AV.set nn73 Ar73 Sz73 Hs73 W73 rfl
      have N73 := Fr.snoc X73 N61 g_b35
      show own_Fin p e below G (T73.setTop (mkF m 74 #[.val (.int p0), .val (.int p1), .val (.int p2), .val (.int p3), .val (.int p4), .val (.int (4 : Int32)), .val (.int (f1 p1)), .val (.int (f1 p2)), .val (.int (f1 p3)), .val (.int (f1 p4)), .val (.ref b35), .unset, .unset, .unset] []))
      refine own_to (fun _ kz => XS.iload X73.here hx rfl (hb hby at_74) rfl  kz) ?_
      show own_Fin p e below G (T73.setTop (mkF m 76 #[.val (.int p0), .val (.int p1), .val (.int p2), .val (.int p3), .val (.int p4), .val (.int (4 : Int32)), .val (.int (f1 p1)), .val (.int (f1 p2)), .val (.int (f1 p3)), .val (.int (f1 p4)), .val (.ref b35), .unset, .unset, .unset] [(.int (4 : Int32))]))
      refine own_to (fun _ kz => XS.iconst X73.here hx rfl (hb hby at_76) kz) ?_
      show own_Fin p e below G (T73.setTop (mkF m 77 #[.val (.int p0), .val (.int p1), .val (.int p2), .val (.int p3), .val (.int p4), .val (.int (4 : Int32)), .val (.int (f1 p1)), .val (.int (f1 p2)), .val (.int (f1 p3)), .val (.int (f1 p4)), .val (.ref b35), .unset, .unset, .unset] [(.int (3 : Int32)), (.int (4 : Int32))]))
      have hc77 : (3 : Int32) < (4 : Int32) := by decide
      refine own_to (fun _ kz => XS.icmpNo X73.here hx rfl (hb hby at_77) rfl (tlt hc77).2.2.2 kz) ?_
      show own_Fin p e below G (T73.setTop (mkF m 80 #[.val (.int p0), .val (.int p1), .val (.int p2), .val (.int p3), .val (.int p4), .val (.int (4 : Int32)), .val (.int (f1 p1)), .val (.int (f1 p2)), .val (.int (f1 p3)), .val (.int (f1 p4)), .val (.ref b35), .unset, .unset, .unset] []))
      refine own_to (fun _ kz => XS.aload X73.here hx rfl (hb hby at_80) rfl (rfl)  kz) ?_
      show own_Fin p e below G (T73.setTop (mkF m 82 #[.val (.int p0), .val (.int p1), .val (.int p2), .val (.int p3), .val (.int p4), .val (.int (4 : Int32)), .val (.int (f1 p1)), .val (.int (f1 p2)), .val (.int (f1 p3)), .val (.int (f1 p4)), .val (.ref b35), .unset, .unset, .unset] [(.ref b35)]))
      refine own_to (fun _ kz => XS.iconst X73.here hx rfl (hb hby at_82) kz) ?_
      show own_Fin p e below G (T73.setTop (mkF m 83 #[.val (.int p0), .val (.int p1), .val (.int p2), .val (.int p3), .val (.int p4), .val (.int (4 : Int32)), .val (.int (f1 p1)), .val (.int (f1 p2)), .val (.int (f1 p3)), .val (.int (f1 p4)), .val (.ref b35), .unset, .unset, .unset] [(.int (3 : Int32)), (.ref b35)]))
      refine own_to (fun _ kz => XS.iload X73.here hx rfl (hb hby at_83) rfl  kz) ?_
      show own_Fin p e below G (T73.setTop (mkF m 85 #[.val (.int p0), .val (.int p1), .val (.int p2), .val (.int p3), .val (.int p4), .val (.int (4 : Int32)), .val (.int (f1 p1)), .val (.int (f1 p2)), .val (.int (f1 p3)), .val (.int (f1 p4)), .val (.ref b35), .unset, .unset, .unset] [(.int (f1 p4)), (.int (3 : Int32)), (.ref b35)]))
      obtain ⟨nn85, cl85, Ar85, Sz85, Hs85⟩ := V73
      obtain ⟨T85, h85, X85, e85, W85, st85⟩ := stI X73 hx hZ e73 Ar85 (j := (3 : Int32)) (own_in Sz85 (by decide) rfl (by decide)) (g := (mkF m 85 #[.val (.int p0), .val (.int p1), .val (.int p2), .val (.int p3), .val (.int p4), .val (.int (4 : Int32)), .val (.int (f1 p1)), .val (.int (f1 p2)), .val (.int (f1 p3)), .val (.int (f1 p4)), .val (.ref b35), .unset, .unset, .unset] [(.int (f1 p4)), (.int (3 : Int32)), (.ref b35)])) rfl rfl (hb hby at_85)
      refine own_to st85 ?_
      have V85 : own_AV Value.int Z h85 b35 .int 4 (own_upd (own_upd (own_upd (own_upd (fun _ => (0 : Int32)) 0 (f1 p1)) 1 (f1 p2)) 2 (f1 p3)) 3 (f1 p4)) := own_AV.set nn85 Ar85 Sz85 Hs85 W85 rfl
      have N85 := Fr.snoc X85 N73 g_b35
      show own_Fin p e below G (T85.setTop (mkF m 86 #[.val (.int p0), .val (.int p1), .val (.int p2), .val (.int p3), .val (.int p4), .val (.int (4 : Int32)), .val (.int (f1 p1)), .val (.int (f1 p2)), .val (.int (f1 p3)), .val (.int (f1 p4)), .val (.ref b35), .unset, .unset, .unset] []))
      have Zz_86_E35'4 := Nat.le_trans Z0 E35.1
      have Zz_86_W49'3 := Nat.le_trans Zz_86_E35'4 (Nat.le_of_eq (Wr.size W49).symm)
      have Zz_86_W61'2 := Nat.le_trans Zz_86_W49'3 (Nat.le_of_eq (Wr.size W61).symm)
      have Zz_86_W73'1 := Nat.le_trans Zz_86_W61'2 (Nat.le_of_eq (Wr.size W73).symm)
      have Zz_86_W85 := Nat.le_trans Zz_86_W73'1 (Nat.le_of_eq (Wr.size W85).symm)
      have Z_86'4 : n0 ≤ h85.size := Zz_86_W85
      obtain ⟨T86, h86, X86, e86, E86, A86, D86, -, st86⟩ := newO X85 hx hZ hown (hw _ (List.mem_of_getElem? (i := 6) rfl)) (hw _ (List.mem_of_getElem? (i := 7) rfl)) (hw _ (List.mem_of_getElem? (i := 8) rfl)) e85 (g := (mkF m 86 #[.val (.int p0), .val (.int p1), .val (.int p2), .val (.int p3), .val (.int p4), .val (.int (4 : Int32)), .val (.int (f1 p1)), .val (.int (f1 p2)), .val (.int (f1 p3)), .val (.int (f1 p4)), .val (.ref b35), .unset, .unset, .unset] [])) rfl (hb hby at_86) (by decide) (by decide)
      obtain ⟨b86, g86⟩ : ∃ z, z = h85.size := ⟨_, rfl⟩
      rw [← g86] at A86 D86 st86
      refine own_to st86 ?_
      have ne_b35_b86'4 : b35 ≠ b86 := Nat.ne_of_lt (Nat.lt_of_lt_of_le V85.lt (Nat.le_of_eq g86.symm))
      have g_b86 : n0 ≤ b86 := Nat.le_trans Z_86'4 (Nat.le_of_eq g86.symm)
      have F_wavelengths_b86'4 : Fld Z h86 b86 "wavegauge/model/Capacities" "wavelengths" "[I" .null := D86 (Or.inr (hw _ (List.mem_of_getElem? (i := 25) rfl))) (ty := (.array .int)) (by decide)
      show own_Fin p e below G (T86.setTop (mkF m 89 #[.val (.int p0), .val (.int p1), .val (.int p2), .val (.int p3), .val (.int p4), .val (.int (4 : Int32)), .val (.int (f1 p1)), .val (.int (f1 p2)), .val (.int (f1 p3)), .val (.int (f1 p4)), .val (.ref b35), .unset, .unset, .unset] [(.ref b86)]))
      refine own_to (fun _ kz => XS.dup X86.here hx rfl (hb hby at_89) rfl rfl kz) ?_
      show own_Fin p e below G (T86.setTop (mkF m 90 #[.val (.int p0), .val (.int p1), .val (.int p2), .val (.int p3), .val (.int p4), .val (.int (4 : Int32)), .val (.int (f1 p1)), .val (.int (f1 p2)), .val (.int (f1 p3)), .val (.int (f1 p4)), .val (.ref b35), .unset, .unset, .unset] [(.ref b86), (.ref b86)]))
      refine own_to (fun _ kz => XS.aload X86.here hx rfl (hb hby at_90) rfl (rfl)  kz) ?_
      show own_Fin p e below G (T86.setTop (mkF m 92 #[.val (.int p0), .val (.int p1), .val (.int p2), .val (.int p3), .val (.int p4), .val (.int (4 : Int32)), .val (.int (f1 p1)), .val (.int (f1 p2)), .val (.int (f1 p3)), .val (.int (f1 p4)), .val (.ref b35), .unset, .unset, .unset] [(.ref b35), (.ref b86), (.ref b86)]))
      have V85_at_92 : own_AV Value.int Z h86 b35 .int 4 (own_upd (own_upd (own_upd (own_upd (fun _ => (0 : Int32)) 0 (f1 p1)) 1 (f1 p2)) 2 (f1 p3)) 3 (f1 p4)) := (V85.ext E86)
      have Xa35_at_92'4 : Exa Z h86 b35 "[I" := (((((Xa35.wr W49).wr W61).wr W73).wr W85).ext E86)
      have Zz_92_E86'4 := Nat.le_trans Z_86'4 E86.1
      have Z_92'4 : n0 ≤ h86.size := Zz_92_E86'4
      obtain ⟨_, _, ⟨T92, L92, k92, n92⟩, -, X92, ⟨Lc92, hQ92, l92, y92, z92⟩, st92⟩ := X86.specialBack hx (y := (⟨"wavegauge/model/Capacities", "<init>", "([I)V"⟩ : MethodName)) rfl hown (mvT hZ (hw _ (List.mem_of_getElem? (i := 9) rfl))) (mvT hZ (hw _ (List.mem_of_getElem? (i := 10) rfl))) (mvT hZ (hw _ (List.mem_of_getElem? (i := 11) rfl))) (by decide) (backOf (W := 1) (rm2 l Z a0 hw [] b86 b35 4 (own_upd (own_upd (own_upd (own_upd (fun _ => (0 : Int32)) 0 (f1 p1)) 1 (f1 p2)) 2 (f1 p3)) 3 (f1 p4)) h86 n0 Z_92'4 A86 F_wavelengths_b86'4 g_b86 V85_at_92 Xa35_at_92'4 (fun i _ => ((own_updr (P := own_R) (own_cnt _) (own_updr (P := own_R) (own_cnt _) (own_updr (P := own_R) (own_cnt _) (own_updr (P := own_R) (own_cnt _) (fun _ => own_R0)))))) i) (by decide)) hZ (hw _ (List.mem_of_getElem? (i := 11) rfl)) (hw _ (List.mem_of_getElem? (i := 8) rfl)) (by decide) (by decide)) (g := (mkF m 92 #[.val (.int p0), .val (.int p1), .val (.int p2), .val (.int p3), .val (.int p4), .val (.int (4 : Int32)), .val (.int (f1 p1)), .val (.int (f1 p2)), .val (.int (f1 p3)), .val (.int (f1 p4)), .val (.ref b35), .unset, .unset, .unset] [(.ref b35), (.ref b86), (.ref b86)])) rfl (by rw [hml]; rfl) (Steps.refl _) (a := b86) (argsL := [(.ref b35)]) (rest := [(.ref b86)]) (lenOf own_pd1 rfl) rfl (by show 2 * 0 + _ ≤ _; exact Nat.le_of_eq rfl) (hb hby at_92) (fun _ _ => ⟨rfl, e86, (by decide : 2 + 1 ≤ _), (by decide : 5 + 4 ≤ _)⟩)
      dsimp only [Pt.U, Pt.locs, Pt.cells, Pt.slots] at X92 l92 y92 z92 st92 hQ92
      subst l92 y92 z92
      obtain ⟨rfl, N92q, Kp92, PE92, b92, szq92, PF92, PV92⟩ := hQ92
      have ne_b35_b92'4 : b35 ≠ b92 := Nat.ne_of_lt (Nat.lt_of_lt_of_le V85_at_92.lt szq92)
      have ne_b86_b92'4 : b86 ≠ b92 := Nat.ne_of_lt (Nat.lt_of_lt_of_le A86.lt szq92)
      have N92 := Fr.app N85 N92q
      refine own_via st92 ?_
      show own_Fin p e below G (T92.setTop (mkF m 95 #[.val (.int p0), .val (.int p1), .val (.int p2), .val (.int p3), .val (.int p4), .val (.int (4 : Int32)), .val (.int (f1 p1)), .val (.int (f1 p2)), .val (.int (f1 p3)), .val (.int (f1 p4)), .val (.ref b35), .unset, .unset, .unset] [(.ref b86)]))
      refine own_to (fun _ kz => XS.astore X92.here hx rfl (hb hby at_95) rfl (rfl) (l' := #[.val (.int p0), .val (.int p1), .val (.int p2), .val (.int p3), .val (.int p4), .val (.int (4 : Int32)), .val (.int (f1 p1)), .val (.int (f1 p2)), .val (.int (f1 p3)), .val (.int (f1 p4)), .val (.ref b35), .val (.ref b86), .unset, .unset]) rfl kz) ?_
      show own_Fin p e below G (T92.setTop (mkF m 97 #[.val (.int p0), .val (.int p1), .val (.int p2), .val (.int p3), .val (.int p4), .val (.int (4 : Int32)), .val (.int (f1 p1)), .val (.int (f1 p2)), .val (.int (f1 p3)), .val (.int (f1 p4)), .val (.ref b35), .val (.ref b86), .unset, .unset] []))
      refine own_to (fun _ kz => XS.lconst X92.here hx rfl (hb hby at_97) kz) ?_
      show own_Fin p e below G (T92.setTop (mkF m 98 #[.val (.int p0), .val (.int p1), .val (.int p2), .val (.int p3), .val (.int p4), .val (.int (4 : Int32)), .val (.int (f1 p1)), .val (.int (f1 p2)), .val (.int (f1 p3)), .val (.int (f1 p4)), .val (.ref b35), .val (.ref b86), .unset, .unset] [(.long (0 : Int64))]))
      refine own_to (fun _ kz => XS.lstore X92.here hx rfl (hb hby at_98) rfl (l' := #[.val (.int p0), .val (.int p1), .val (.int p2), .val (.int p3), .val (.int p4), .val (.int (4 : Int32)), .val (.int (f1 p1)), .val (.int (f1 p2)), .val (.int (f1 p3)), .val (.int (f1 p4)), .val (.ref b35), .val (.ref b86), .val (.long (0 : Int64)), .second]) rfl kz) ?_
      show own_Fin p e below G (T92.setTop (mkF m 100 #[.val (.int p0), .val (.int p1), .val (.int p2), .val (.int p3), .val (.int p4), .val (.int (4 : Int32)), .val (.int (f1 p1)), .val (.int (f1 p2)), .val (.int (f1 p3)), .val (.int (f1 p4)), .val (.ref b35), .val (.ref b86), .val (.long (0 : Int64)), .second] []))
      refine own_to (fun _ kz => XS.iload X92.here hx rfl (hb hby at_100) rfl  kz) ?_
      show own_Fin p e below G (T92.setTop (mkF m 102 #[.val (.int p0), .val (.int p1), .val (.int p2), .val (.int p3), .val (.int p4), .val (.int (4 : Int32)), .val (.int (f1 p1)), .val (.int (f1 p2)), .val (.int (f1 p3)), .val (.int (f1 p4)), .val (.ref b35), .val (.ref b86), .val (.long (0 : Int64)), .second] [(.int (4 : Int32))]))
      have hc102 : (0 : Int32) < (4 : Int32) := by decide
      refine own_to (fun _ kz => XS.ifNo X92.here hx rfl (hb hby at_102) rfl ((if0 _ _).trans (tlt hc102).2.2.2) kz) ?_
      show own_Fin p e below G (T92.setTop (mkF m 105 #[.val (.int p0), .val (.int p1), .val (.int p2), .val (.int p3), .val (.int p4), .val (.int (4 : Int32)), .val (.int (f1 p1)), .val (.int (f1 p2)), .val (.int (f1 p3)), .val (.int (f1 p4)), .val (.ref b35), .val (.ref b86), .val (.long (0 : Int64)), .second] []))
      refine own_to (fun _ kz => XS.lload X92.here hx rfl (hb hby at_105) rfl  kz) ?_
      show own_Fin p e below G (T92.setTop (mkF m 107 #[.val (.int p0), .val (.int p1), .val (.int p2), .val (.int p3), .val (.int p4), .val (.int (4 : Int32)), .val (.int (f1 p1)), .val (.int (f1 p2)), .val (.int (f1 p3)), .val (.int (f1 p4)), .val (.ref b35), .val (.ref b86), .val (.long (0 : Int64)), .second] [(.long (0 : Int64))]))
      refine own_to (fun _ kz => XS.iload X92.here hx rfl (hb hby at_107) rfl  kz) ?_
      show own_Fin p e below G (T92.setTop (mkF m 109 #[.val (.int p0), .val (.int p1), .val (.int p2), .val (.int p3), .val (.int p4), .val (.int (4 : Int32)), .val (.int (f1 p1)), .val (.int (f1 p2)), .val (.int (f1 p3)), .val (.int (f1 p4)), .val (.ref b35), .val (.ref b86), .val (.long (0 : Int64)), .second] [(.int (f1 p1)), (.long (0 : Int64))]))
      refine own_to (fun _ kz => XS.i2l X92.here hx rfl (hb hby at_109) rfl kz) ?_
      show own_Fin p e below G (T92.setTop (mkF m 110 #[.val (.int p0), .val (.int p1), .val (.int p2), .val (.int p3), .val (.int p4), .val (.int (4 : Int32)), .val (.int (f1 p1)), .val (.int (f1 p2)), .val (.int (f1 p3)), .val (.int (f1 p4)), .val (.ref b35), .val (.ref b86), .val (.long (0 : Int64)), .second] [(.long ((f1 p1).toInt64)), (.long (0 : Int64))]))
      refine own_to (fun _ kz => XS.ladd X92.here hx rfl (hb hby at_110) rfl kz) ?_
      show own_Fin p e below G (T92.setTop (mkF m 111 #[.val (.int p0), .val (.int p1), .val (.int p2), .val (.int p3), .val (.int p4), .val (.int (4 : Int32)), .val (.int (f1 p1)), .val (.int (f1 p2)), .val (.int (f1 p3)), .val (.int (f1 p4)), .val (.ref b35), .val (.ref b86), .val (.long (0 : Int64)), .second] [(.long ((0 : Int64) + ((f1 p1).toInt64)))]))
      refine own_to (fun _ kz => XS.lstore X92.here hx rfl (hb hby at_111) rfl (l' := #[.val (.int p0), .val (.int p1), .val (.int p2), .val (.int p3), .val (.int p4), .val (.int (4 : Int32)), .val (.int (f1 p1)), .val (.int (f1 p2)), .val (.int (f1 p3)), .val (.int (f1 p4)), .val (.ref b35), .val (.ref b86), .val (.long ((0 : Int64) + ((f1 p1).toInt64))), .second]) rfl kz) ?_
      show own_Fin p e below G (T92.setTop (mkF m 113 #[.val (.int p0), .val (.int p1), .val (.int p2), .val (.int p3), .val (.int p4), .val (.int (4 : Int32)), .val (.int (f1 p1)), .val (.int (f1 p2)), .val (.int (f1 p3)), .val (.int (f1 p4)), .val (.ref b35), .val (.ref b86), .val (.long ((0 : Int64) + ((f1 p1).toInt64))), .second] []))
      refine own_to (fun _ kz => XS.iload X92.here hx rfl (hb hby at_113) rfl  kz) ?_
      show own_Fin p e below G (T92.setTop (mkF m 115 #[.val (.int p0), .val (.int p1), .val (.int p2), .val (.int p3), .val (.int p4), .val (.int (4 : Int32)), .val (.int (f1 p1)), .val (.int (f1 p2)), .val (.int (f1 p3)), .val (.int (f1 p4)), .val (.ref b35), .val (.ref b86), .val (.long ((0 : Int64) + ((f1 p1).toInt64))), .second] [(.int (4 : Int32))]))
      refine own_to (fun _ kz => XS.iconst X92.here hx rfl (hb hby at_115) kz) ?_
      show own_Fin p e below G (T92.setTop (mkF m 116 #[.val (.int p0), .val (.int p1), .val (.int p2), .val (.int p3), .val (.int p4), .val (.int (4 : Int32)), .val (.int (f1 p1)), .val (.int (f1 p2)), .val (.int (f1 p3)), .val (.int (f1 p4)), .val (.ref b35), .val (.ref b86), .val (.long ((0 : Int64) + ((f1 p1).toInt64))), .second] [(.int (1 : Int32)), (.int (4 : Int32))]))
      have hc116 : (1 : Int32) < (4 : Int32) := by decide
      refine own_to (fun _ kz => XS.icmpNo X92.here hx rfl (hb hby at_116) rfl (tlt hc116).2.2.2 kz) ?_
      show own_Fin p e below G (T92.setTop (mkF m 119 #[.val (.int p0), .val (.int p1), .val (.int p2), .val (.int p3), .val (.int p4), .val (.int (4 : Int32)), .val (.int (f1 p1)), .val (.int (f1 p2)), .val (.int (f1 p3)), .val (.int (f1 p4)), .val (.ref b35), .val (.ref b86), .val (.long ((0 : Int64) + ((f1 p1).toInt64))), .second] []))
      refine own_to (fun _ kz => XS.lload X92.here hx rfl (hb hby at_119) rfl  kz) ?_
      show own_Fin p e below G (T92.setTop (mkF m 121 #[.val (.int p0), .val (.int p1), .val (.int p2), .val (.int p3), .val (.int p4), .val (.int (4 : Int32)), .val (.int (f1 p1)), .val (.int (f1 p2)), .val (.int (f1 p3)), .val (.int (f1 p4)), .val (.ref b35), .val (.ref b86), .val (.long ((0 : Int64) + ((f1 p1).toInt64))), .second] [(.long ((0 : Int64) + ((f1 p1).toInt64)))]))
      refine own_to (fun _ kz => XS.iload X92.here hx rfl (hb hby at_121) rfl  kz) ?_
      show own_Fin p e below G (T92.setTop (mkF m 123 #[.val (.int p0), .val (.int p1), .val (.int p2), .val (.int p3), .val (.int p4), .val (.int (4 : Int32)), .val (.int (f1 p1)), .val (.int (f1 p2)), .val (.int (f1 p3)), .val (.int (f1 p4)), .val (.ref b35), .val (.ref b86), .val (.long ((0 : Int64) + ((f1 p1).toInt64))), .second] [(.int (f1 p2)), (.long ((0 : Int64) + ((f1 p1).toInt64)))]))
      refine own_to (fun _ kz => XS.i2l X92.here hx rfl (hb hby at_123) rfl kz) ?_
      show own_Fin p e below G (T92.setTop (mkF m 124 #[.val (.int p0), .val (.int p1), .val (.int p2), .val (.int p3), .val (.int p4), .val (.int (4 : Int32)), .val (.int (f1 p1)), .val (.int (f1 p2)), .val (.int (f1 p3)), .val (.int (f1 p4)), .val (.ref b35), .val (.ref b86), .val (.long ((0 : Int64) + ((f1 p1).toInt64))), .second] [(.long ((f1 p2).toInt64)), (.long ((0 : Int64) + ((f1 p1).toInt64)))]))
      refine own_to (fun _ kz => XS.ladd X92.here hx rfl (hb hby at_124) rfl kz) ?_
      show own_Fin p e below G (T92.setTop (mkF m 125 #[.val (.int p0), .val (.int p1), .val (.int p2), .val (.int p3), .val (.int p4), .val (.int (4 : Int32)), .val (.int (f1 p1)), .val (.int (f1 p2)), .val (.int (f1 p3)), .val (.int (f1 p4)), .val (.ref b35), .val (.ref b86), .val (.long ((0 : Int64) + ((f1 p1).toInt64))), .second] [(.long (((0 : Int64) + ((f1 p1).toInt64)) + ((f1 p2).toInt64)))]))
      refine own_to (fun _ kz => XS.lstore X92.here hx rfl (hb hby at_125) rfl (l' := #[.val (.int p0), .val (.int p1), .val (.int p2), .val (.int p3), .val (.int p4), .val (.int (4 : Int32)), .val (.int (f1 p1)), .val (.int (f1 p2)), .val (.int (f1 p3)), .val (.int (f1 p4)), .val (.ref b35), .val (.ref b86), .val (.long (((0 : Int64) + ((f1 p1).toInt64)) + ((f1 p2).toInt64))), .second]) rfl kz) ?_
      show own_Fin p e below G (T92.setTop (mkF m 127 #[.val (.int p0), .val (.int p1), .val (.int p2), .val (.int p3), .val (.int p4), .val (.int (4 : Int32)), .val (.int (f1 p1)), .val (.int (f1 p2)), .val (.int (f1 p3)), .val (.int (f1 p4)), .val (.ref b35), .val (.ref b86), .val (.long (((0 : Int64) + ((f1 p1).toInt64)) + ((f1 p2).toInt64))), .second] []))
      refine own_to (fun _ kz => XS.iload X92.here hx rfl (hb hby at_127) rfl  kz) ?_
      show own_Fin p e below G (T92.setTop (mkF m 129 #[.val (.int p0), .val (.int p1), .val (.int p2), .val (.int p3), .val (.int p4), .val (.int (4 : Int32)), .val (.int (f1 p1)), .val (.int (f1 p2)), .val (.int (f1 p3)), .val (.int (f1 p4)), .val (.ref b35), .val (.ref b86), .val (.long (((0 : Int64) + ((f1 p1).toInt64)) + ((f1 p2).toInt64))), .second] [(.int (4 : Int32))]))
      refine own_to (fun _ kz => XS.iconst X92.here hx rfl (hb hby at_129) kz) ?_
      show own_Fin p e below G (T92.setTop (mkF m 130 #[.val (.int p0), .val (.int p1), .val (.int p2), .val (.int p3), .val (.int p4), .val (.int (4 : Int32)), .val (.int (f1 p1)), .val (.int (f1 p2)), .val (.int (f1 p3)), .val (.int (f1 p4)), .val (.ref b35), .val (.ref b86), .val (.long (((0 : Int64) + ((f1 p1).toInt64)) + ((f1 p2).toInt64))), .second] [(.int (2 : Int32)), (.int (4 : Int32))]))
      have hc130 : (2 : Int32) < (4 : Int32) := by decide
      refine own_to (fun _ kz => XS.icmpNo X92.here hx rfl (hb hby at_130) rfl (tlt hc130).2.2.2 kz) ?_
      show own_Fin p e below G (T92.setTop (mkF m 133 #[.val (.int p0), .val (.int p1), .val (.int p2), .val (.int p3), .val (.int p4), .val (.int (4 : Int32)), .val (.int (f1 p1)), .val (.int (f1 p2)), .val (.int (f1 p3)), .val (.int (f1 p4)), .val (.ref b35), .val (.ref b86), .val (.long (((0 : Int64) + ((f1 p1).toInt64)) + ((f1 p2).toInt64))), .second] []))
      refine own_to (fun _ kz => XS.lload X92.here hx rfl (hb hby at_133) rfl  kz) ?_
      show own_Fin p e below G (T92.setTop (mkF m 135 #[.val (.int p0), .val (.int p1), .val (.int p2), .val (.int p3), .val (.int p4), .val (.int (4 : Int32)), .val (.int (f1 p1)), .val (.int (f1 p2)), .val (.int (f1 p3)), .val (.int (f1 p4)), .val (.ref b35), .val (.ref b86), .val (.long (((0 : Int64) + ((f1 p1).toInt64)) + ((f1 p2).toInt64))), .second] [(.long (((0 : Int64) + ((f1 p1).toInt64)) + ((f1 p2).toInt64)))]))
      refine own_to (fun _ kz => XS.iload X92.here hx rfl (hb hby at_135) rfl  kz) ?_
      show own_Fin p e below G (T92.setTop (mkF m 137 #[.val (.int p0), .val (.int p1), .val (.int p2), .val (.int p3), .val (.int p4), .val (.int (4 : Int32)), .val (.int (f1 p1)), .val (.int (f1 p2)), .val (.int (f1 p3)), .val (.int (f1 p4)), .val (.ref b35), .val (.ref b86), .val (.long (((0 : Int64) + ((f1 p1).toInt64)) + ((f1 p2).toInt64))), .second] [(.int (f1 p3)), (.long (((0 : Int64) + ((f1 p1).toInt64)) + ((f1 p2).toInt64)))]))
      refine own_to (fun _ kz => XS.i2l X92.here hx rfl (hb hby at_137) rfl kz) ?_
      show own_Fin p e below G (T92.setTop (mkF m 138 #[.val (.int p0), .val (.int p1), .val (.int p2), .val (.int p3), .val (.int p4), .val (.int (4 : Int32)), .val (.int (f1 p1)), .val (.int (f1 p2)), .val (.int (f1 p3)), .val (.int (f1 p4)), .val (.ref b35), .val (.ref b86), .val (.long (((0 : Int64) + ((f1 p1).toInt64)) + ((f1 p2).toInt64))), .second] [(.long ((f1 p3).toInt64)), (.long (((0 : Int64) + ((f1 p1).toInt64)) + ((f1 p2).toInt64)))]))
      refine own_to (fun _ kz => XS.ladd X92.here hx rfl (hb hby at_138) rfl kz) ?_
      show own_Fin p e below G (T92.setTop (mkF m 139 #[.val (.int p0), .val (.int p1), .val (.int p2), .val (.int p3), .val (.int p4), .val (.int (4 : Int32)), .val (.int (f1 p1)), .val (.int (f1 p2)), .val (.int (f1 p3)), .val (.int (f1 p4)), .val (.ref b35), .val (.ref b86), .val (.long (((0 : Int64) + ((f1 p1).toInt64)) + ((f1 p2).toInt64))), .second] [(.long ((((0 : Int64) + ((f1 p1).toInt64)) + ((f1 p2).toInt64)) + ((f1 p3).toInt64)))]))
      refine own_to (fun _ kz => XS.lstore X92.here hx rfl (hb hby at_139) rfl (l' := #[.val (.int p0), .val (.int p1), .val (.int p2), .val (.int p3), .val (.int p4), .val (.int (4 : Int32)), .val (.int (f1 p1)), .val (.int (f1 p2)), .val (.int (f1 p3)), .val (.int (f1 p4)), .val (.ref b35), .val (.ref b86), .val (.long ((((0 : Int64) + ((f1 p1).toInt64)) + ((f1 p2).toInt64)) + ((f1 p3).toInt64))), .second]) rfl kz) ?_
      show own_Fin p e below G (T92.setTop (mkF m 141 #[.val (.int p0), .val (.int p1), .val (.int p2), .val (.int p3), .val (.int p4), .val (.int (4 : Int32)), .val (.int (f1 p1)), .val (.int (f1 p2)), .val (.int (f1 p3)), .val (.int (f1 p4)), .val (.ref b35), .val (.ref b86), .val (.long ((((0 : Int64) + ((f1 p1).toInt64)) + ((f1 p2).toInt64)) + ((f1 p3).toInt64))), .second] []))
      refine own_to (fun _ kz => XS.iload X92.here hx rfl (hb hby at_141) rfl  kz) ?_
      show own_Fin p e below G (T92.setTop (mkF m 143 #[.val (.int p0), .val (.int p1), .val (.int p2), .val (.int p3), .val (.int p4), .val (.int (4 : Int32)), .val (.int (f1 p1)), .val (.int (f1 p2)), .val (.int (f1 p3)), .val (.int (f1 p4)), .val (.ref b35), .val (.ref b86), .val (.long ((((0 : Int64) + ((f1 p1).toInt64)) + ((f1 p2).toInt64)) + ((f1 p3).toInt64))), .second] [(.int (4 : Int32))]))
      refine own_to (fun _ kz => XS.iconst X92.here hx rfl (hb hby at_143) kz) ?_
      show own_Fin p e below G (T92.setTop (mkF m 144 #[.val (.int p0), .val (.int p1), .val (.int p2), .val (.int p3), .val (.int p4), .val (.int (4 : Int32)), .val (.int (f1 p1)), .val (.int (f1 p2)), .val (.int (f1 p3)), .val (.int (f1 p4)), .val (.ref b35), .val (.ref b86), .val (.long ((((0 : Int64) + ((f1 p1).toInt64)) + ((f1 p2).toInt64)) + ((f1 p3).toInt64))), .second] [(.int (3 : Int32)), (.int (4 : Int32))]))
      have hc144 : (3 : Int32) < (4 : Int32) := by decide
      refine own_to (fun _ kz => XS.icmpNo X92.here hx rfl (hb hby at_144) rfl (tlt hc144).2.2.2 kz) ?_
      show own_Fin p e below G (T92.setTop (mkF m 147 #[.val (.int p0), .val (.int p1), .val (.int p2), .val (.int p3), .val (.int p4), .val (.int (4 : Int32)), .val (.int (f1 p1)), .val (.int (f1 p2)), .val (.int (f1 p3)), .val (.int (f1 p4)), .val (.ref b35), .val (.ref b86), .val (.long ((((0 : Int64) + ((f1 p1).toInt64)) + ((f1 p2).toInt64)) + ((f1 p3).toInt64))), .second] []))
      refine own_to (fun _ kz => XS.lload X92.here hx rfl (hb hby at_147) rfl  kz) ?_
      show own_Fin p e below G (T92.setTop (mkF m 149 #[.val (.int p0), .val (.int p1), .val (.int p2), .val (.int p3), .val (.int p4), .val (.int (4 : Int32)), .val (.int (f1 p1)), .val (.int (f1 p2)), .val (.int (f1 p3)), .val (.int (f1 p4)), .val (.ref b35), .val (.ref b86), .val (.long ((((0 : Int64) + ((f1 p1).toInt64)) + ((f1 p2).toInt64)) + ((f1 p3).toInt64))), .second] [(.long ((((0 : Int64) + ((f1 p1).toInt64)) + ((f1 p2).toInt64)) + ((f1 p3).toInt64)))]))
      refine own_to (fun _ kz => XS.iload X92.here hx rfl (hb hby at_149) rfl  kz) ?_
      show own_Fin p e below G (T92.setTop (mkF m 151 #[.val (.int p0), .val (.int p1), .val (.int p2), .val (.int p3), .val (.int p4), .val (.int (4 : Int32)), .val (.int (f1 p1)), .val (.int (f1 p2)), .val (.int (f1 p3)), .val (.int (f1 p4)), .val (.ref b35), .val (.ref b86), .val (.long ((((0 : Int64) + ((f1 p1).toInt64)) + ((f1 p2).toInt64)) + ((f1 p3).toInt64))), .second] [(.int (f1 p4)), (.long ((((0 : Int64) + ((f1 p1).toInt64)) + ((f1 p2).toInt64)) + ((f1 p3).toInt64)))]))
      refine own_to (fun _ kz => XS.i2l X92.here hx rfl (hb hby at_151) rfl kz) ?_
      show own_Fin p e below G (T92.setTop (mkF m 152 #[.val (.int p0), .val (.int p1), .val (.int p2), .val (.int p3), .val (.int p4), .val (.int (4 : Int32)), .val (.int (f1 p1)), .val (.int (f1 p2)), .val (.int (f1 p3)), .val (.int (f1 p4)), .val (.ref b35), .val (.ref b86), .val (.long ((((0 : Int64) + ((f1 p1).toInt64)) + ((f1 p2).toInt64)) + ((f1 p3).toInt64))), .second] [(.long ((f1 p4).toInt64)), (.long ((((0 : Int64) + ((f1 p1).toInt64)) + ((f1 p2).toInt64)) + ((f1 p3).toInt64)))]))
      refine own_to (fun _ kz => XS.ladd X92.here hx rfl (hb hby at_152) rfl kz) ?_
      show own_Fin p e below G (T92.setTop (mkF m 153 #[.val (.int p0), .val (.int p1), .val (.int p2), .val (.int p3), .val (.int p4), .val (.int (4 : Int32)), .val (.int (f1 p1)), .val (.int (f1 p2)), .val (.int (f1 p3)), .val (.int (f1 p4)), .val (.ref b35), .val (.ref b86), .val (.long ((((0 : Int64) + ((f1 p1).toInt64)) + ((f1 p2).toInt64)) + ((f1 p3).toInt64))), .second] [(.long (((((0 : Int64) + ((f1 p1).toInt64)) + ((f1 p2).toInt64)) + ((f1 p3).toInt64)) + ((f1 p4).toInt64)))]))
      refine own_to (fun _ kz => XS.lstore X92.here hx rfl (hb hby at_153) rfl (l' := #[.val (.int p0), .val (.int p1), .val (.int p2), .val (.int p3), .val (.int p4), .val (.int (4 : Int32)), .val (.int (f1 p1)), .val (.int (f1 p2)), .val (.int (f1 p3)), .val (.int (f1 p4)), .val (.ref b35), .val (.ref b86), .val (.long (((((0 : Int64) + ((f1 p1).toInt64)) + ((f1 p2).toInt64)) + ((f1 p3).toInt64)) + ((f1 p4).toInt64))), .second]) rfl kz) ?_
      show own_Fin p e below G (T92.setTop (mkF m 155 #[.val (.int p0), .val (.int p1), .val (.int p2), .val (.int p3), .val (.int p4), .val (.int (4 : Int32)), .val (.int (f1 p1)), .val (.int (f1 p2)), .val (.int (f1 p3)), .val (.int (f1 p4)), .val (.ref b35), .val (.ref b86), .val (.long (((((0 : Int64) + ((f1 p1).toInt64)) + ((f1 p2).toInt64)) + ((f1 p3).toInt64)) + ((f1 p4).toInt64))), .second] []))
      refine own_to (fun _ kz => XS.iload X92.here hx rfl (hb hby at_155) rfl  kz) ?_
      show own_Fin p e below G (T92.setTop (mkF m 157 #[.val (.int p0), .val (.int p1), .val (.int p2), .val (.int p3), .val (.int p4), .val (.int (4 : Int32)), .val (.int (f1 p1)), .val (.int (f1 p2)), .val (.int (f1 p3)), .val (.int (f1 p4)), .val (.ref b35), .val (.ref b86), .val (.long (((((0 : Int64) + ((f1 p1).toInt64)) + ((f1 p2).toInt64)) + ((f1 p3).toInt64)) + ((f1 p4).toInt64))), .second] [(.int (4 : Int32))]))
      have hc157 : (0 : Int32) < (4 : Int32) := by decide
      refine own_to (fun _ kz => XS.ifNo X92.here hx rfl (hb hby at_157) rfl ((if0 _ _).trans (tlt hc157).2.2.2) kz) ?_
      show own_Fin p e below G (T92.setTop (mkF m 160 #[.val (.int p0), .val (.int p1), .val (.int p2), .val (.int p3), .val (.int p4), .val (.int (4 : Int32)), .val (.int (f1 p1)), .val (.int (f1 p2)), .val (.int (f1 p3)), .val (.int (f1 p4)), .val (.ref b35), .val (.ref b86), .val (.long (((((0 : Int64) + ((f1 p1).toInt64)) + ((f1 p2).toInt64)) + ((f1 p3).toInt64)) + ((f1 p4).toInt64))), .second] []))
      refine own_to (fun _ kz => XS.aload X92.here hx rfl (hb hby at_160) rfl (rfl)  kz) ?_
      show own_Fin p e below G (T92.setTop (mkF m 162 #[.val (.int p0), .val (.int p1), .val (.int p2), .val (.int p3), .val (.int p4), .val (.int (4 : Int32)), .val (.int (f1 p1)), .val (.int (f1 p2)), .val (.int (f1 p3)), .val (.int (f1 p4)), .val (.ref b35), .val (.ref b86), .val (.long (((((0 : Int64) + ((f1 p1).toInt64)) + ((f1 p2).toInt64)) + ((f1 p3).toInt64)) + ((f1 p4).toInt64))), .second] [(.ref b35)]))
      refine own_to (fun _ kz => XS.iconst X92.here hx rfl (hb hby at_162) kz) ?_
      show own_Fin p e below G (T92.setTop (mkF m 163 #[.val (.int p0), .val (.int p1), .val (.int p2), .val (.int p3), .val (.int p4), .val (.int (4 : Int32)), .val (.int (f1 p1)), .val (.int (f1 p2)), .val (.int (f1 p3)), .val (.int (f1 p4)), .val (.ref b35), .val (.ref b86), .val (.long (((((0 : Int64) + ((f1 p1).toInt64)) + ((f1 p2).toInt64)) + ((f1 p3).toInt64)) + ((f1 p4).toInt64))), .second] [(.int (0 : Int32)), (.ref b35)]))
      refine own_to (fun _ kz => XS.sipush X92.here hx rfl (hb hby at_163) kz) ?_
      show own_Fin p e below G (T92.setTop (mkF m 166 #[.val (.int p0), .val (.int p1), .val (.int p2), .val (.int p3), .val (.int p4), .val (.int (4 : Int32)), .val (.int (f1 p1)), .val (.int (f1 p2)), .val (.int (f1 p3)), .val (.int (f1 p4)), .val (.ref b35), .val (.ref b86), .val (.long (((((0 : Int64) + ((f1 p1).toInt64)) + ((f1 p2).toInt64)) + ((f1 p3).toInt64)) + ((f1 p4).toInt64))), .second] [(.int (320 : Int32)), (.int (0 : Int32)), (.ref b35)]))
      refine own_to (fun _ kz => XS.iload X92.here hx rfl (hb hby at_166) rfl  kz) ?_
      show own_Fin p e below G (T92.setTop (mkF m 168 #[.val (.int p0), .val (.int p1), .val (.int p2), .val (.int p3), .val (.int p4), .val (.int (4 : Int32)), .val (.int (f1 p1)), .val (.int (f1 p2)), .val (.int (f1 p3)), .val (.int (f1 p4)), .val (.ref b35), .val (.ref b86), .val (.long (((((0 : Int64) + ((f1 p1).toInt64)) + ((f1 p2).toInt64)) + ((f1 p3).toInt64)) + ((f1 p4).toInt64))), .second] [(.int (f1 p1)), (.int (320 : Int32)), (.int (0 : Int32)), (.ref b35)]))
      refine own_to (fun _ kz => XS.isub X92.here hx rfl (hb hby at_168) rfl kz) ?_
      show own_Fin p e below G (T92.setTop (mkF m 169 #[.val (.int p0), .val (.int p1), .val (.int p2), .val (.int p3), .val (.int p4), .val (.int (4 : Int32)), .val (.int (f1 p1)), .val (.int (f1 p2)), .val (.int (f1 p3)), .val (.int (f1 p4)), .val (.ref b35), .val (.ref b86), .val (.long (((((0 : Int64) + ((f1 p1).toInt64)) + ((f1 p2).toInt64)) + ((f1 p3).toInt64)) + ((f1 p4).toInt64))), .second] [(.int ((320 : Int32) - (f1 p1))), (.int (0 : Int32)), (.ref b35)]))
      have V85_at_169 : own_AV Value.int Z T92.heap b35 .int 4 (own_upd (own_upd (own_upd (own_upd (fun _ => (0 : Int32)) 0 (f1 p1)) 1 (f1 p2)) 2 (f1 p3)) 3 (f1 p4)) := (V85_at_92.keep Kp92 (ninS ne_b35_b86'4 nin0))
      obtain ⟨nn169, cl169, Ar169, Sz169, Hs169⟩ := V85_at_169
      obtain ⟨T169, h169, X169, e169, W169, st169⟩ := stI X92 hx hZ rfl Ar169 (j := (0 : Int32)) (own_in Sz169 (by decide) rfl (by decide)) (g := (mkF m 169 #[.val (.int p0), .val (.int p1), .val (.int p2), .val (.int p3), .val (.int p4), .val (.int (4 : Int32)), .val (.int (f1 p1)), .val (.int (f1 p2)), .val (.int (f1 p3)), .val (.int (f1 p4)), .val (.ref b35), .val (.ref b86), .val (.long (((((0 : Int64) + ((f1 p1).toInt64)) + ((f1 p2).toInt64)) + ((f1 p3).toInt64)) + ((f1 p4).toInt64))), .second] [(.int ((320 : Int32) - (f1 p1))), (.int (0 : Int32)), (.ref b35)])) rfl rfl (hb hby at_169)
      refine own_to st169 ?_
      have V169 : own_AV Value.int Z h169 b35 .int 4 (own_upd (own_upd (own_upd (own_upd (own_upd (fun _ => (0 : Int32)) 0 (f1 p1)) 1 (f1 p2)) 2 (f1 p3)) 3 (f1 p4)) 0 ((320 : Int32) - (f1 p1))) := own_AV.set nn169 Ar169 Sz169 Hs169 W169 rfl
      have N169 := Fr.snoc X169 N92 g_b35
      show own_Fin p e below G (T169.setTop (mkF m 170 #[.val (.int p0), .val (.int p1), .val (.int p2), .val (.int p3), .val (.int p4), .val (.int (4 : Int32)), .val (.int (f1 p1)), .val (.int (f1 p2)), .val (.int (f1 p3)), .val (.int (f1 p4)), .val (.ref b35), .val (.ref b86), .val (.long (((((0 : Int64) + ((f1 p1).toInt64)) + ((f1 p2).toInt64)) + ((f1 p3).toInt64)) + ((f1 p4).toInt64))), .second] []))
      refine own_to (fun _ kz => XS.aload X169.here hx rfl (hb hby at_170) rfl (rfl)  kz) ?_
      show own_Fin p e below G (T169.setTop (mkF m 172 #[.val (.int p0), .val (.int p1), .val (.int p2), .val (.int p3), .val (.int p4), .val (.int (4 : Int32)), .val (.int (f1 p1)), .val (.int (f1 p2)), .val (.int (f1 p3)), .val (.int (f1 p4)), .val (.ref b35), .val (.ref b86), .val (.long (((((0 : Int64) + ((f1 p1).toInt64)) + ((f1 p2).toInt64)) + ((f1 p3).toInt64)) + ((f1 p4).toInt64))), .second] [(.ref b86)]))
      have PF92_at_172'3 : Fld Z h169 b86 "wavegauge/model/Capacities" "wavelengths" "[I" (.ref b92) := (PF92.other W169 (Or.inl (Ne.symm ne_b35_b86'4)))
      have PV92_at_172'3 : own_AV Value.int Z h169 b92 .int 4 (own_upd (own_upd (own_upd (own_upd (fun _ => (0 : Int32)) 0 (f1 p1)) 1 (f1 p2)) 2 (f1 p3)) 3 (f1 p4)) := (PV92.other W169 (Ne.symm ne_b35_b92'4))
      have Zz_172_Kp92'4 := Nat.le_trans Z_92'4 Kp92.1
      have Zz_172_W169'3 := Nat.le_trans Zz_172_Kp92'4 (Nat.le_of_eq (Wr.size W169).symm)
      have Z_172'4 : n0 ≤ h169.size := Zz_172_W169'3
      have PE92_at_172'3 : Exa Z h169 b86 "wavegauge/model/Capacities" := (PE92.wr W169)
      obtain ⟨cq172, kq172, qa172, qb172, qc172⟩ := isOf hZ e169 PE92_at_172'3
      obtain ⟨_, _, ⟨T172, L172, k172, n172⟩, -, X172, ⟨Lc172, hQ172, l172, y172, z172⟩, st172⟩ := X169.virtualBack hx (y := (⟨"wavegauge/model/Capacities", "total", "()J"⟩ : MethodName)) (z := (⟨"wavegauge/model/Capacities", "total", "()J"⟩ : MethodName)) hown (mvT hZ (hw _ (List.mem_of_getElem? (i := 26) rfl))) (mvT hZ (hw _ (List.mem_of_getElem? (i := 27) rfl))) (notFace_of_selects (args := #[]) (mvT hZ (hw _ (List.mem_of_getElem? (i := 29) rfl)))) (mvT hZ (hw _ (List.mem_of_getElem? (i := 29) rfl))) (mvT hZ (hw _ (List.mem_of_getElem? (i := 28) rfl))) (by decide) (backOf (W := 0) (rm4 l Z a0 hw [] b86 4 (own_upd (own_upd (own_upd (own_upd (fun _ => (0 : Int32)) 0 (f1 p1)) 1 (f1 p2)) 2 (f1 p3)) 3 (f1 p4)) b92 h169 n0 Z_172'4 PF92_at_172'3 PV92_at_172'3) hZ (hw _ (List.mem_of_getElem? (i := 30) rfl)) (hw _ (List.mem_of_getElem? (i := 8) rfl)) (by decide) (by decide)) qa172 qc172 (g := (mkF m 172 #[.val (.int p0), .val (.int p1), .val (.int p2), .val (.int p3), .val (.int p4), .val (.int (4 : Int32)), .val (.int (f1 p1)), .val (.int (f1 p2)), .val (.int (f1 p3)), .val (.int (f1 p4)), .val (.ref b35), .val (.ref b86), .val (.long (((((0 : Int64) + ((f1 p1).toInt64)) + ((f1 p2).toInt64)) + ((f1 p3).toInt64)) + ((f1 p4).toInt64))), .second] [(.ref b86)])) rfl (by rw [hml]; rfl) (Steps.refl _) (argsL := []) (rest := []) (lenOf own_pd2 rfl) rfl (by show 2 * 0 + _ ≤ _; exact Nat.le_of_eq rfl) (hb hby at_172) (fun _ _ => ⟨rfl, e169, (by decide : 3 + 0 ≤ _), (by decide : 9 + 0 ≤ _)⟩)
      dsimp only [Pt.U, Pt.locs, Pt.cells, Pt.slots] at X172 l172 y172 z172 st172 hQ172
      subst l172 y172 z172
      obtain ⟨rfl, N172q, e172⟩ := hQ172
      have N172 := Fr.app N169 N172q
      refine own_via st172 ?_
      show own_Fin p e below G (T172.setTop (mkF m 175 #[.val (.int p0), .val (.int p1), .val (.int p2), .val (.int p3), .val (.int p4), .val (.int (4 : Int32)), .val (.int (f1 p1)), .val (.int (f1 p2)), .val (.int (f1 p3)), .val (.int (f1 p4)), .val (.ref b35), .val (.ref b86), .val (.long (((((0 : Int64) + ((f1 p1).toInt64)) + ((f1 p2).toInt64)) + ((f1 p3).toInt64)) + ((f1 p4).toInt64))), .second] [(.long (own_sumI (own_upd (own_upd (own_upd (own_upd (fun _ => (0 : Int32)) 0 (f1 p1)) 1 (f1 p2)) 2 (f1 p3)) 3 (f1 p4)) 4))]))
      refine own_to (fun _ kz => XS.lload X172.here hx rfl (hb hby at_175) rfl  kz) ?_
      show own_Fin p e below G (T172.setTop (mkF m 177 #[.val (.int p0), .val (.int p1), .val (.int p2), .val (.int p3), .val (.int p4), .val (.int (4 : Int32)), .val (.int (f1 p1)), .val (.int (f1 p2)), .val (.int (f1 p3)), .val (.int (f1 p4)), .val (.ref b35), .val (.ref b86), .val (.long (((((0 : Int64) + ((f1 p1).toInt64)) + ((f1 p2).toInt64)) + ((f1 p3).toInt64)) + ((f1 p4).toInt64))), .second] [(.long (((((0 : Int64) + ((f1 p1).toInt64)) + ((f1 p2).toInt64)) + ((f1 p3).toInt64)) + ((f1 p4).toInt64))), (.long (own_sumI (own_upd (own_upd (own_upd (own_upd (fun _ => (0 : Int32)) 0 (f1 p1)) 1 (f1 p2)) 2 (f1 p3)) 3 (f1 p4)) 4))]))
      refine own_to (fun _ kz => XS.lcmp X172.here hx rfl (hb hby at_177) rfl kz) ?_
      show own_Fin p e below G (T172.setTop (mkF m 178 #[.val (.int p0), .val (.int p1), .val (.int p2), .val (.int p3), .val (.int p4), .val (.int (4 : Int32)), .val (.int (f1 p1)), .val (.int (f1 p2)), .val (.int (f1 p3)), .val (.int (f1 p4)), .val (.ref b35), .val (.ref b86), .val (.long (((((0 : Int64) + ((f1 p1).toInt64)) + ((f1 p2).toInt64)) + ((f1 p3).toInt64)) + ((f1 p4).toInt64))), .second] [(.int (lcmpW (own_sumI (own_upd (own_upd (own_upd (own_upd (fun _ => (0 : Int32)) 0 (f1 p1)) 1 (f1 p2)) 2 (f1 p3)) 3 (f1 p4)) 4) (((((0 : Int64) + ((f1 p1).toInt64)) + ((f1 p2).toInt64)) + ((f1 p3).toInt64)) + ((f1 p4).toInt64))))]))
      have hc178 : (own_sumI (own_upd (own_upd (own_upd (own_upd (fun _ => (0 : Int32)) 0 (f1 p1)) 1 (f1 p2)) 2 (f1 p3)) 3 (f1 p4)) 4) = (((((0 : Int64) + ((f1 p1).toInt64)) + ((f1 p2).toInt64)) + ((f1 p3).toInt64)) + ((f1 p4).toInt64)) := (by simp [own_sumI, own_upd])
      refine own_to (fun _ kz => XS.ifNo X172.here hx rfl (hb hby at_178) rfl ((if0 _ _).trans (teq ((lw_eq _ _).mpr hc178)).2) kz) ?_
      show own_Fin p e below G (T172.setTop (mkF m 181 #[.val (.int p0), .val (.int p1), .val (.int p2), .val (.int p3), .val (.int p4), .val (.int (4 : Int32)), .val (.int (f1 p1)), .val (.int (f1 p2)), .val (.int (f1 p3)), .val (.int (f1 p4)), .val (.ref b35), .val (.ref b86), .val (.long (((((0 : Int64) + ((f1 p1).toInt64)) + ((f1 p2).toInt64)) + ((f1 p3).toInt64)) + ((f1 p4).toInt64))), .second] []))
      refine own_to (fun _ kz => XS.iconst X172.here hx rfl (hb hby at_181) kz) ?_
      show own_Fin p e below G (T172.setTop (mkF m 182 #[.val (.int p0), .val (.int p1), .val (.int p2), .val (.int p3), .val (.int p4), .val (.int (4 : Int32)), .val (.int (f1 p1)), .val (.int (f1 p2)), .val (.int (f1 p3)), .val (.int (f1 p4)), .val (.ref b35), .val (.ref b86), .val (.long (((((0 : Int64) + ((f1 p1).toInt64)) + ((f1 p2).toInt64)) + ((f1 p3).toInt64)) + ((f1 p4).toInt64))), .second] [(.int (1 : Int32))]))
      refine own_to (fun _ kz => XS.goto X172.here hx rfl (pc0 := 182) (pc' := 186) rfl (hb hby at_182) (by decide) (by decide) kz) ?_
      show own_Fin p e below G (T172.setTop (mkF m 186 #[.val (.int p0), .val (.int p1), .val (.int p2), .val (.int p3), .val (.int p4), .val (.int (4 : Int32)), .val (.int (f1 p1)), .val (.int (f1 p2)), .val (.int (f1 p3)), .val (.int (f1 p4)), .val (.ref b35), .val (.ref b86), .val (.long (((((0 : Int64) + ((f1 p1).toInt64)) + ((f1 p2).toInt64)) + ((f1 p3).toInt64)) + ((f1 p4).toInt64))), .second] [(.int (1 : Int32))]))
      exact own_retN X172 hx hlk hG (t := .boolean) Bd.returns (by simp) (hb hby at_186) (by decide) (by decide) (by rw [e172]; exact ⟨rfl, N172, trivial⟩)
  exact K33 ((p0 &&& (2147483647 : Int32)) % (5 : Int32)) (own_rem5 _)
set_option maxRecDepth 65536 in
set_option maxHeartbeats 40000000 in
theorem comes_1 {Post : Tables → Env → Array Value → State → Outcome → State → Prop} (hpost : ∀ tb e args s v u, (limb_1_1.after args s (.returned v) u = true ∧ limb_1_2.after args s (.returned v) u = true ∧ True) → FrameEnd s (.returned v) u (Jvm.fieldLocs frame_1_writes args s ++ Jvm.arrayLocs frame_1_arrays args s ++ Jvm.staticLocs frame_1_statics s) 16 128 → Post tb e args s (.returned v) u) :
    ArmFor flags0 classFile x code maxLocals ret World_1 tables_1 room_1 Calls_1 rest_1 Pre_1 Post := by
  intro l hfl _ _ p e ha hc hk s m args below hf hA hF happ hP
  obtain ⟨hcalls, hrest, hpre⟩ := hP
  obtain ⟨-, -, -, hnamed, -, -, -, hat⟩ := (Spec.applies_iff hf).mp happ
  obtain ⟨hg, hn⟩ := and_e (Cond.before_iff.mp (show (Jvm.Cond.and given_1 narrow_1).before args s = true from hpre))
  obtain ⟨gg1, gg2⟩ := and_e hg
  obtain ⟨gg3, gg4⟩ := and_e gg2
  obtain ⟨gg5, gg6⟩ := and_e gg4
  obtain ⟨gg7, gg8⟩ := and_e gg6
  obtain ⟨gg9, gg10⟩ := and_e gg8
  obtain ⟨w0, w1, w2, w3, w4, rfl⟩ : ∃ w0 w1 w2 w3 w4 : Value, args = #[w0, w1, w2, w3, w4] := by
    have hs : args.size = 5 := by simpa [Cond.value, given_1] using gg1
    obtain ⟨L⟩ := args
    match L, hs with
    | [w0, w1, w2, w3, w4], _ => exact ⟨w0, w1, w2, w3, w4, rfl⟩
  have hw := fun d (hd : d ∈ tables_1) => atoms_spec (ws := Jvm.Cond.code x code maxLocals ret :: tables_1) hat d (List.mem_cons_of_mem _ hd)
  obtain ⟨i0, ei0⟩ := is_v gg3
  obtain rfl : w0 = (.int i0) := Option.some.inj ei0
  obtain ⟨i1, ei1⟩ := is_v gg5
  obtain rfl : w1 = (.int i1) := Option.some.inj ei1
  obtain ⟨i2, ei2⟩ := is_v gg7
  obtain rfl : w2 = (.int i2) := Option.some.inj ei2
  obtain ⟨i3, ei3⟩ := is_v gg9
  obtain rfl : w3 = (.int i3) := Option.some.inj ei3
  obtain ⟨i4, ei4⟩ := is_v gg10
  obtain rfl : w4 = (.int i4) := Option.some.inj ei4
  obtain ⟨n, o, h1, h2, h3, v, L, rfl, ⟨hv, N, -⟩, hq⟩ := rm0 l s _ hw tables_1 i0 i1 i2 i3 i4 s.heap s.heap.size (Nat.le_refl _) p e ha hc hk s m _ below hf ((Spec.applies_iff_loose hf).mp happ).1 ⟨rfl, State.Warmed39.refl s, rfl⟩ trivial
  obtain rfl : v = some (.int 1) := hv
  refine ⟨n, _, h1, h2, h3, hpost _ _ _ _ _ _ ⟨Cond.after_iff.mpr rfl, Cond.after_iff.mpr (eq_i res_at (Term.int_eval (1)) rfl), trivial⟩ ⟨hq.1, hq.2.1, (hq.2.2.sift fun y hy => Or.inr (N y hy)).mono (by decide) (by decide)⟩⟩
theorem main_1_1 : Claimed_1_1 := comes_1 fun _ _ _ _ _ _ h hF => ⟨h.1, hF⟩
theorem main_1_2 : Claimed_1_2 := comes_1 fun _ _ _ _ _ _ h hF => ⟨h.2.1, hF⟩
end Jvm.Pilot.@@N@@
namespace Jvm.Pilot.@@N@@
open Jvm Jvm.ClassFile Sem Op Lib Jvm.Free Jvm.Stand Jvm.Pilot.@@N@@.Jvm.D
/-! MADE BY PROGRAM (witnessworld.py) out of the Statement's table words and the real class files: 9 classes; the members and pool entries that the words name. The judged class is class 1, her method 1. -/
namespace start1
open Jvm.ClassFile
def u (s : String) : CpInfo := .utf8 (stringToUtf16 s)
/-- a pool by its gaps: so many unusable entries, then the entry; so many at the end -/
def gap : Nat → List CpInfo → List CpInfo
  | 0, r => r
  | n + 1, r => .unusable :: gap n r
def poolList (es : List (Nat × CpInfo)) (last : Nat) : List CpInfo := es.foldr (fun e r => gap e.1 (e.2 :: r)) (gap last [])
def pool (es : List (Nat × CpInfo)) (last : Nat) : Array CpInfo := ⟨poolList es last⟩
def fileOf (pool : Array CpInfo) (this : Nat) (attrs : Array Attribute := #[]) (ms : Array MethodInfo := #[]) (fl : Nat := 33) (sup : Nat := 0) (ifs : Array Nat := #[]) (fds : Array FieldInfo := #[]) : ClassFile where
  minorVersion := 0
  majorVersion := 65
  constantPool := pool
  accessFlags := fl
  thisClass := this
  superClass := sup
  interfaces := ifs
  fields := fds
  methods := ms
  attributes := attrs
def plain (name : String) (sup : Option ClassId) : Class where
  name := name
  kind := .ordinary
  loader := none
  accessFlags := 33
  super := sup
  interfaces := #[]
  cf := none
  fields := #[]
  methods := #[]
  instanceTypes := #[]
  staticTypes := #[]
  resolved := #[]
  callSites := []
  init := .initialized
  statics := none
  mirror := none

def pool0 : Array CpInfo := pool [(5, u "<init>"), (0, u "()V"), (1, .class_ 10), (1, u "java/lang/Object"), (85, u "clone"), (0, u "()Ljava/lang/Object;")] 26

def k0c0 : Code := { maxStack := 0, maxLocals := 1, code := object_method_1_code, exceptionTable := #[], attributes := #[] }
def k0m0 : Method := { name := "<init>", desc := "()V", sig := { parameters := [], returnType := none }, accessFlags := 1, code := some k0c0 }
def k0m1 : Method := { name := "clone", desc := "()Ljava/lang/Object;", sig := { parameters := [], returnType := some (.object "java/lang/Object") }, accessFlags := 260, code := none }
/-- java/lang/Object -/
def k0 : Class := { plain "java/lang/Object" none with
  accessFlags := 33
  interfaces := #[]
  cf := some (fileOf pool0 8 #[] #[{ accessFlags := 1, nameIndex := 5, descriptorIndex := 6, attributes := #[] }, { accessFlags := 260, nameIndex := 96, descriptorIndex := 97, attributes := #[] }] 33 0 #[] #[])
  fields := #[]
  methods := #[k0m0, k0m1]
  instanceTypes := #[]
  staticTypes := #[]
  resolved := Array.replicate 124 none
  statics := none }

def pool1 : Array CpInfo := pool [(2, .class_ 4), (1, u "java/lang/Object"), (0, u "<init>"), (0, u "()V"), (0, .integer 2147483647), (0, .methodref 9 10), (0, .class_ 11), (0, .nameAndType 12 13), (0, u "wavegauge/model/CapacitiesTotalPinLaw"), (0, u "count"), (0, u "(I)I"), (0, .class_ 15), (0, u "wavegauge/model/Capacities"), (0, .methodref 14 17), (0, .nameAndType 5 18), (0, u "([I)V"), (0, .methodref 14 20), (0, .nameAndType 21 22), (0, u "total"), (0, u "()J"), (2, u "law"), (0, u "(IIIII)Z")] 5

def k1m0 : Method := { name := "<init>", desc := "()V", sig := { parameters := [], returnType := none }, accessFlags := 1, code := none }
def k1c1 : Code := { maxStack := 4, maxLocals := 14, code := code, exceptionTable := #[], attributes := #[] }
def k1m1 : Method := { name := "law", desc := "(IIIII)Z", sig := { parameters := [.int, .int, .int, .int, .int], returnType := some .boolean }, accessFlags := 9, code := some k1c1 }
def k1c2 : Code := { maxStack := 2, maxLocals := 1, code := method_3_code, exceptionTable := #[], attributes := #[] }
def k1m2 : Method := { name := "count", desc := "(I)I", sig := { parameters := [.int], returnType := some .int }, accessFlags := 10, code := some k1c2 }
/-- wavegauge/model/CapacitiesTotalPinLaw -/
def k1 : Class := { plain "wavegauge/model/CapacitiesTotalPinLaw" (some 0) with
  accessFlags := 49
  interfaces := #[]
  cf := some (fileOf pool1 9 #[] #[{ accessFlags := 1, nameIndex := 5, descriptorIndex := 6, attributes := #[] }, { accessFlags := 9, nameIndex := 25, descriptorIndex := 26, attributes := #[] }, { accessFlags := 10, nameIndex := 12, descriptorIndex := 13, attributes := #[] }] 49 2 #[] #[])
  fields := #[]
  methods := #[k1m0, k1m1, k1m2]
  instanceTypes := #[]
  staticTypes := #[]
  resolved := Array.replicate 32 none
  statics := none }

def pool2 : Array CpInfo := pool [(1, .methodref 2 3), (0, .class_ 4), (0, .nameAndType 5 6), (0, u "java/lang/Object"), (0, u "<init>"), (0, u "()V"), (0, .class_ 8), (0, u "wavegauge/model/Capacities"), (9, .methodref 19 20), (0, .class_ 21), (0, .nameAndType 22 23), (0, u "[I"), (0, u "clone"), (0, u "()Ljava/lang/Object;"), (0, .fieldref 7 25), (0, .nameAndType 26 21), (0, u "wavelengths"), (8, u "([I)V"), (49, u "MAX_WAVELENGTHS"), (0, u "I"), (9, u "total"), (0, u "()J")] 22

def k2c0 : Code := { maxStack := 5, maxLocals := 3, code := prog_24_method_1_code, exceptionTable := #[], attributes := #[] }
def k2m0 : Method := { name := "<init>", desc := "([I)V", sig := { parameters := [(.array .int)], returnType := none }, accessFlags := 1, code := some k2c0 }
def k2c1 : Code := { maxStack := 4, maxLocals := 7, code := prog_24_method_5_code, exceptionTable := #[], attributes := #[] }
def k2m1 : Method := { name := "total", desc := "()J", sig := { parameters := [], returnType := some .long }, accessFlags := 1, code := some k2c1 }
/-- wavegauge/model/Capacities -/
def k2 : Class := { plain "wavegauge/model/Capacities" (some 0) with
  accessFlags := 49
  interfaces := #[]
  cf := some (fileOf pool2 7 #[] #[{ accessFlags := 1, nameIndex := 5, descriptorIndex := 35, attributes := #[] }, { accessFlags := 1, nameIndex := 96, descriptorIndex := 97, attributes := #[] }] 49 2 #[] #[{ accessFlags := 25, nameIndex := 85, descriptorIndex := 86, attributes := #[] }, { accessFlags := 18, nameIndex := 26, descriptorIndex := 21, attributes := #[] }])
  fields := #[{ name := "MAX_WAVELENGTHS", type := .int, accessFlags := 25, slot := 0, constantValue := 0 }, { name := "wavelengths", type := (.array .int), accessFlags := 18, slot := 0, constantValue := 0 }]
  methods := #[k2m0, k2m1]
  instanceTypes := #[(.array .int)]
  staticTypes := #[.int]
  resolved := Array.replicate 120 none
  statics := none }

def pool3 : Array CpInfo := pool [(1, .class_ 2), (0, u "java/lang/Cloneable"), (0, .class_ 4), (0, u "java/lang/Object")] 2

/-- java/lang/Cloneable -/
def k3 : Class := { plain "java/lang/Cloneable" (some 0) with
  accessFlags := 1537
  interfaces := #[]
  cf := some (fileOf pool3 1 #[] #[] 1537 3 #[] #[])
  fields := #[]
  methods := #[]
  instanceTypes := #[]
  staticTypes := #[]
  resolved := Array.replicate 7 none
  statics := none }

def pool4 : Array CpInfo := pool [(1, u "java/io/Serializable"), (0, .class_ 1), (0, u "java/lang/Object"), (0, .class_ 3)] 3

/-- java/io/Serializable -/
def k4 : Class := { plain "java/io/Serializable" (some 0) with
  accessFlags := 1537
  interfaces := #[]
  cf := some (fileOf pool4 2 #[] #[] 1537 4 #[] #[])
  fields := #[]
  methods := #[]
  instanceTypes := #[]
  staticTypes := #[]
  resolved := Array.replicate 8 none
  statics := none }

/-- the primitive byte -/
def k5 : Class := { plain "byte" none with kind := .primitive 'B', accessFlags := 0x411 }
/-- [B -/
def k6 : Class := { plain "[B" (some 0) with kind := .array 5 .byte, interfaces := #[3, 4], accessFlags := 1041 }

/-- the primitive int -/
def k7 : Class := { plain "int" none with kind := .primitive 'I', accessFlags := 0x411 }
/-- [I -/
def k8 : Class := { plain "[I" (some 0) with kind := .array 7 .int, interfaces := #[3, 4], accessFlags := 1041 }

def heap : Heap := #[]
def classes : Array Class := #[k0, k1, k2, k3, k4, k5, k6, k7, k8]
def interned : List (Array UInt16 × Addr) := []
def slotsUsed : Nat := 0
def theMethod : MethodId := ⟨1, 1⟩
def args0 : Array Value := #[.int 3, .int 6, .int 7, .int 6, .int 7]
def aboutOver (below : List Frame) : State where
  vm := { classes := classes, interned := interned.toArray }
  heap := heap
  slotsUsed := slotsUsed
  threads := #[{ frames := .invoking theMethod args0 :: below }]
def below0 : List Frame := [.native { method := ⟨0, 0⟩, args := #[] }]
def about1 : State := aboutOver below0
def p0 : Program := .bare "" "" ""
def e0 : Env := launch0.env 0 0 0
theorem w_frames : about1.frames = Frame.invoking theMethod args0 :: below0 := rfl
set_option maxRecDepth 65536 in
theorem w_args : argsFit about1.vm theMethod args0 = true := by decide +kernel
set_option maxRecDepth 65536 in
theorem w_heap : heapFits about1 = true := by decide +kernel
set_option maxRecDepth 65536 in
theorem w_runnable : about1.curStatus? = some .runnable := by decide +kernel
set_option maxRecDepth 65536 in
theorem w_alone : about1.alone = true := by decide +kernel
set_option maxRecDepth 65536 in
theorem w_named : about1.methodNamed? x = some theMethod := by decide +kernel
set_option maxRecDepth 65536 in
theorem w_hears : about1.hears theMethod below0 = true := by decide +kernel
set_option maxRecDepth 65536 in
theorem w_ripe : about1.ripe theMethod args0 below0 = true := by decide +kernel
theorem w_running : about1.status = .running := rfl
set_option maxRecDepth 65536 in
theorem w_room : about1.hasRoom e0.platform room_1 = true :=
  launch0.hasRoom_least _ room_1 (by decide +kernel) (by decide +kernel) (by decide +kernel) (by decide +kernel) (by decide +kernel) (by decide +kernel)
theorem allAtoms_all (ts : List Jvm.Cond) (a : Array Jvm.Value) (st : Jvm.State) : (allAtoms ts).before a st = ts.all (fun c => c.before a st) := by
  induction ts with
  | nil => rfl
  | cons c t ih =>
    show (Jvm.Cond.and c (allAtoms t)).before a st = _
    rw [Jvm.Cond.before_and, ih, List.all_cons]
def words1 : List Jvm.Cond := Jvm.Cond.code x code maxLocals ret :: tables_1
/-- a 'code' word, met by the world's own term for the bytes: nothing is compared byte by byte -/
theorem code_word {y : MethodName} {bytes : ByteArray} {mx : Nat} {rt : Option FieldType} {a : Array Value} {s : State} {m : MethodId} {meth : Method} {c : Code} (h1 : s.methodNamed? y = some m) (h2 : s.vm.method? m = some meth) (h3 : meth.code = some c) (h4 : c.code = bytes)
    (h5 : (c.maxLocals == mx && c.exceptionTable.isEmpty && decide (c.maxStack ≤ mostOperands) && decide (meth.sig.returnType = rt) && !meth.locks && decide (parseMethodDescriptor y.desc = some meth.sig)) = true) : (Jvm.Cond.code y bytes mx rt).before a s = true := by
  simp only [Bool.and_eq_true, beq_iff_eq, Bool.not_eq_true', decide_eq_true_eq] at h5
  obtain ⟨⟨⟨⟨⟨g1, g2⟩, g3⟩, g4⟩, g5⟩, g6⟩ := h5
  simp [Cond.before, Cond.holds, Cond.value, h1, h2, h3, h4, g1, g2, g3, g4, g5, g6]
def isCode : Jvm.Cond → Bool
  | .code _ _ _ _ => true
  | _ => false
theorem all_split {L : List Jvm.Cond} {P : Jvm.Cond → Bool} (h1 : L.all (fun c => isCode c || P c) = true) (h2 : ∀ c ∈ L.filter isCode, P c = true) : L.all P = true := by
  refine List.all_eq_true.mpr fun c hc => ?_
  have h := List.all_eq_true.mp h1 c hc
  rcases Bool.eq_false_or_eq_true (isCode c) with hi | hi
  · exact h2 c (List.mem_filter.mpr ⟨hc, hi⟩)
  · simpa [hi] using h
set_option maxRecDepth 65536 in
theorem w_c0 : (Jvm.Cond.code x code maxLocals ret).before args0 about1 = true := code_word (m := ⟨1, 1⟩) (meth := k1m1) (c := k1c1) (by decide +kernel) rfl rfl rfl (by decide +kernel)
set_option maxRecDepth 65536 in
theorem w_c1 : (Jvm.Cond.code ({ cls := "wavegauge/model/CapacitiesTotalPinLaw", name := "count", desc := "(I)I" } : Jvm.MethodName) method_3_code (1 : Nat) (Option.some Jvm.ClassFile.FieldType.int)).before args0 about1 = true := code_word (m := ⟨1, 2⟩) (meth := k1m2) (c := k1c2) (by decide +kernel) rfl rfl rfl (by decide +kernel)
set_option maxRecDepth 65536 in
theorem w_c2 : (Jvm.Cond.code ({ cls := "wavegauge/model/Capacities", name := "<init>", desc := "([I)V" } : Jvm.MethodName) prog_24_method_1_code (3 : Nat) (Option.none : Option Jvm.ClassFile.FieldType)).before args0 about1 = true := code_word (m := ⟨2, 0⟩) (meth := k2m0) (c := k2c0) (by decide +kernel) rfl rfl rfl (by decide +kernel)
set_option maxRecDepth 65536 in
theorem w_c3 : (Jvm.Cond.code ({ cls := "java/lang/Object", name := "<init>", desc := "()V" } : Jvm.MethodName) object_method_1_code (1 : Nat) (Option.none : Option Jvm.ClassFile.FieldType)).before args0 about1 = true := code_word (m := ⟨0, 0⟩) (meth := k0m0) (c := k0c0) (by decide +kernel) rfl rfl rfl (by decide +kernel)
set_option maxRecDepth 65536 in
theorem w_c4 : (Jvm.Cond.code ({ cls := "wavegauge/model/Capacities", name := "total", desc := "()J" } : Jvm.MethodName) prog_24_method_5_code (7 : Nat) (Option.some Jvm.ClassFile.FieldType.long)).before args0 about1 = true := code_word (m := ⟨2, 1⟩) (meth := k2m1) (c := k2c1) (by decide +kernel) rfl rfl rfl (by decide +kernel)
def codes1 : List Jvm.Cond := [Jvm.Cond.code x code maxLocals ret, Jvm.Cond.code ({ cls := "wavegauge/model/CapacitiesTotalPinLaw", name := "count", desc := "(I)I" } : Jvm.MethodName) method_3_code (1 : Nat) (Option.some Jvm.ClassFile.FieldType.int), Jvm.Cond.code ({ cls := "wavegauge/model/Capacities", name := "<init>", desc := "([I)V" } : Jvm.MethodName) prog_24_method_1_code (3 : Nat) (Option.none : Option Jvm.ClassFile.FieldType), Jvm.Cond.code ({ cls := "java/lang/Object", name := "<init>", desc := "()V" } : Jvm.MethodName) object_method_1_code (1 : Nat) (Option.none : Option Jvm.ClassFile.FieldType), Jvm.Cond.code ({ cls := "wavegauge/model/Capacities", name := "total", desc := "()J" } : Jvm.MethodName) prog_24_method_5_code (7 : Nat) (Option.some Jvm.ClassFile.FieldType.long)]
set_option maxRecDepth 65536 in
theorem codes_eq : words1.filter isCode = codes1 := rfl
theorem w_codes : ∀ c ∈ words1.filter isCode, c.before args0 about1 = true := by
  rw [codes_eq]
  intro c hc
  simp only [codes1, List.mem_cons, List.not_mem_nil, or_false] at hc
  rcases hc with rfl | rfl | rfl | rfl | rfl
  · exact w_c0
  · exact w_c1
  · exact w_c2
  · exact w_c3
  · exact w_c4
set_option maxRecDepth 65536 in
theorem w_t1 : (words1.take 24).all (fun c => isCode c || c.before args0 about1) = true := by decide +kernel
set_option maxRecDepth 65536 in
theorem w_t2 : (words1.drop 24).all (fun c => isCode c || c.before args0 about1) = true := by decide +kernel
theorem w_tables : (allAtoms (Jvm.Cond.code x code maxLocals ret :: tables_1)).before args0 about1 = true := by
  rw [allAtoms_all]
  show words1.all (fun c => c.before args0 about1) = true
  refine all_split ?_ w_codes
  rw [← List.take_append_drop 24 words1, List.all_append, w_t1, w_t2]
  rfl
set_option maxRecDepth 65536 in
theorem w_case : (Jvm.Cond.and given_1 narrow_1).before args0 about1 = true := by decide +kernel
theorem w_applies : (headSpec (Jvm.Cond.code x code maxLocals ret :: tables_1) room_1).applies x e0.platform about1 = true :=
  (Spec.applies_iff w_frames).mpr ⟨w_running, w_runnable, w_alone, w_named, w_hears, w_ripe, w_room, w_tables⟩
theorem atStart : AtStart classFile x code maxLocals ret World_1 tables_1 room_1 Calls_1 rest_1 Pre_1 launch0 p0 e0 about1 theMethod args0 below0 :=
  ⟨lists_1, trivial, launch0.admits_env _ _ _, launch0.least_env, fairChoices_fair.cas, fairChoices_fair.clock, w_frames, w_args, w_heap, w_applies, trivial, trivial, w_case⟩
end start1
theorem witness_1 : WitnessClaimed_1 := ⟨start1.p0, start1.e0, start1.about1, start1.theMethod, start1.args0, start1.below0, start1.atStart⟩
end Jvm.Pilot.@@N@@
