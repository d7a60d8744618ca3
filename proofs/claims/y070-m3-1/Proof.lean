import JvmDerived
import JvmDerived.Pilot.@@N@@Statement
import JvmDerived.Pilot.@@N@@Code
set_option linter.unusedVariables false
set_option linter.unusedSimpArgs false

namespace Jvm.Pilot.@@N@@
open Jvm Jvm.ClassFile Sem Op Lib Jvm.Free Jvm.Stand Jvm.LawKit Jvm.RoadKit Bundle Jvm.Pilot.@@N@@.Jvm.D

section OwnKit
variable {p : Program} {l : Launch} {e : Env} {R : Room} {s : State} {m : MethodId} {args : Array Value} {below : List Frame} {meth : Method} {c : Code} {T : State} {locs : List Loc} {cells slots : Nat} {G : Outcome → State → Prop} {Q : Option Value → Heap → List Loc → Prop} {C S : Nat} {Z : State} {h h' : Heap}
/-- from the state t the invocation comes to an end of which G holds -/
def own_Fin (p : Program) (e : Env) (below : List Frame) (G : Outcome → State → Prop) (t : State) : Prop := ∃ s₂ o, Steps p.tables e below t s₂ ∧ s₂.status = .running ∧ Ended s₂ below o ∧ G o s₂
def own_G (s : State) (Q : Option Value → Heap → List Loc → Prop) (C S : Nat) (o : Outcome) (U' : State) : Prop := ∃ v L, o = .returned v ∧ Q v U'.heap L ∧ FrameEnd s o U' L C S
theorem own_to {t u : State} (h : ∀ z, Steps p.tables e below u z → Steps p.tables e below t z) (k : own_Fin p e below G u) : own_Fin p e below G t := by
  obtain ⟨a, b, c, d⟩ := k; exact ⟨a, b, h _ c, d⟩
theorem own_via {t u : State} (h : Steps p.tables e below t u) (k : own_Fin p e below G u) : own_Fin p e below G t := own_to (fun _ kz => h.trans kz) k
theorem own_retW (X : Stand p l e R s m args below meth c T locs cells slots) (hx : p.tables.exec = Jvm.exec) (hlk : meth.locks = false) (hG : G = own_G s Q C S) {f : JFrame} {w : Option Value} (hv : meth.sig.returnType = none → w = none)
    (st : ∀ fs, (∀ (f : JFrame) (acts : List Action), f.method = m → f.locked = none → f.entered = [] → (doReturn e (T.setTop f) acts w).1 = T.setFrames fs) → Steps p.tables e below (T.setTop f) (T.setFrames fs))
    (hc : cells ≤ C) (hs : slots ≤ S) (hQ : Q w T.heap locs) : own_Fin p e below G (T.setTop f) := by
  subst hG
  obtain ⟨fs, hr, hrun, hended, hW, hsame⟩ := X.leave (v := w) hv hlk
  exact ⟨_, _, st fs hr, hrun, hended, _, _, rfl, hQ, ⟨_, rfl⟩, hW, hsame.mono hc hs⟩
theorem own_retI (X : Stand p l e R s m args below meth c T locs cells slots) (hx : p.tables.exec = Jvm.exec) (hlk : meth.locks = false) (hG : G = own_G s Q C S) {pc : Nat} {Ls : Array Slot} {z : Int32} {rest : List Value} (hret : meth.sig.returnType = some .int) (hd : decode c.code pc = .ok (.ireturn, 1))
    (hc : cells ≤ C) (hs : slots ≤ S) (hQ : Q (some (.int z)) T.heap locs) : own_Fin p e below G (T.setTop (mkF m pc Ls (.int z :: rest))) :=
  own_retW X hx hlk hG (w := some (.int z)) (fun h => by rw [hret] at h; cases h) (fun fs hr => retOut X hx hret rfl (Or.inl ⟨rfl, Or.inl rfl, z, rfl⟩) hd hr) hc hs hQ
theorem own_retJ (X : Stand p l e R s m args below meth c T locs cells slots) (hx : p.tables.exec = Jvm.exec) (hlk : meth.locks = false) (hG : G = own_G s Q C S) {pc : Nat} {Ls : Array Slot} {z : Int64} {rest : List Value} (hret : meth.sig.returnType = some .long) (hd : decode c.code pc = .ok (.lreturn, 1))
    (hc : cells ≤ C) (hs : slots ≤ S) (hQ : Q (some (.long z)) T.heap locs) : own_Fin p e below G (T.setTop (mkF m pc Ls (.long z :: rest))) :=
  own_retW X hx hlk hG (w := some (.long z)) (fun h => by rw [hret] at h; cases h) (fun fs hr => retOut X hx hret rfl (Or.inr (Or.inl ⟨rfl, rfl, z, rfl⟩)) hd hr) hc hs hQ
theorem own_retA (X : Stand p l e R s m args below meth c T locs cells slots) (hx : p.tables.exec = Jvm.exec) (hlk : meth.locks = false) (hG : G = own_G s Q C S) {pc : Nat} {Ls : Array Slot} {w : Value} {rest : List Value} {t : FieldType} (hret : meth.sig.returnType = some t) (ht : t.isReference = true) (hw : w.isRef = true) (hd : decode c.code pc = .ok (.areturn, 1))
    (hc : cells ≤ C) (hs : slots ≤ S) (hQ : Q (some w) T.heap locs) : own_Fin p e below G (T.setTop (mkF m pc Ls (w :: rest))) :=
  own_retW X hx hlk hG (w := some w) (fun h => by rw [hret] at h; cases h) (fun fs hr => retOut X hx hret (by rcases ref_cases hw with rfl | ⟨a, rfl⟩ <;> cases t <;> first | rfl | (simp [FieldType.isReference] at ht)) (Or.inr (Or.inr (Or.inr (Or.inr ⟨rfl, ht, hw⟩)))) hd hr) hc hs hQ
theorem own_retN (X : Stand p l e R s m args below meth c T locs cells slots) (hx : p.tables.exec = Jvm.exec) (hlk : meth.locks = false) (hG : G = own_G s Q C S) {pc : Nat} {Ls : Array Slot} {z : Int32} {rest : List Value} {t : FieldType} (hret : meth.sig.returnType = some t) (ht : t = .boolean ∨ t = .byte ∨ t = .char ∨ t = .short) (hd : decode c.code pc = .ok (.ireturn, 1))
    (hc : cells ≤ C) (hs : slots ≤ S) (hQ : Q (some (.int (nar t z))) T.heap locs) : own_Fin p e below G (T.setTop (mkF m pc Ls (.int z :: rest))) :=
  own_retW X hx hlk hG (w := some (.int (nar t z))) (fun h => by rw [hret] at h; cases h) (fun fs hr => retN X hx hret ht hd hr) hc hs hQ
theorem own_retV (X : Stand p l e R s m args below meth c T locs cells slots) (hx : p.tables.exec = Jvm.exec) (hlk : meth.locks = false) (hG : G = own_G s Q C S) {pc : Nat} {Ls : Array Slot} (hret : meth.sig.returnType = none) (hd : decode c.code pc = .ok (.return_, 1))
    (hc : cells ≤ C) (hs : slots ≤ S) (hQ : Q none T.heap locs) : own_Fin p e below G (T.setTop (mkF m pc Ls [])) :=
  own_retW X hx hlk hG (w := none) (fun _ => rfl) (fun fs hr => X.returnOut hx hret hd hr) hc hs hQ
theorem own_lrem {g : JFrame} {target : State} (X : Stand p l e R s m args below meth c T locs cells slots) (hx : p.tables.exec = Jvm.exec) (hg : g.method = m) {x y : Int64} {rest : List Value} (hd : decode c.code g.pc = .ok (.lrem, 1)) (hs : g.stack = .long y :: .long x :: rest) (hy : y ≠ 0)
    (hr : Steps p.tables e below (T.setTop { g with pc := g.pc + 1, stack := .long (x % y) :: rest }) target) : Steps p.tables e below (T.setTop g) target := by
  have q : x - x / y * y = x % y := lrem_mod x y
  exact XS.lrem X.here hx hg hd hs hy (by rw [q]; exact hr)
def own_Pair (a b : Slot) : Prop := (a = .unset ∧ b = .unset) ∨ ∃ x, a = .val (.long x) ∧ b = .second
/-- the array at a has n places; place i holds mk (f i) -/
def own_AV {α : Type} (mk : α → Value) (Z : State) (h : Heap) (a : Addr) (ty : FieldType) (n : Nat) (f : Nat → α) : Prop := n < 2 ^ 31 ∧ ∃ c : Cell, Arr Z h a c ty ∧ c.slots.size = n ∧ ∀ i, i < n → c.slots[i]? = some (mk (f i))
def own_upd {α : Type} (f : Nat → α) (k : Nat) (v : α) : Nat → α := fun i => if i = k then v else f i
section
variable {α : Type} {mk : α → Value} {a b : Addr} {ty : FieldType} {n : Nat} {f f' : Nat → α} {ws : List Addr} {sl : Nat} {v : Value}
theorem own_AV.lt (F : own_AV mk Z h a ty n f) : a < h.size := by obtain ⟨_, c, A, -⟩ := F; exact A.lt
theorem own_AV.ext (F : own_AV mk Z h a ty n f) (E : Ext h h') : own_AV mk Z h' a ty n f := by obtain ⟨q, c, A, r⟩ := F; exact ⟨q, c, A.ext E, r⟩
theorem own_AV.other (F : own_AV mk Z h b ty n f) (W : Wr h h' a sl v) (q : b ≠ a) : own_AV mk Z h' b ty n f := by obtain ⟨q', c, A, r⟩ := F; exact ⟨q', c, A.other W q, r⟩
theorem own_AV.keep (F : own_AV mk Z h a ty n f) (K : Keep h h' ws) (q : a ∉ ws) : own_AV mk Z h' a ty n f := by obtain ⟨q', c, A, r⟩ := F; exact ⟨q', c, ⟨K.2.1 a c A.1 q, A.2⟩, r⟩
theorem own_AV.congr (F : own_AV mk Z h a ty n f) (q : ∀ i, i < n → f i = f' i) : own_AV mk Z h a ty n f' := by obtain ⟨q', c, A, r, s⟩ := F; exact ⟨q', c, A, r, fun i hi => by rw [s i hi, q i hi]⟩
theorem own_AV.new {k : ClassId} {z : Int32} (A : Arr Z h a (newA k ty z) ty) (q : ¬ z < 0) (hn : z.toNatClampNeg = n) (hf : ∀ i : Nat, defaultValue ty = mk (f i)) : own_AV mk Z h a ty n f := by
  refine ⟨hn ▸ (back32 q).2, _, A, (sz_new _ _ _).trans hn, fun i hi => ?_⟩
  rw [← hf i]; simp [newA, hn, hi]
theorem own_updr {P : α → Prop} {k : Nat} {w : α} (hv : P w) (hf : ∀ i, P (f i)) : ∀ i, P (own_upd f k w i) := fun i => by
  unfold own_upd; split
  · exact hv
  · exact hf i
theorem own_in {c : Cell} {j : Int32} {k : Nat} (S : c.slots.size = n) (hj : ¬ j < 0) (hk : j.toNatClampNeg = k) (hlt : k < n) : ¬ (j < 0 ∨ c.slots.size ≤ j.toNatClampNeg) := fun q => q.elim hj fun r => by omega
theorem own_AV.set {c : Cell} {j : Int32} {k : Nat} {w : α} (nn : n < 2 ^ 31) (A : Arr Z h a c ty) (S : c.slots.size = n) (H : ∀ i, i < n → c.slots[i]? = some (mk (f i))) (W : Wr h h' a j.toNatClampNeg (mk w)) (hk : j.toNatClampNeg = k) : own_AV mk Z h' a ty n (own_upd f k w) := by
  subst hk
  refine ⟨nn, _, A.same W, by rw [sz_set]; exact S, fun i hi => ?_⟩
  show (c.setSlot j.toNatClampNeg (mk w)).slots[i]? = some (mk (if i = j.toNatClampNeg then w else f i))
  simp only [Cell.setSlot]
  by_cases q : i = j.toNatClampNeg
  · subst q; rw [if_pos rfl]; simp [S, hi]
  · rw [if_neg q, Array.getElem?_setIfInBounds_ne (fun r => q r.symm)]; exact H i hi
theorem own_iaload (X : Stand p l e R s m args below meth c T locs cells slots) (hx : p.tables.exec = Jvm.exec) (hZ : Z.Warmed39 s.vm) (eT : T.heap = h) {f : Nat → Int32} (F : own_AV Value.int Z h a .int n f) {j : Int32} {k : Nat} (hj : ¬ j < 0) (hk : j.toNatClampNeg = k) (hlt : k < n)
    {g : JFrame} (hg : g.method = m) {rest : List Value} (hs : g.stack = .int j :: .ref a :: rest) (hd : decode c.code g.pc = .ok (.iaload, 1)) {target : State} (hr : Steps p.tables e below (T.setTop { g with pc := g.pc + 1, stack := .int (f k) :: rest }) target) : Steps p.tables e below (T.setTop g) target := by
  obtain ⟨_, cl, A, S, H⟩ := F
  exact X.iaload hx (j := j) (v := .int (f k)) (by rw [eT]; exact A.1) (State.isArrayOf_alike hZ.alike A.2.1) A.2.2 (own_in S hj hk hlt) (by rw [hk]; exact H k hlt) hg hs hd _ hr
theorem own_laload (X : Stand p l e R s m args below meth c T locs cells slots) (hx : p.tables.exec = Jvm.exec) (hZ : Z.Warmed39 s.vm) (eT : T.heap = h) {f : Nat → Int64} (F : own_AV Value.long Z h a .long n f) {j : Int32} {k : Nat} (hj : ¬ j < 0) (hk : j.toNatClampNeg = k) (hlt : k < n)
    {g : JFrame} (hg : g.method = m) {rest : List Value} (hs : g.stack = .int j :: .ref a :: rest) (hd : decode c.code g.pc = .ok (.laload, 1)) {target : State} (hr : Steps p.tables e below (T.setTop { g with pc := g.pc + 1, stack := .long (f k) :: rest }) target) : Steps p.tables e below (T.setTop g) target := by
  obtain ⟨_, cl, A, S, H⟩ := F
  exact X.laload hx (j := j) (v := .long (f k)) (by rw [eT]; exact A.1) (State.isArrayOf_alike hZ.alike A.2.1) A.2.2 (own_in S hj hk hlt) (by rw [hk]; exact H k hlt) hg hs hd _ hr
theorem own_baload (X : Stand p l e R s m args below meth c T locs cells slots) (hx : p.tables.exec = Jvm.exec) (hZ : Z.Warmed39 s.vm) (eT : T.heap = h) {f : Nat → Int32} (F : own_AV Value.int Z h a .byte n f) {j : Int32} {k : Nat} (hj : ¬ j < 0) (hk : j.toNatClampNeg = k) (hlt : k < n)
    {g : JFrame} (hg : g.method = m) {rest : List Value} (hs : g.stack = .int j :: .ref a :: rest) (hd : decode c.code g.pc = .ok (.baload, 1)) {target : State} (hr : Steps p.tables e below (T.setTop { g with pc := g.pc + 1, stack := .int (f k) :: rest }) target) : Steps p.tables e below (T.setTop g) target := by
  obtain ⟨_, cl, A, S, H⟩ := F
  exact X.baloadBytes hx (j := j) (v := .int (f k)) (by rw [eT]; exact A.1) (State.isArrayOf_alike hZ.alike A.2.1) A.2.2 (own_in S hj hk hlt) (by rw [hk]; exact H k hlt) hg hs hd _ hr
theorem own_cloneI (X : Stand p l e R s m args below meth c T locs cells slots) (hx : p.tables.exec = Jvm.exec) (hZ : Z.Warmed39 s.vm) {a0 : Array Value} {own ad : String} {index : Nat} (hown : s.vm.findClass own = some m.cls)
    (w1 : (Cond.methodLink own index ⟨ad, "clone", "()Ljava/lang/Object;"⟩).before a0 Z = true) (w2 : (Cond.sameMethod ad "java/lang/Object" "clone" "()Ljava/lang/Object;").before a0 Z = true) (w3 : (Cond.native ⟨"java/lang/Object", "clone", "()Ljava/lang/Object;"⟩).before a0 Z = true)
    (w4 : (Cond.instanceMethod ⟨"java/lang/Object", "clone", "()Ljava/lang/Object;"⟩).before a0 Z = true) (w5 : (Cond.selects ad ⟨ad, "clone", "()Ljava/lang/Object;"⟩ ⟨"java/lang/Object", "clone", "()Ljava/lang/Object;"⟩).before a0 Z = true) (w6 : (Cond.castable ad "java/lang/Cloneable").before a0 Z = true)
    (eT : T.heap = h) {f : Nat → Int32} (F : own_AV Value.int Z h a .int n f) (E : Exa Z h a ad) {g : JFrame} (hg : g.method = m) (hsize : g.locals.size = c.maxLocals) {rest : List Value} (hs : g.stack = .ref a :: rest) (hd : decode c.code g.pc = .ok (.invokevirtual index, 3))
    (hf : 1 ≤ R.frames) {W cap : Nat} (hW : 2 * g.monitorRoom + (rest.map fun v => v.category).sum ≤ W) (hl : W + 14 ≤ R.locals) (hcap : n ≤ cap) (hc : cells + 1 ≤ R.cells) (hsl : slots + cap ≤ R.slots) :
    ∃ T' h', Stand p l e R s m args below meth c T' locs (cells + 1) (slots + cap) ∧ T'.heap = h' ∧ Ext h h' ∧ own_AV Value.int Z h' h.size .int n f ∧ Exa Z h' h.size ad ∧
      ∀ target, Steps p.tables e below (T'.setTop { g with pc := g.pc + 3, stack := .ref h.size :: rest }) target → Steps p.tables e below (T.setTop g) target := by
  obtain ⟨nn, cl, A, S, H⟩ := F
  have FC : FitC Z cl := fitC_of A fun i hi v hv => by rw [H i (S ▸ hi)] at hv; cases hv; rfl
  obtain ⟨T', h', X', e', ex, A', E', st⟩ := cloneA X hx hZ hown w1 w2 w3 w4 w5 w6 eT A E FC hg hsize hs hd hf hW hl (by rw [S]; exact hcap) hc hsl
  exact ⟨T', h', X', e', ex, ⟨nn, cloneOf cl, A', S, H⟩, E', st⟩
theorem own_alen (X : Stand p l e R s m args below meth c T locs cells slots) (hx : p.tables.exec = Jvm.exec) (hZ : Z.Warmed39 s.vm) (eT : T.heap = h) (F : own_AV mk Z h a ty n f) {z : Int32} (hz : n.toInt32 = z)
    {g : JFrame} (hg : g.method = m) {rest : List Value} (hs : g.stack = .ref a :: rest) (hd : decode c.code g.pc = .ok (.arraylength, 1)) {target : State} (hr : Steps p.tables e below (T.setTop { g with pc := g.pc + 1, stack := .int z :: rest }) target) : Steps p.tables e below (T.setTop g) target := by
  obtain ⟨_, cl, A, S, H⟩ := F
  exact X.arraylength hx (by rw [eT]; exact A.1) (State.isArrayOf_alike hZ.alike A.2.1) hg hs hd _ (by rw [S, hz]; exact hr)
end
end OwnKit
def own_sum (f : Nat → Int64) : Nat → Int64
  | 0 => 0
  | k + 1 => own_sum f k + f k
theorem own_z32 : (0 : Int32).toInt = 0 := by decide
theorem own_nneg {i : Int32} (h : 0 ≤ i.toInt) : ¬ i < 0 := by rw [Int32.lt_iff_toInt_lt, own_z32]; omega
theorem own_natc {i : Int32} (h : 0 ≤ i.toInt) : (i.toNatClampNeg : Int) = i.toInt := (nat_of (own_nneg h)).symm
theorem own_ofNat {n : Nat} (h : n < 2 ^ 31) : (Int32.ofNat n).toInt = n := Int32.toInt_ofNat_of_lt h
theorem own_inc {i : Int32} {n : Nat} (hn : n < 2 ^ 31) (h : 0 ≤ i.toInt) (h2 : i.toInt < n) : (i + (1 : Int32)).toInt = i.toInt + 1 := by
  have e := c_iadd i 1; have r := rng32 (i + 1); have o : (1 : Int32).toInt = 1 := by decide
  omega
/-- a turn more: i + 1, the place i -/
theorem own_up {i : Int32} {n : Nat} (hn : n < 2 ^ 31) (hi : 0 ≤ i.toInt ∧ i.toInt ≤ n) (hc : i < Int32.ofNat n) :
    (0 ≤ (i + (1 : Int32)).toInt ∧ (i + (1 : Int32)).toInt ≤ n) ∧ (¬ i < 0 ∧ i.toNatClampNeg < n) ∧ (i + (1 : Int32)).toNatClampNeg = i.toNatClampNeg + 1 := by
  rw [Int32.lt_iff_toInt_lt, own_ofNat hn] at hc
  have e := own_inc hn hi.1 hc
  have a := own_natc hi.1
  have b := own_natc (i := i + 1) (by omega)
  exact ⟨by omega, ⟨own_nneg hi.1, by omega⟩, by omega⟩
theorem own_dec {i : Int32} {n k : Nat} (hn : n < 2 ^ 31) (hi : 0 ≤ i.toInt ∧ i.toInt ≤ n) (hc : i < Int32.ofNat n) (hm : n - i.toNatClampNeg = k) : n - (i + (1 : Int32)).toNatClampNeg < k := by
  have h := own_up hn hi hc
  omega
theorem own_last {i : Int32} {n : Nat} (hn : n < 2 ^ 31) (hi : 0 ≤ i.toInt ∧ i.toInt ≤ n) (hc : ¬ i < Int32.ofNat n) : i.toNatClampNeg = n := by
  rw [Int32.lt_iff_toInt_lt, own_ofNat hn] at hc
  have a := own_natc hi.1
  omega

theorem own_pn0 : plainName "com/example/resync/resync/codec/DelimiterIndexOfByPairsPinLaw" = true := by first | (simp [plainName, overriddenIn]; done) | decide +kernel
theorem d1_0 : decode method_2_code 0 = .ok (.lload_n 2, 1) := by decide +kernel
theorem d1_1 : decode method_2_code 1 = .ok (.iconst 2, 1) := by decide +kernel
theorem d1_2 : decode method_2_code 2 = .ok (.iload 4, 2) := by decide +kernel
theorem d1_4 : decode method_2_code 4 = .ok (.imul, 1) := by decide +kernel
theorem d1_5 : decode method_2_code 5 = .ok (.lushr, 1) := by decide +kernel
theorem d1_6 : decode method_2_code 6 = .ok (.l2i, 1) := by decide +kernel
theorem d1_7 : decode method_2_code 7 = .ok (.iconst 3, 1) := by decide +kernel
theorem d1_8 : decode method_2_code 8 = .ok (.iand, 1) := by decide +kernel
theorem d1_9 : decode method_2_code 9 = .ok (.istore 5, 2) := by decide +kernel
theorem d1_11 : decode method_2_code 11 = .ok (.iload 5, 2) := by decide +kernel
theorem d1_13 : decode method_2_code 13 = .ok (.ifCond .ne 6, 3) := by decide +kernel
theorem d1_16 : decode method_2_code 16 = .ok (.bipush (-2), 2) := by decide +kernel
theorem d1_18 : decode method_2_code 18 = .ok (.ireturn, 1) := by decide +kernel
theorem d1_19 : decode method_2_code 19 = .ok (.iload 5, 2) := by decide +kernel
theorem d1_21 : decode method_2_code 21 = .ok (.iconst 1, 1) := by decide +kernel
theorem d1_22 : decode method_2_code 22 = .ok (.if_icmp .ne 6, 3) := by decide +kernel
theorem d1_25 : decode method_2_code 25 = .ok (.bipush (-3), 2) := by decide +kernel
theorem d1_27 : decode method_2_code 27 = .ok (.ireturn, 1) := by decide +kernel
theorem d1_28 : decode method_2_code 28 = .ok (.lload_n 0, 1) := by decide +kernel
theorem d1_29 : decode method_2_code 29 = .ok (.bipush 8, 2) := by decide +kernel
theorem d1_31 : decode method_2_code 31 = .ok (.iload 4, 2) := by decide +kernel
theorem d1_33 : decode method_2_code 33 = .ok (.imul, 1) := by decide +kernel
theorem d1_34 : decode method_2_code 34 = .ok (.lushr, 1) := by decide +kernel
theorem d1_35 : decode method_2_code 35 = .ok (.l2i, 1) := by decide +kernel
theorem d1_36 : decode method_2_code 36 = .ok (.i2b, 1) := by decide +kernel
theorem d1_37 : decode method_2_code 37 = .ok (.ireturn, 1) := by decide +kernel
theorem ef1 (m : MethodId) (x0 : Int64) (x1 : Int64) (p2 : Int32) : entryFrame m #[(.long x0), (.long x1), (.int p2)] 6 = mkF m 0 #[.val (.long x0), .second, .val (.long x1), .second, .val (.int p2), .unset] [] := by first | (simp [entryFrame, mkF, argsToLocals, Value.category]; done) | rfl
def f1 (x0 : Int64) (x1 : Int64) (p2 : Int32) : Int32 := if ((((x1.toUInt64 >>> (((2 : Int32) * p2) &&& 0x3f).toInt64.toUInt64).toInt64).toInt32) &&& (3 : Int32)) = (0 : Int32) then (nar .byte (-2 : Int32)) else if ((((x1.toUInt64 >>> (((2 : Int32) * p2) &&& 0x3f).toInt64.toUInt64).toInt64).toInt32) &&& (3 : Int32)) = (1 : Int32) then (nar .byte (-3 : Int32)) else (nar .byte ((((x0.toUInt64 >>> (((8 : Int32) * p2) &&& 0x3f).toInt64.toUInt64).toInt64).toInt32).toInt8.toInt32))
def Q1 (Z : State) (x0 : Int64) (x1 : Int64) (p2 : Int32) (h0 : Heap) (n0 : Nat) (v : Option Value) (h : Heap) (L : List Loc) : Prop := v = some (.int (f1 x0 x1 p2)) ∧ Fr n0 L ∧ h = h0
set_option maxRecDepth 65536 in
set_option maxHeartbeats 40000000 in
theorem rm1 (l : Launch) (Z : State) (a0 : Array Value) (hw : ∀ d ∈ tables_1, d.before a0 Z = true) (ws : List Jvm.Cond) (x0 : Int64) (x1 : Int64) (p2 : Int32) (h0 : Heap) (n0 : Nat) (Z0 : n0 ≤ h0.size) :
    MetFree l (⟨"com/example/resync/resync/codec/DelimiterIndexOfByPairsPinLaw", "pick", "(JJI)B"⟩ : MethodName) (head1 (Jvm.Cond.code (⟨"com/example/resync/resync/codec/DelimiterIndexOfByPairsPinLaw", "pick", "(JJI)B"⟩ : MethodName) method_2_code 6 (some .byte) :: ws) ({ frames := 0, cells := 0, slots := 0, locals := 0 } : Room)) (fun a U => a = #[(.long x0), (.long x1), (.int p2)] ∧ Z.Warmed39 U.vm ∧ U.heap = h0) (fun _ _ _ _ _ => True) (fun _ U o U' => ∃ v L, o = .returned v ∧ Q1 Z x0 x1 p2 h0 n0 v U'.heap L ∧ FrameEnd U o U' L ({ frames := 0, cells := 0, slots := 0, locals := 0 } : Room).cells ({ frames := 0, cells := 0, slots := 0, locals := 0 } : Room).slots) := by
  refine MetFree.of_bodySF (plainFor_of_name own_pn0) hisR ?_
  intro p e s m args below meth c s₁ Bd hml0 hP hK
  obtain ⟨rfl, hZ, hh⟩ := hP
  have hx := Bd.exec
  have hby := Bd.bytes
  have hml : c.maxLocals = 6 := hml0
  have hown : s.vm.findClass "com/example/resync/resync/codec/DelimiterIndexOfByPairsPinLaw" = some m.cls := findClass_of_methodNamed Bd.named
  have hnm := (name_of_methodNamed Bd.named Bd.method).1
  have hlk : meth.locks = false := BodyLoose.notSynchronized Bd
  have X0 : Stand p l e ({ frames := 0, cells := 0, slots := 0, locals := 0 } : Room) s m #[(.long x0), (.long x1), (.int p2)] below meth c s₁ [] 0 0 := Stand.of_body Bd
  have e0 : s₁.heap = h0 := by rw [← hh, Bd.state]; rfl
  have N0 := Fr.nil n0
  obtain ⟨G, hG⟩ : ∃ G, G = own_G s (Q1 Z x0 x1 p2 h0 n0) ({ frames := 0, cells := 0, slots := 0, locals := 0 } : Room).cells ({ frames := 0, cells := 0, slots := 0, locals := 0 } : Room).slots := ⟨_, rfl⟩
  show own_Fin p e below (own_G s (Q1 Z x0 x1 p2 h0 n0) ({ frames := 0, cells := 0, slots := 0, locals := 0 } : Room).cells ({ frames := 0, cells := 0, slots := 0, locals := 0 } : Room).slots) (s₁.setTop (entryFrame m #[(.long x0), (.long x1), (.int p2)] 6))
  rw [← hG]
  refine own_to (fun _ kz => castTop (ef1 m x0 x1 p2) kz) ?_
  have q0 : (f1 x0 x1 p2) = (f1 x0 x1 p2) := rfl
  show own_Fin p e below G (s₁.setTop (mkF m 0 #[.val (.long x0), .second, .val (.long x1), .second, .val (.int p2), .unset] []))
  refine own_to (fun _ kz => XS.lloadN X0.here hx rfl (hb hby d1_0) rfl  kz) ?_
  show own_Fin p e below G (s₁.setTop (mkF m 1 #[.val (.long x0), .second, .val (.long x1), .second, .val (.int p2), .unset] [(.long x1)]))
  refine own_to (fun _ kz => XS.iconst X0.here hx rfl (hb hby d1_1) kz) ?_
  show own_Fin p e below G (s₁.setTop (mkF m 2 #[.val (.long x0), .second, .val (.long x1), .second, .val (.int p2), .unset] [(.int (2 : Int32)), (.long x1)]))
  refine own_to (fun _ kz => XS.iload X0.here hx rfl (hb hby d1_2) rfl  kz) ?_
  show own_Fin p e below G (s₁.setTop (mkF m 4 #[.val (.long x0), .second, .val (.long x1), .second, .val (.int p2), .unset] [(.int p2), (.int (2 : Int32)), (.long x1)]))
  refine own_to (fun _ kz => XS.imul X0.here hx rfl (hb hby d1_4) rfl kz) ?_
  show own_Fin p e below G (s₁.setTop (mkF m 5 #[.val (.long x0), .second, .val (.long x1), .second, .val (.int p2), .unset] [(.int ((2 : Int32) * p2)), (.long x1)]))
  refine own_to (fun _ kz => XS.lushr X0.here hx rfl (hb hby d1_5) rfl kz) ?_
  show own_Fin p e below G (s₁.setTop (mkF m 6 #[.val (.long x0), .second, .val (.long x1), .second, .val (.int p2), .unset] [(.long ((x1.toUInt64 >>> (((2 : Int32) * p2) &&& 0x3f).toInt64.toUInt64).toInt64))]))
  refine own_to (fun _ kz => XS.l2i X0.here hx rfl (hb hby d1_6) rfl kz) ?_
  show own_Fin p e below G (s₁.setTop (mkF m 7 #[.val (.long x0), .second, .val (.long x1), .second, .val (.int p2), .unset] [(.int (((x1.toUInt64 >>> (((2 : Int32) * p2) &&& 0x3f).toInt64.toUInt64).toInt64).toInt32))]))
  refine own_to (fun _ kz => XS.iconst X0.here hx rfl (hb hby d1_7) kz) ?_
  show own_Fin p e below G (s₁.setTop (mkF m 8 #[.val (.long x0), .second, .val (.long x1), .second, .val (.int p2), .unset] [(.int (3 : Int32)), (.int (((x1.toUInt64 >>> (((2 : Int32) * p2) &&& 0x3f).toInt64.toUInt64).toInt64).toInt32))]))
  refine own_to (fun _ kz => XS.iand X0.here hx rfl (hb hby d1_8) rfl kz) ?_
  show own_Fin p e below G (s₁.setTop (mkF m 9 #[.val (.long x0), .second, .val (.long x1), .second, .val (.int p2), .unset] [(.int ((((x1.toUInt64 >>> (((2 : Int32) * p2) &&& 0x3f).toInt64.toUInt64).toInt64).toInt32) &&& (3 : Int32)))]))
  refine own_to (fun _ kz => XS.istore X0.here hx rfl (hb hby d1_9) rfl (l' := #[.val (.long x0), .second, .val (.long x1), .second, .val (.int p2), .val (.int ((((x1.toUInt64 >>> (((2 : Int32) * p2) &&& 0x3f).toInt64.toUInt64).toInt64).toInt32) &&& (3 : Int32)))]) rfl kz) ?_
  show own_Fin p e below G (s₁.setTop (mkF m 11 #[.val (.long x0), .second, .val (.long x1), .second, .val (.int p2), .val (.int ((((x1.toUInt64 >>> (((2 : Int32) * p2) &&& 0x3f).toInt64.toUInt64).toInt64).toInt32) &&& (3 : Int32)))] []))
  refine own_to (fun _ kz => XS.iload X0.here hx rfl (hb hby d1_11) rfl  kz) ?_
  show own_Fin p e below G (s₁.setTop (mkF m 13 #[.val (.long x0), .second, .val (.long x1), .second, .val (.int p2), .val (.int ((((x1.toUInt64 >>> (((2 : Int32) * p2) &&& 0x3f).toInt64.toUInt64).toInt64).toInt32) &&& (3 : Int32)))] [(.int ((((x1.toUInt64 >>> (((2 : Int32) * p2) &&& 0x3f).toInt64.toUInt64).toInt64).toInt32) &&& (3 : Int32)))]))
  by_cases hc13 : ((((x1.toUInt64 >>> (((2 : Int32) * p2) &&& 0x3f).toInt64.toUInt64).toInt64).toInt32) &&& (3 : Int32)) = (0 : Int32)
  · refine own_to (fun _ kz => XS.ifNo X0.here hx rfl (hb hby d1_13) rfl ((if0 _ _).trans (teq hc13).2) kz) ?_
    have q13t := q0.trans (if_pos hc13)
    show own_Fin p e below G (s₁.setTop (mkF m 16 #[.val (.long x0), .second, .val (.long x1), .second, .val (.int p2), .val (.int ((((x1.toUInt64 >>> (((2 : Int32) * p2) &&& 0x3f).toInt64.toUInt64).toInt64).toInt32) &&& (3 : Int32)))] []))
    refine own_to (fun _ kz => XS.bipush X0.here hx rfl (hb hby d1_16) kz) ?_
    show own_Fin p e below G (s₁.setTop (mkF m 18 #[.val (.long x0), .second, .val (.long x1), .second, .val (.int p2), .val (.int ((((x1.toUInt64 >>> (((2 : Int32) * p2) &&& 0x3f).toInt64.toUInt64).toInt64).toInt32) &&& (3 : Int32)))] [(.int (-2 : Int32))]))
    exact own_retN X0 hx hlk hG (t := .byte) Bd.returns (by simp) (hb hby d1_18) (by decide) (by decide) ⟨(congrArg (fun z => some (Value.int z)) q13t).symm, N0, e0⟩
  · refine own_to (fun _ kz => XS.ifYes X0.here hx rfl (pc0 := 13) (pc' := 19) rfl (hb hby d1_13) rfl ((if0 _ _).trans (feq hc13).2) (by decide) (by decide) kz) ?_
    have q13f := q0.trans (if_neg hc13)
    show own_Fin p e below G (s₁.setTop (mkF m 19 #[.val (.long x0), .second, .val (.long x1), .second, .val (.int p2), .val (.int ((((x1.toUInt64 >>> (((2 : Int32) * p2) &&& 0x3f).toInt64.toUInt64).toInt64).toInt32) &&& (3 : Int32)))] []))
    refine own_to (fun _ kz => XS.iload X0.here hx rfl (hb hby d1_19) rfl  kz) ?_
    show own_Fin p e below G (s₁.setTop (mkF m 21 #[.val (.long x0), .second, .val (.long x1), .second, .val (.int p2), .val (.int ((((x1.toUInt64 >>> (((2 : Int32) * p2) &&& 0x3f).toInt64.toUInt64).toInt64).toInt32) &&& (3 : Int32)))] [(.int ((((x1.toUInt64 >>> (((2 : Int32) * p2) &&& 0x3f).toInt64.toUInt64).toInt64).toInt32) &&& (3 : Int32)))]))
    refine own_to (fun _ kz => XS.iconst X0.here hx rfl (hb hby d1_21) kz) ?_
    show own_Fin p e below G (s₁.setTop (mkF m 22 #[.val (.long x0), .second, .val (.long x1), .second, .val (.int p2), .val (.int ((((x1.toUInt64 >>> (((2 : Int32) * p2) &&& 0x3f).toInt64.toUInt64).toInt64).toInt32) &&& (3 : Int32)))] [(.int (1 : Int32)), (.int ((((x1.toUInt64 >>> (((2 : Int32) * p2) &&& 0x3f).toInt64.toUInt64).toInt64).toInt32) &&& (3 : Int32)))]))
    by_cases hc22 : ((((x1.toUInt64 >>> (((2 : Int32) * p2) &&& 0x3f).toInt64.toUInt64).toInt64).toInt32) &&& (3 : Int32)) = (1 : Int32)
    · refine own_to (fun _ kz => XS.icmpNo X0.here hx rfl (hb hby d1_22) rfl (teq hc22).2 kz) ?_
      have q22t := q13f.trans (if_pos hc22)
      show own_Fin p e below G (s₁.setTop (mkF m 25 #[.val (.long x0), .second, .val (.long x1), .second, .val (.int p2), .val (.int ((((x1.toUInt64 >>> (((2 : Int32) * p2) &&& 0x3f).toInt64.toUInt64).toInt64).toInt32) &&& (3 : Int32)))] []))
      refine own_to (fun _ kz => XS.bipush X0.here hx rfl (hb hby d1_25) kz) ?_
      show own_Fin p e below G (s₁.setTop (mkF m 27 #[.val (.long x0), .second, .val (.long x1), .second, .val (.int p2), .val (.int ((((x1.toUInt64 >>> (((2 : Int32) * p2) &&& 0x3f).toInt64.toUInt64).toInt64).toInt32) &&& (3 : Int32)))] [(.int (-3 : Int32))]))
      exact own_retN X0 hx hlk hG (t := .byte) Bd.returns (by simp) (hb hby d1_27) (by decide) (by decide) ⟨(congrArg (fun z => some (Value.int z)) q22t).symm, N0, e0⟩
    · refine own_to (fun _ kz => XS.icmpYes X0.here hx rfl (pc0 := 22) (pc' := 28) rfl (hb hby d1_22) rfl (feq hc22).2 (by decide) (by decide) kz) ?_
      have q22f := q13f.trans (if_neg hc22)
      show own_Fin p e below G (s₁.setTop (mkF m 28 #[.val (.long x0), .second, .val (.long x1), .second, .val (.int p2), .val (.int ((((x1.toUInt64 >>> (((2 : Int32) * p2) &&& 0x3f).toInt64.toUInt64).toInt64).toInt32) &&& (3 : Int32)))] []))
      refine own_to (fun _ kz => XS.lloadN X0.here hx rfl (hb hby d1_28) rfl  kz) ?_
      show own_Fin p e below G (s₁.setTop (mkF m 29 #[.val (.long x0), .second, .val (.long x1), .second, .val (.int p2), .val (.int ((((x1.toUInt64 >>> (((2 : Int32) * p2) &&& 0x3f).toInt64.toUInt64).toInt64).toInt32) &&& (3 : Int32)))] [(.long x0)]))
      refine own_to (fun _ kz => XS.bipush X0.here hx rfl (hb hby d1_29) kz) ?_
      show own_Fin p e below G (s₁.setTop (mkF m 31 #[.val (.long x0), .second, .val (.long x1), .second, .val (.int p2), .val (.int ((((x1.toUInt64 >>> (((2 : Int32) * p2) &&& 0x3f).toInt64.toUInt64).toInt64).toInt32) &&& (3 : Int32)))] [(.int (8 : Int32)), (.long x0)]))
      refine own_to (fun _ kz => XS.iload X0.here hx rfl (hb hby d1_31) rfl  kz) ?_
      show own_Fin p e below G (s₁.setTop (mkF m 33 #[.val (.long x0), .second, .val (.long x1), .second, .val (.int p2), .val (.int ((((x1.toUInt64 >>> (((2 : Int32) * p2) &&& 0x3f).toInt64.toUInt64).toInt64).toInt32) &&& (3 : Int32)))] [(.int p2), (.int (8 : Int32)), (.long x0)]))
      refine own_to (fun _ kz => XS.imul X0.here hx rfl (hb hby d1_33) rfl kz) ?_
      show own_Fin p e below G (s₁.setTop (mkF m 34 #[.val (.long x0), .second, .val (.long x1), .second, .val (.int p2), .val (.int ((((x1.toUInt64 >>> (((2 : Int32) * p2) &&& 0x3f).toInt64.toUInt64).toInt64).toInt32) &&& (3 : Int32)))] [(.int ((8 : Int32) * p2)), (.long x0)]))
      refine own_to (fun _ kz => XS.lushr X0.here hx rfl (hb hby d1_34) rfl kz) ?_
      show own_Fin p e below G (s₁.setTop (mkF m 35 #[.val (.long x0), .second, .val (.long x1), .second, .val (.int p2), .val (.int ((((x1.toUInt64 >>> (((2 : Int32) * p2) &&& 0x3f).toInt64.toUInt64).toInt64).toInt32) &&& (3 : Int32)))] [(.long ((x0.toUInt64 >>> (((8 : Int32) * p2) &&& 0x3f).toInt64.toUInt64).toInt64))]))
      refine own_to (fun _ kz => XS.l2i X0.here hx rfl (hb hby d1_35) rfl kz) ?_
      show own_Fin p e below G (s₁.setTop (mkF m 36 #[.val (.long x0), .second, .val (.long x1), .second, .val (.int p2), .val (.int ((((x1.toUInt64 >>> (((2 : Int32) * p2) &&& 0x3f).toInt64.toUInt64).toInt64).toInt32) &&& (3 : Int32)))] [(.int (((x0.toUInt64 >>> (((8 : Int32) * p2) &&& 0x3f).toInt64.toUInt64).toInt64).toInt32))]))
      refine own_to (fun _ kz => XS.i2b X0.here hx rfl (hb hby d1_36) rfl kz) ?_
      show own_Fin p e below G (s₁.setTop (mkF m 37 #[.val (.long x0), .second, .val (.long x1), .second, .val (.int p2), .val (.int ((((x1.toUInt64 >>> (((2 : Int32) * p2) &&& 0x3f).toInt64.toUInt64).toInt64).toInt32) &&& (3 : Int32)))] [(.int ((((x0.toUInt64 >>> (((8 : Int32) * p2) &&& 0x3f).toInt64.toUInt64).toInt64).toInt32).toInt8.toInt32))]))
      exact own_retN X0 hx hlk hG (t := .byte) Bd.returns (by simp) (hb hby d1_37) (by decide) (by decide) ⟨(congrArg (fun z => some (Value.int z)) q22f).symm, N0, e0⟩
theorem d2_0 : decode method_3_code 0 = .ok (.iload_n 1, 1) := by decide +kernel
theorem d2_1 : decode method_3_code 1 = .ok (.iload_n 2, 1) := by decide +kernel
theorem d2_2 : decode method_3_code 2 = .ok (.if_icmp .lt 32, 3) := by decide +kernel
theorem d2_5 : decode method_3_code 5 = .ok (.iload_n 1, 1) := by decide +kernel
theorem d2_6 : decode method_3_code 6 = .ok (.iconst 2, 1) := by decide +kernel
theorem d2_7 : decode method_3_code 7 = .ok (.iadd, 1) := by decide +kernel
theorem d2_8 : decode method_3_code 8 = .ok (.iload_n 3, 1) := by decide +kernel
theorem d2_9 : decode method_3_code 9 = .ok (.if_icmp .gt 25, 3) := by decide +kernel
theorem d2_12 : decode method_3_code 12 = .ok (.aload_n 0, 1) := by decide +kernel
theorem d2_13 : decode method_3_code 13 = .ok (.iload_n 1, 1) := by decide +kernel
theorem d2_14 : decode method_3_code 14 = .ok (.baload, 1) := by decide +kernel
theorem d2_15 : decode method_3_code 15 = .ok (.bipush (-2), 2) := by decide +kernel
theorem d2_17 : decode method_3_code 17 = .ok (.if_icmp .ne 17, 3) := by decide +kernel
theorem d2_20 : decode method_3_code 20 = .ok (.aload_n 0, 1) := by decide +kernel
theorem d2_21 : decode method_3_code 21 = .ok (.iload_n 1, 1) := by decide +kernel
theorem d2_22 : decode method_3_code 22 = .ok (.iconst 1, 1) := by decide +kernel
theorem d2_23 : decode method_3_code 23 = .ok (.iadd, 1) := by decide +kernel
theorem d2_24 : decode method_3_code 24 = .ok (.baload, 1) := by decide +kernel
theorem d2_25 : decode method_3_code 25 = .ok (.bipush (-3), 2) := by decide +kernel
theorem d2_27 : decode method_3_code 27 = .ok (.if_icmp .ne 7, 3) := by decide +kernel
theorem d2_30 : decode method_3_code 30 = .ok (.iconst 1, 1) := by decide +kernel
theorem d2_31 : decode method_3_code 31 = .ok (.goto 4, 3) := by decide +kernel
theorem d2_34 : decode method_3_code 34 = .ok (.iconst 0, 1) := by decide +kernel
theorem d2_35 : decode method_3_code 35 = .ok (.ireturn, 1) := by decide +kernel
theorem ef2 (m : MethodId) (ad0 : Addr) (p1 : Int32) (p2 : Int32) (p3 : Int32) : entryFrame m #[(.ref ad0), (.int p1), (.int p2), (.int p3)] 4 = mkF m 0 #[.val (.ref ad0), .val (.int p1), .val (.int p2), .val (.int p3)] [] := by first | (simp [entryFrame, mkF, argsToLocals, Value.category]; done) | rfl
def f2_34 (p1 : Int32) (p2 : Int32) (p3 : Int32) (xs : Nat → Int32) : Int32 := (0 : Int32)
def f2 (p1 : Int32) (p2 : Int32) (p3 : Int32) (xs : Nat → Int32) : Int32 := if p1 < p2 then (f2_34 p1 p2 p3 xs) else if p3 < (p1 + (2 : Int32)) then (f2_34 p1 p2 p3 xs) else if (xs p1.toNatClampNeg) = (-2 : Int32) then (if (xs (p1 + (1 : Int32)).toNatClampNeg) = (-3 : Int32) then (1 : Int32) else (f2_34 p1 p2 p3 xs)) else (f2_34 p1 p2 p3 xs)
def Q2 (Z : State) (ad0 : Addr) (p1 : Int32) (p2 : Int32) (p3 : Int32) (xs : Nat → Int32) (h0 : Heap) (n0 : Nat) (v : Option Value) (h : Heap) (L : List Loc) : Prop := v = some (.int (f2 p1 p2 p3 xs)) ∧ Fr n0 L ∧ h = h0
set_option maxRecDepth 65536 in
set_option maxHeartbeats 40000000 in
theorem rm2 (l : Launch) (Z : State) (a0 : Array Value) (hw : ∀ d ∈ tables_1, d.before a0 Z = true) (ws : List Jvm.Cond) (ad0 : Addr) (p1 : Int32) (p2 : Int32) (p3 : Int32) (xs : Nat → Int32) (h0 : Heap) (n0 : Nat) (Z0 : n0 ≤ h0.size) (V_ad0 : own_AV Value.int Z h0 ad0 .byte 8 xs) (hn0 : ¬ p1 < 0) (hl0 : p1.toNatClampNeg < 8) (hn1 : ¬ p1 + (1 : Int32) < 0) (hl1 : (p1 + (1 : Int32)).toNatClampNeg < 8) :
    MetFree l (⟨"com/example/resync/resync/codec/DelimiterIndexOfByPairsPinLaw", "at", "([BIII)Z"⟩ : MethodName) (head1 (Jvm.Cond.code (⟨"com/example/resync/resync/codec/DelimiterIndexOfByPairsPinLaw", "at", "([BIII)Z"⟩ : MethodName) method_3_code 4 (some .boolean) :: ws) ({ frames := 0, cells := 0, slots := 0, locals := 0 } : Room)) (fun a U => a = #[(.ref ad0), (.int p1), (.int p2), (.int p3)] ∧ Z.Warmed39 U.vm ∧ U.heap = h0) (fun _ _ _ _ _ => True) (fun _ U o U' => ∃ v L, o = .returned v ∧ Q2 Z ad0 p1 p2 p3 xs h0 n0 v U'.heap L ∧ FrameEnd U o U' L ({ frames := 0, cells := 0, slots := 0, locals := 0 } : Room).cells ({ frames := 0, cells := 0, slots := 0, locals := 0 } : Room).slots) := by
  refine MetFree.of_bodySF (plainFor_of_name own_pn0) hisR ?_
  intro p e s m args below meth c s₁ Bd hml0 hP hK
  obtain ⟨rfl, hZ, hh⟩ := hP
  have hx := Bd.exec
  have hby := Bd.bytes
  have hml : c.maxLocals = 4 := hml0
  have hown : s.vm.findClass "com/example/resync/resync/codec/DelimiterIndexOfByPairsPinLaw" = some m.cls := findClass_of_methodNamed Bd.named
  have hnm := (name_of_methodNamed Bd.named Bd.method).1
  have hlk : meth.locks = false := BodyLoose.notSynchronized Bd
  have X0 : Stand p l e ({ frames := 0, cells := 0, slots := 0, locals := 0 } : Room) s m #[(.ref ad0), (.int p1), (.int p2), (.int p3)] below meth c s₁ [] 0 0 := Stand.of_body Bd
  have e0 : s₁.heap = h0 := by rw [← hh, Bd.state]; rfl
  have N0 := Fr.nil n0
  obtain ⟨G, hG⟩ : ∃ G, G = own_G s (Q2 Z ad0 p1 p2 p3 xs h0 n0) ({ frames := 0, cells := 0, slots := 0, locals := 0 } : Room).cells ({ frames := 0, cells := 0, slots := 0, locals := 0 } : Room).slots := ⟨_, rfl⟩
  show own_Fin p e below (own_G s (Q2 Z ad0 p1 p2 p3 xs h0 n0) ({ frames := 0, cells := 0, slots := 0, locals := 0 } : Room).cells ({ frames := 0, cells := 0, slots := 0, locals := 0 } : Room).slots) (s₁.setTop (entryFrame m #[(.ref ad0), (.int p1), (.int p2), (.int p3)] 4))
  rw [← hG]
  refine own_to (fun _ kz => castTop (ef2 m ad0 p1 p2 p3) kz) ?_
  have q0 : (f2 p1 p2 p3 xs) = (f2 p1 p2 p3 xs) := rfl
  show own_Fin p e below G (s₁.setTop (mkF m 0 #[.val (.ref ad0), .val (.int p1), .val (.int p2), .val (.int p3)] []))
  refine own_to (fun _ kz => XS.iloadN X0.here hx rfl (hb hby d2_0) rfl  kz) ?_
  show own_Fin p e below G (s₁.setTop (mkF m 1 #[.val (.ref ad0), .val (.int p1), .val (.int p2), .val (.int p3)] [(.int p1)]))
  refine own_to (fun _ kz => XS.iloadN X0.here hx rfl (hb hby d2_1) rfl  kz) ?_
  show own_Fin p e below G (s₁.setTop (mkF m 2 #[.val (.ref ad0), .val (.int p1), .val (.int p2), .val (.int p3)] [(.int p2), (.int p1)]))
  have K34 : ∀ (q_j34 : (f2 p1 p2 p3 xs) = (f2_34 p1 p2 p3 xs)), own_Fin p e below G (s₁.setTop (mkF m 34 #[.val (.ref ad0), .val (.int p1), .val (.int p2), .val (.int p3)] [])) := by
    intro q_j34
    refine own_to (fun _ kz => XS.iconst X0.here hx rfl (hb hby d2_34) kz) ?_
    show own_Fin p e below G (s₁.setTop (mkF m 35 #[.val (.ref ad0), .val (.int p1), .val (.int p2), .val (.int p3)] [(.int (0 : Int32))]))
    exact own_retN X0 hx hlk hG (t := .boolean) Bd.returns (by simp) (hb hby d2_35) (by decide) (by decide) ⟨(congrArg (fun z => some (Value.int z)) q_j34).symm, N0, e0⟩
  by_cases hc2 : p1 < p2
  · refine own_to (fun _ kz => XS.icmpYes X0.here hx rfl (pc0 := 2) (pc' := 34) rfl (hb hby d2_2) rfl (tlt hc2).1 (by decide) (by decide) kz) ?_
    have q2t := q0.trans (if_pos hc2)
    show own_Fin p e below G (s₁.setTop (mkF m 34 #[.val (.ref ad0), .val (.int p1), .val (.int p2), .val (.int p3)] []))
    exact K34 q2t
  · refine own_to (fun _ kz => XS.icmpNo X0.here hx rfl (hb hby d2_2) rfl (flt hc2).1 kz) ?_
    have q2f := q0.trans (if_neg hc2)
    show own_Fin p e below G (s₁.setTop (mkF m 5 #[.val (.ref ad0), .val (.int p1), .val (.int p2), .val (.int p3)] []))
    refine own_to (fun _ kz => XS.iloadN X0.here hx rfl (hb hby d2_5) rfl  kz) ?_
    show own_Fin p e below G (s₁.setTop (mkF m 6 #[.val (.ref ad0), .val (.int p1), .val (.int p2), .val (.int p3)] [(.int p1)]))
    refine own_to (fun _ kz => XS.iconst X0.here hx rfl (hb hby d2_6) kz) ?_
    show own_Fin p e below G (s₁.setTop (mkF m 7 #[.val (.ref ad0), .val (.int p1), .val (.int p2), .val (.int p3)] [(.int (2 : Int32)), (.int p1)]))
    refine own_to (fun _ kz => XS.iadd X0.here hx rfl (hb hby d2_7) rfl kz) ?_
    show own_Fin p e below G (s₁.setTop (mkF m 8 #[.val (.ref ad0), .val (.int p1), .val (.int p2), .val (.int p3)] [(.int (p1 + (2 : Int32)))]))
    refine own_to (fun _ kz => XS.iloadN X0.here hx rfl (hb hby d2_8) rfl  kz) ?_
    show own_Fin p e below G (s₁.setTop (mkF m 9 #[.val (.ref ad0), .val (.int p1), .val (.int p2), .val (.int p3)] [(.int p3), (.int (p1 + (2 : Int32)))]))
    by_cases hc9 : p3 < (p1 + (2 : Int32))
    · refine own_to (fun _ kz => XS.icmpYes X0.here hx rfl (pc0 := 9) (pc' := 34) rfl (hb hby d2_9) rfl (tlt hc9).2.2.1 (by decide) (by decide) kz) ?_
      have q9t := q2f.trans (if_pos hc9)
      show own_Fin p e below G (s₁.setTop (mkF m 34 #[.val (.ref ad0), .val (.int p1), .val (.int p2), .val (.int p3)] []))
      exact K34 q9t
    · refine own_to (fun _ kz => XS.icmpNo X0.here hx rfl (hb hby d2_9) rfl (flt hc9).2.2.1 kz) ?_
      have q9f := q2f.trans (if_neg hc9)
      show own_Fin p e below G (s₁.setTop (mkF m 12 #[.val (.ref ad0), .val (.int p1), .val (.int p2), .val (.int p3)] []))
      refine own_to (fun _ kz => XS.aloadN X0.here hx rfl (hb hby d2_12) rfl (rfl)  kz) ?_
      show own_Fin p e below G (s₁.setTop (mkF m 13 #[.val (.ref ad0), .val (.int p1), .val (.int p2), .val (.int p3)] [(.ref ad0)]))
      refine own_to (fun _ kz => XS.iloadN X0.here hx rfl (hb hby d2_13) rfl  kz) ?_
      show own_Fin p e below G (s₁.setTop (mkF m 14 #[.val (.ref ad0), .val (.int p1), .val (.int p2), .val (.int p3)] [(.int p1), (.ref ad0)]))
      refine own_to (fun _ kz => own_baload X0 hx hZ e0 V_ad0 (j := p1) hn0 rfl hl0 (g := (mkF m 14 #[.val (.ref ad0), .val (.int p1), .val (.int p2), .val (.int p3)] [(.int p1), (.ref ad0)])) rfl rfl (hb hby d2_14) kz) ?_
      show own_Fin p e below G (s₁.setTop (mkF m 15 #[.val (.ref ad0), .val (.int p1), .val (.int p2), .val (.int p3)] [(.int (xs p1.toNatClampNeg))]))
      refine own_to (fun _ kz => XS.bipush X0.here hx rfl (hb hby d2_15) kz) ?_
      show own_Fin p e below G (s₁.setTop (mkF m 17 #[.val (.ref ad0), .val (.int p1), .val (.int p2), .val (.int p3)] [(.int (-2 : Int32)), (.int (xs p1.toNatClampNeg))]))
      by_cases hc17 : (xs p1.toNatClampNeg) = (-2 : Int32)
      · refine own_to (fun _ kz => XS.icmpNo X0.here hx rfl (hb hby d2_17) rfl (teq hc17).2 kz) ?_
        have q17t := q9f.trans (if_pos hc17)
        show own_Fin p e below G (s₁.setTop (mkF m 20 #[.val (.ref ad0), .val (.int p1), .val (.int p2), .val (.int p3)] []))
        refine own_to (fun _ kz => XS.aloadN X0.here hx rfl (hb hby d2_20) rfl (rfl)  kz) ?_
        show own_Fin p e below G (s₁.setTop (mkF m 21 #[.val (.ref ad0), .val (.int p1), .val (.int p2), .val (.int p3)] [(.ref ad0)]))
        refine own_to (fun _ kz => XS.iloadN X0.here hx rfl (hb hby d2_21) rfl  kz) ?_
        show own_Fin p e below G (s₁.setTop (mkF m 22 #[.val (.ref ad0), .val (.int p1), .val (.int p2), .val (.int p3)] [(.int p1), (.ref ad0)]))
        refine own_to (fun _ kz => XS.iconst X0.here hx rfl (hb hby d2_22) kz) ?_
        show own_Fin p e below G (s₁.setTop (mkF m 23 #[.val (.ref ad0), .val (.int p1), .val (.int p2), .val (.int p3)] [(.int (1 : Int32)), (.int p1), (.ref ad0)]))
        refine own_to (fun _ kz => XS.iadd X0.here hx rfl (hb hby d2_23) rfl kz) ?_
        show own_Fin p e below G (s₁.setTop (mkF m 24 #[.val (.ref ad0), .val (.int p1), .val (.int p2), .val (.int p3)] [(.int (p1 + (1 : Int32))), (.ref ad0)]))
        refine own_to (fun _ kz => own_baload X0 hx hZ e0 V_ad0 (j := (p1 + (1 : Int32))) hn1 rfl hl1 (g := (mkF m 24 #[.val (.ref ad0), .val (.int p1), .val (.int p2), .val (.int p3)] [(.int (p1 + (1 : Int32))), (.ref ad0)])) rfl rfl (hb hby d2_24) kz) ?_
        show own_Fin p e below G (s₁.setTop (mkF m 25 #[.val (.ref ad0), .val (.int p1), .val (.int p2), .val (.int p3)] [(.int (xs (p1 + (1 : Int32)).toNatClampNeg))]))
        refine own_to (fun _ kz => XS.bipush X0.here hx rfl (hb hby d2_25) kz) ?_
        show own_Fin p e below G (s₁.setTop (mkF m 27 #[.val (.ref ad0), .val (.int p1), .val (.int p2), .val (.int p3)] [(.int (-3 : Int32)), (.int (xs (p1 + (1 : Int32)).toNatClampNeg))]))
        by_cases hc27 : (xs (p1 + (1 : Int32)).toNatClampNeg) = (-3 : Int32)
        · refine own_to (fun _ kz => XS.icmpNo X0.here hx rfl (hb hby d2_27) rfl (teq hc27).2 kz) ?_
          have q27t := q17t.trans (if_pos hc27)
          show own_Fin p e below G (s₁.setTop (mkF m 30 #[.val (.ref ad0), .val (.int p1), .val (.int p2), .val (.int p3)] []))
          refine own_to (fun _ kz => XS.iconst X0.here hx rfl (hb hby d2_30) kz) ?_
          show own_Fin p e below G (s₁.setTop (mkF m 31 #[.val (.ref ad0), .val (.int p1), .val (.int p2), .val (.int p3)] [(.int (1 : Int32))]))
          refine own_to (fun _ kz => XS.goto X0.here hx rfl (pc0 := 31) (pc' := 35) rfl (hb hby d2_31) (by decide) (by decide) kz) ?_
          show own_Fin p e below G (s₁.setTop (mkF m 35 #[.val (.ref ad0), .val (.int p1), .val (.int p2), .val (.int p3)] [(.int (1 : Int32))]))
          exact own_retN X0 hx hlk hG (t := .boolean) Bd.returns (by simp) (hb hby d2_35) (by decide) (by decide) ⟨(congrArg (fun z => some (Value.int z)) q27t).symm, N0, e0⟩
        · refine own_to (fun _ kz => XS.icmpYes X0.here hx rfl (pc0 := 27) (pc' := 34) rfl (hb hby d2_27) rfl (feq hc27).2 (by decide) (by decide) kz) ?_
          have q27f := q17t.trans (if_neg hc27)
          show own_Fin p e below G (s₁.setTop (mkF m 34 #[.val (.ref ad0), .val (.int p1), .val (.int p2), .val (.int p3)] []))
          exact K34 q27f
      · refine own_to (fun _ kz => XS.icmpYes X0.here hx rfl (pc0 := 17) (pc' := 34) rfl (hb hby d2_17) rfl (feq hc17).2 (by decide) (by decide) kz) ?_
        have q17f := q9f.trans (if_neg hc17)
        show own_Fin p e below G (s₁.setTop (mkF m 34 #[.val (.ref ad0), .val (.int p1), .val (.int p2), .val (.int p3)] []))
        exact K34 q17f
def own_M (xs : Nat → Int32) (k : Nat) : Prop := xs k = (-2 : Int32) ∧ xs (k + 1) = (-3 : Int32)
def own_no (xs : Nat → Int32) (fr to u : Int) : Prop := ∀ k : Nat, fr ≤ k → (k : Int) < u → (k : Int) + 2 ≤ to → ¬ own_M xs k
def own_idx (xs : Nat → Int32) (fr to : Int) (r : Int32) : Prop := (r = -1 ∧ own_no xs fr to to) ∨ (0 ≤ r.toInt ∧ fr ≤ r.toInt ∧ r.toInt + 2 ≤ to ∧ own_M xs r.toNatClampNeg ∧ own_no xs fr to r.toInt)
theorem own_uni {xs : Nat → Int32} {fr to : Int} {r r' : Int32} (h : own_idx xs fr to r) (h' : own_idx xs fr to r') : r = r' := by
  rcases h with ⟨rfl, h⟩ | ⟨a, b, c, d, e⟩
  · rcases h' with ⟨rfl, -⟩ | ⟨a', b', c', d', e'⟩
    · rfl
    · exact absurd d' (h _ (by rw [own_natc a']; exact b') (by rw [own_natc a']; omega) (by rw [own_natc a']; exact c'))
  · rcases h' with ⟨rfl, h'⟩ | ⟨a', b', c', d', e'⟩
    · exact absurd d (h' _ (by rw [own_natc a]; exact b) (by rw [own_natc a]; omega) (by rw [own_natc a]; exact c))
    · apply Int32.toInt_inj.mp
      rcases Int.lt_trichotomy r.toInt r'.toInt with q | q | q
      · exact absurd d (e' _ (by rw [own_natc a]; exact b) (by rw [own_natc a]; omega) (by rw [own_natc a]; exact c))
      · exact q
      · exact absurd d' (e _ (by rw [own_natc a']; exact b') (by rw [own_natc a']; omega) (by rw [own_natc a']; exact c'))
theorem own_step {xs : Nat → Int32} {fr to u : Int} (h : own_no xs fr to u) (g : ∀ k : Nat, (k : Int) = u → (k : Int) + 2 ≤ to → ¬ own_M xs k) : own_no xs fr to (u + 1) := fun k h1 h2 h3 => by
  by_cases q : (k : Int) = u
  · exact g k q h3
  · exact h k h1 (by omega) h3
section
variable {xs : Nat → Int32} {p1 p2 i : Int32} (hf : 0 ≤ p1.toInt) (ht : p2.toInt ≤ 8) (hi : p1.toInt + 1 ≤ i.toInt ∧ i.toInt ≤ 9)
theorem own_i0 (hf : 0 ≤ p1.toInt) (ht : p2.toInt ≤ 8) (hi : p1.toInt + 1 ≤ i.toInt ∧ i.toInt ≤ 9) (hc : i < p2) : 1 ≤ i.toInt ∧ i.toInt < 8 ∧ ¬ i < 0 ∧ i.toNatClampNeg < 8 := by
  rw [Int32.lt_iff_toInt_lt] at hc
  have a := own_natc (i := i) (by omega)
  exact ⟨by omega, by omega, own_nneg (by omega), by omega⟩
theorem own_im (hf : 0 ≤ p1.toInt) (ht : p2.toInt ≤ 8) (hi : p1.toInt + 1 ≤ i.toInt ∧ i.toInt ≤ 9) (hc : i < p2) : (i - (1 : Int32)).toInt = i.toInt - 1 ∧ ¬ (i - (1 : Int32)) < 0 ∧ (i - (1 : Int32)).toNatClampNeg < 8 ∧ (i - (1 : Int32)).toNatClampNeg + 1 = i.toNatClampNeg := by
  have h := own_i0 hf ht hi hc
  have e := c_isub i 1; have r := rng32 (i - 1); have o : (1 : Int32).toInt = 1 := by decide
  have q : (i - (1 : Int32)).toInt = i.toInt - 1 := by omega
  have a := own_natc (i := i) (by omega); have b := own_natc (i := i - 1) (by omega)
  exact ⟨q, own_nneg (by omega), by omega, by omega⟩
theorem own_ip (hf : 0 ≤ p1.toInt) (ht : p2.toInt ≤ 8) (hi : p1.toInt + 1 ≤ i.toInt ∧ i.toInt ≤ 9) (hc : i < p2) : (i + (1 : Int32)).toInt = i.toInt + 1 ∧ (i + (2 : Int32)).toInt = i.toInt + 2 ∧ (i + (1 : Int32)).toNatClampNeg = i.toNatClampNeg + 1 := by
  have h := own_i0 hf ht hi hc
  have e := c_iadd i 1; have r := rng32 (i + 1); have o : (1 : Int32).toInt = 1 := by decide
  have e2 := c_iadd i 2; have r2 := rng32 (i + 2); have o2 : (2 : Int32).toInt = 2 := by decide
  have q : (i + (1 : Int32)).toInt = i.toInt + 1 := by omega
  have a := own_natc (i := i) (by omega); have b := own_natc (i := i + 1) (by omega)
  exact ⟨q, by omega, by omega⟩
theorem own_ip8 (hf : 0 ≤ p1.toInt) (ht : p2.toInt ≤ 8) (hi : p1.toInt + 1 ≤ i.toInt ∧ i.toInt ≤ 9) (hc : i < p2) (h2 : (i + (1 : Int32)) < p2) : ¬ (i + (1 : Int32)) < 0 ∧ (i + (1 : Int32)).toNatClampNeg < 8 := by
  have h := own_i0 hf ht hi hc; have g := own_ip hf ht hi hc
  rw [Int32.lt_iff_toInt_lt] at h2
  have a := own_natc (i := i) (by omega)
  exact ⟨own_nneg (by omega), by omega⟩
theorem own_b1 (hf : 0 ≤ p1.toInt) (ht : p2.toInt ≤ 8) (hi : p1.toInt + 1 ≤ i.toInt ∧ i.toInt ≤ 9) (hc : i < p2) (hno : own_no xs p1.toInt p2.toInt (i.toInt - 1)) (h : ¬ xs i.toNatClampNeg = (-3 : Int32)) : own_no xs p1.toInt p2.toInt i.toInt := by
  have q := own_step hno fun k hk _ hM => h (by
    have a := own_natc (i := i) (by have := own_i0 hf ht hi hc; omega)
    have : i.toNatClampNeg = k + 1 := by omega
    rw [this]; exact hM.2)
  rwa [Int.sub_add_cancel] at q
theorem own_b2 (hf : 0 ≤ p1.toInt) (ht : p2.toInt ≤ 8) (hi : p1.toInt + 1 ≤ i.toInt ∧ i.toInt ≤ 9) (hc : i < p2) (hno : own_no xs p1.toInt p2.toInt (i.toInt - 1)) (h : ¬ xs (i - (1 : Int32)).toNatClampNeg = (-2 : Int32)) : own_no xs p1.toInt p2.toInt i.toInt := by
  have q := own_step hno fun k hk _ hM => h (by
    have a := own_natc (i := i) (by have := own_i0 hf ht hi hc; omega)
    have := own_im hf ht hi hc
    have : (i - (1 : Int32)).toNatClampNeg = k := by omega
    rw [this]; exact hM.1)
  rwa [Int.sub_add_cancel] at q
theorem own_c1 (hf : 0 ≤ p1.toInt) (ht : p2.toInt ≤ 8) (hi : p1.toInt + 1 ≤ i.toInt ∧ i.toInt ≤ 9) (hc : i < p2) (hno : own_no xs p1.toInt p2.toInt i.toInt) (h : ¬ xs i.toNatClampNeg = (-2 : Int32)) : own_no xs p1.toInt p2.toInt (i.toInt + 1) :=
  own_step hno fun k hk _ hM => h (by
    have a := own_natc (i := i) (by have := own_i0 hf ht hi hc; omega)
    have : i.toNatClampNeg = k := by omega
    rw [this]; exact hM.1)
theorem own_c2 (hf : 0 ≤ p1.toInt) (ht : p2.toInt ≤ 8) (hi : p1.toInt + 1 ≤ i.toInt ∧ i.toInt ≤ 9) (hc : i < p2) (hno : own_no xs p1.toInt p2.toInt i.toInt) (h : ¬ (i + (1 : Int32)) < p2) : own_no xs p1.toInt p2.toInt (i.toInt + 1) :=
  own_step hno fun k hk h2 hM => by
    have := own_ip hf ht hi hc
    rw [Int32.lt_iff_toInt_lt] at h; omega
theorem own_c3 (hf : 0 ≤ p1.toInt) (ht : p2.toInt ≤ 8) (hi : p1.toInt + 1 ≤ i.toInt ∧ i.toInt ≤ 9) (hc : i < p2) (hno : own_no xs p1.toInt p2.toInt i.toInt) (h : ¬ xs (i + (1 : Int32)).toNatClampNeg = (-3 : Int32)) : own_no xs p1.toInt p2.toInt (i.toInt + 1) :=
  own_step hno fun k hk _ hM => h (by
    have a := own_natc (i := i) (by have := own_i0 hf ht hi hc; omega)
    have := own_ip hf ht hi hc
    have : (i + (1 : Int32)).toNatClampNeg = k + 1 := by omega
    rw [this]; exact hM.2)
theorem own_a1 (hf : 0 ≤ p1.toInt) (ht : p2.toInt ≤ 8) (hi : p1.toInt + 1 ≤ i.toInt ∧ i.toInt ≤ 9) (hc : i < p2) (hno : own_no xs p1.toInt p2.toInt (i.toInt - 1)) (h : ¬ (xs i.toNatClampNeg ||| (3 : Int32)) = (-1 : Int32)) : own_no xs p1.toInt p2.toInt (i.toInt + 1) :=
  own_c1 hf ht hi hc (own_b1 hf ht hi hc hno fun q => h (by rw [q]; decide)) fun q => h (by rw [q]; decide)
theorem own_r1 (hf : 0 ≤ p1.toInt) (ht : p2.toInt ≤ 8) (hi : p1.toInt + 1 ≤ i.toInt ∧ i.toInt ≤ 9) (hc : i < p2) (hno : own_no xs p1.toInt p2.toInt (i.toInt - 1)) (h : xs i.toNatClampNeg = (-3 : Int32)) (h2 : xs (i - (1 : Int32)).toNatClampNeg = (-2 : Int32)) : own_idx xs p1.toInt p2.toInt (i - (1 : Int32)) := by
  have a := own_i0 hf ht hi hc; have b := own_im hf ht hi hc
  rw [Int32.lt_iff_toInt_lt] at hc
  exact Or.inr ⟨by omega, by omega, by omega, ⟨h2, by rw [b.2.2.2]; exact h⟩, by rw [b.1]; exact hno⟩
theorem own_r2 (hf : 0 ≤ p1.toInt) (ht : p2.toInt ≤ 8) (hi : p1.toInt + 1 ≤ i.toInt ∧ i.toInt ≤ 9) (hc : i < p2) (hno : own_no xs p1.toInt p2.toInt i.toInt) (h : xs i.toNatClampNeg = (-2 : Int32)) (h2 : (i + (1 : Int32)) < p2) (h3 : xs (i + (1 : Int32)).toNatClampNeg = (-3 : Int32)) : own_idx xs p1.toInt p2.toInt i := by
  have a := own_i0 hf ht hi hc; have b := own_ip hf ht hi hc
  rw [Int32.lt_iff_toInt_lt] at h2
  exact Or.inr ⟨by omega, by omega, by omega, ⟨h, by rw [← b.2.2]; exact h3⟩, hno⟩
theorem own_r3 (hc : ¬ i < p2) (hno : own_no xs p1.toInt p2.toInt (i.toInt - 1)) : own_idx xs p1.toInt p2.toInt (-1) :=
  Or.inl ⟨rfl, fun k h1 h2 h3 => hno k h1 (by rw [Int32.lt_iff_toInt_lt] at hc; omega) h3⟩
end
theorem own_en {xs : Nat → Int32} {p1 p2 : Int32} (hf : 0 ≤ p1.toInt) (hf8 : p1.toInt ≤ 8) : (p1.toInt + 1 ≤ (p1 + (1 : Int32)).toInt ∧ (p1 + (1 : Int32)).toInt ≤ 9) ∧ own_no xs p1.toInt p2.toInt ((p1 + (1 : Int32)).toInt - 1) := by
  have e := c_iadd p1 1; have r := rng32 (p1 + 1); have o : (1 : Int32).toInt = 1 := by decide
  exact ⟨by omega, fun k h1 h2 _ => by omega⟩
theorem own_bk {p1 p2 i : Int32} (hf : 0 ≤ p1.toInt) (ht : p2.toInt ≤ 8) (hi : p1.toInt + 1 ≤ i.toInt ∧ i.toInt ≤ 9) (hc : i < p2) : p1.toInt + 1 ≤ (i + (2 : Int32)).toInt ∧ (i + (2 : Int32)).toInt ≤ 9 := by
  have a := own_i0 hf ht hi hc; have b := own_ip hf ht hi hc; omega
theorem own_dc {p1 p2 i : Int32} {k : Nat} (hf : 0 ≤ p1.toInt) (ht : p2.toInt ≤ 8) (hi : p1.toInt + 1 ≤ i.toInt ∧ i.toInt ≤ 9) (hc : i < p2) (hm : (10 - i.toInt).toNat = k) : (10 - (i + (2 : Int32)).toInt).toNat < k := by
  have b := own_ip hf ht hi hc; omega
theorem own_pn1 : plainName "com/example/resync/resync/codec/Delimiter" = true := by first | (simp [plainName, overriddenIn]; done) | decide +kernel
theorem d3_0 : decode prog_27_method_3_code 0 = .ok (.iload_n 1, 1) := by decide +kernel
theorem d3_1 : decode prog_27_method_3_code 1 = .ok (.iconst 1, 1) := by decide +kernel
theorem d3_2 : decode prog_27_method_3_code 2 = .ok (.iadd, 1) := by decide +kernel
theorem d3_3 : decode prog_27_method_3_code 3 = .ok (.istore_n 3, 1) := by decide +kernel
theorem d3_4 : decode prog_27_method_3_code 4 = .ok (.iload_n 3, 1) := by decide +kernel
theorem d3_5 : decode prog_27_method_3_code 5 = .ok (.iload_n 2, 1) := by decide +kernel
theorem d3_6 : decode prog_27_method_3_code 6 = .ok (.if_icmp .ge 67, 3) := by decide +kernel
theorem d3_9 : decode prog_27_method_3_code 9 = .ok (.aload_n 0, 1) := by decide +kernel
theorem d3_10 : decode prog_27_method_3_code 10 = .ok (.iload_n 3, 1) := by decide +kernel
theorem d3_11 : decode prog_27_method_3_code 11 = .ok (.baload, 1) := by decide +kernel
theorem d3_12 : decode prog_27_method_3_code 12 = .ok (.iconst 3, 1) := by decide +kernel
theorem d3_13 : decode prog_27_method_3_code 13 = .ok (.ior, 1) := by decide +kernel
theorem d3_14 : decode prog_27_method_3_code 14 = .ok (.iconst (-1), 1) := by decide +kernel
theorem d3_15 : decode prog_27_method_3_code 15 = .ok (.if_icmp .ne 52, 3) := by decide +kernel
theorem d3_18 : decode prog_27_method_3_code 18 = .ok (.aload_n 0, 1) := by decide +kernel
theorem d3_19 : decode prog_27_method_3_code 19 = .ok (.iload_n 3, 1) := by decide +kernel
theorem d3_20 : decode prog_27_method_3_code 20 = .ok (.baload, 1) := by decide +kernel
theorem d3_21 : decode prog_27_method_3_code 21 = .ok (.bipush (-3), 2) := by decide +kernel
theorem d3_23 : decode prog_27_method_3_code 23 = .ok (.if_icmp .ne 17, 3) := by decide +kernel
theorem d3_26 : decode prog_27_method_3_code 26 = .ok (.aload_n 0, 1) := by decide +kernel
theorem d3_27 : decode prog_27_method_3_code 27 = .ok (.iload_n 3, 1) := by decide +kernel
theorem d3_28 : decode prog_27_method_3_code 28 = .ok (.iconst 1, 1) := by decide +kernel
theorem d3_29 : decode prog_27_method_3_code 29 = .ok (.isub, 1) := by decide +kernel
theorem d3_30 : decode prog_27_method_3_code 30 = .ok (.baload, 1) := by decide +kernel
theorem d3_31 : decode prog_27_method_3_code 31 = .ok (.bipush (-2), 2) := by decide +kernel
theorem d3_33 : decode prog_27_method_3_code 33 = .ok (.if_icmp .ne 7, 3) := by decide +kernel
theorem d3_36 : decode prog_27_method_3_code 36 = .ok (.iload_n 3, 1) := by decide +kernel
theorem d3_37 : decode prog_27_method_3_code 37 = .ok (.iconst 1, 1) := by decide +kernel
theorem d3_38 : decode prog_27_method_3_code 38 = .ok (.isub, 1) := by decide +kernel
theorem d3_39 : decode prog_27_method_3_code 39 = .ok (.ireturn, 1) := by decide +kernel
theorem d3_40 : decode prog_27_method_3_code 40 = .ok (.aload_n 0, 1) := by decide +kernel
theorem d3_41 : decode prog_27_method_3_code 41 = .ok (.iload_n 3, 1) := by decide +kernel
theorem d3_42 : decode prog_27_method_3_code 42 = .ok (.baload, 1) := by decide +kernel
theorem d3_43 : decode prog_27_method_3_code 43 = .ok (.bipush (-2), 2) := by decide +kernel
theorem d3_45 : decode prog_27_method_3_code 45 = .ok (.if_icmp .ne 22, 3) := by decide +kernel
theorem d3_48 : decode prog_27_method_3_code 48 = .ok (.iload_n 3, 1) := by decide +kernel
theorem d3_49 : decode prog_27_method_3_code 49 = .ok (.iconst 1, 1) := by decide +kernel
theorem d3_50 : decode prog_27_method_3_code 50 = .ok (.iadd, 1) := by decide +kernel
theorem d3_51 : decode prog_27_method_3_code 51 = .ok (.iload_n 2, 1) := by decide +kernel
theorem d3_52 : decode prog_27_method_3_code 52 = .ok (.if_icmp .ge 15, 3) := by decide +kernel
theorem d3_55 : decode prog_27_method_3_code 55 = .ok (.aload_n 0, 1) := by decide +kernel
theorem d3_56 : decode prog_27_method_3_code 56 = .ok (.iload_n 3, 1) := by decide +kernel
theorem d3_57 : decode prog_27_method_3_code 57 = .ok (.iconst 1, 1) := by decide +kernel
theorem d3_58 : decode prog_27_method_3_code 58 = .ok (.iadd, 1) := by decide +kernel
theorem d3_59 : decode prog_27_method_3_code 59 = .ok (.baload, 1) := by decide +kernel
theorem d3_60 : decode prog_27_method_3_code 60 = .ok (.bipush (-3), 2) := by decide +kernel
theorem d3_62 : decode prog_27_method_3_code 62 = .ok (.if_icmp .ne 5, 3) := by decide +kernel
theorem d3_65 : decode prog_27_method_3_code 65 = .ok (.iload_n 3, 1) := by decide +kernel
theorem d3_66 : decode prog_27_method_3_code 66 = .ok (.ireturn, 1) := by decide +kernel
theorem d3_67 : decode prog_27_method_3_code 67 = .ok (.iinc 3 2, 3) := by decide +kernel
theorem d3_70 : decode prog_27_method_3_code 70 = .ok (.goto (-66), 3) := by decide +kernel
theorem d3_73 : decode prog_27_method_3_code 73 = .ok (.iconst (-1), 1) := by decide +kernel
theorem d3_74 : decode prog_27_method_3_code 74 = .ok (.ireturn, 1) := by decide +kernel
theorem ef3 (m : MethodId) (ad0 : Addr) (p1 : Int32) (p2 : Int32) : entryFrame m #[(.ref ad0), (.int p1), (.int p2)] 4 = mkF m 0 #[.val (.ref ad0), .val (.int p1), .val (.int p2), .unset] [] := by first | (simp [entryFrame, mkF, argsToLocals, Value.category]; done) | rfl
def Q3 (Z : State) (ad0 : Addr) (p1 : Int32) (p2 : Int32) (xs : Nat → Int32) (h0 : Heap) (n0 : Nat) (v : Option Value) (h : Heap) (L : List Loc) : Prop := (∃ r, v = some (.int r) ∧ own_idx xs p1.toInt p2.toInt r) ∧ Fr n0 L ∧ h = h0
set_option maxRecDepth 65536 in
set_option maxHeartbeats 40000000 in
theorem rm3 (l : Launch) (Z : State) (a0 : Array Value) (hw : ∀ d ∈ tables_1, d.before a0 Z = true) (ws : List Jvm.Cond) (ad0 : Addr) (p1 : Int32) (p2 : Int32) (xs : Nat → Int32) (h0 : Heap) (n0 : Nat) (Z0 : n0 ≤ h0.size) (V_ad0 : own_AV Value.int Z h0 ad0 .byte 8 xs) (hf : 0 ≤ p1.toInt) (hf8 : p1.toInt ≤ 8) (ht : p2.toInt ≤ 8) :
    MetFree l (⟨"com/example/resync/resync/codec/Delimiter", "indexOfByPairs", "([BII)I"⟩ : MethodName) (head1 (Jvm.Cond.code (⟨"com/example/resync/resync/codec/Delimiter", "indexOfByPairs", "([BII)I"⟩ : MethodName) prog_27_method_3_code 4 (some .int) :: ws) ({ frames := 0, cells := 0, slots := 0, locals := 0 } : Room)) (fun a U => a = #[(.ref ad0), (.int p1), (.int p2)] ∧ Z.Warmed39 U.vm ∧ U.heap = h0) (fun _ _ _ _ _ => True) (fun _ U o U' => ∃ v L, o = .returned v ∧ Q3 Z ad0 p1 p2 xs h0 n0 v U'.heap L ∧ FrameEnd U o U' L ({ frames := 0, cells := 0, slots := 0, locals := 0 } : Room).cells ({ frames := 0, cells := 0, slots := 0, locals := 0 } : Room).slots) := by
  refine MetFree.of_bodySF (plainFor_of_name own_pn1) hisR ?_
  intro p e s m args below meth c s₁ Bd hml0 hP hK
  obtain ⟨rfl, hZ, hh⟩ := hP
  have hx := Bd.exec
  have hby := Bd.bytes
  have hml : c.maxLocals = 4 := hml0
  have hown : s.vm.findClass "com/example/resync/resync/codec/Delimiter" = some m.cls := findClass_of_methodNamed Bd.named
  have hnm := (name_of_methodNamed Bd.named Bd.method).1
  have hlk : meth.locks = false := BodyLoose.notSynchronized Bd
  have X0 : Stand p l e ({ frames := 0, cells := 0, slots := 0, locals := 0 } : Room) s m #[(.ref ad0), (.int p1), (.int p2)] below meth c s₁ [] 0 0 := Stand.of_body Bd
  have e0 : s₁.heap = h0 := by rw [← hh, Bd.state]; rfl
  have N0 := Fr.nil n0
  obtain ⟨G, hG⟩ : ∃ G, G = own_G s (Q3 Z ad0 p1 p2 xs h0 n0) ({ frames := 0, cells := 0, slots := 0, locals := 0 } : Room).cells ({ frames := 0, cells := 0, slots := 0, locals := 0 } : Room).slots := ⟨_, rfl⟩
  show own_Fin p e below (own_G s (Q3 Z ad0 p1 p2 xs h0 n0) ({ frames := 0, cells := 0, slots := 0, locals := 0 } : Room).cells ({ frames := 0, cells := 0, slots := 0, locals := 0 } : Room).slots) (s₁.setTop (entryFrame m #[(.ref ad0), (.int p1), (.int p2)] 4))
  rw [← hG]
  refine own_to (fun _ kz => castTop (ef3 m ad0 p1 p2) kz) ?_
  show own_Fin p e below G (s₁.setTop (mkF m 0 #[.val (.ref ad0), .val (.int p1), .val (.int p2), .unset] []))
  refine own_to (fun _ kz => XS.iloadN X0.here hx rfl (hb hby d3_0) rfl  kz) ?_
  show own_Fin p e below G (s₁.setTop (mkF m 1 #[.val (.ref ad0), .val (.int p1), .val (.int p2), .unset] [(.int p1)]))
  refine own_to (fun _ kz => XS.iconst X0.here hx rfl (hb hby d3_1) kz) ?_
  show own_Fin p e below G (s₁.setTop (mkF m 2 #[.val (.ref ad0), .val (.int p1), .val (.int p2), .unset] [(.int (1 : Int32)), (.int p1)]))
  refine own_to (fun _ kz => XS.iadd X0.here hx rfl (hb hby d3_2) rfl kz) ?_
  show own_Fin p e below G (s₁.setTop (mkF m 3 #[.val (.ref ad0), .val (.int p1), .val (.int p2), .unset] [(.int (p1 + (1 : Int32)))]))
  refine own_to (fun _ kz => XS.istoreN X0.here hx rfl (hb hby d3_3) rfl (l' := #[.val (.ref ad0), .val (.int p1), .val (.int p2), .val (.int (p1 + (1 : Int32)))]) rfl kz) ?_
  show own_Fin p e below G (s₁.setTop (mkF m 4 #[.val (.ref ad0), .val (.int p1), .val (.int p2), .val (.int (p1 + (1 : Int32)))] []))
  have K4 : ∀ (k_4 : Nat) (i : Int32) (T_j4 : State) (locs_j4 : List Loc) (N_j4 : Fr n0 locs_j4) (X_j4 : Stand p l e ({ frames := 0, cells := 0, slots := 0, locals := 0 } : Room) s m #[(.ref ad0), (.int p1), (.int p2)] below meth c T_j4 locs_j4 0 0) (e_j4 : T_j4.heap = h0) (hm_4 : (10 - i.toInt).toNat = k_4) (hi : p1.toInt + 1 ≤ i.toInt ∧ i.toInt ≤ 9) (hno : own_no xs p1.toInt p2.toInt (i.toInt - 1)), own_Fin p e below G (T_j4.setTop (mkF m 4 #[.val (.ref ad0), .val (.int p1), .val (.int p2), .val (.int i)] [])) := by
    intro k_4
    induction k_4 using Nat.strongRecOn with
    | _ k_4 ih_4 =>
      intro i T_j4 locs_j4 N_j4 X_j4 e_j4 hm_4 hi hno
      refine own_to (fun _ kz => XS.iloadN X_j4.here hx rfl (hb hby d3_4) rfl  kz) ?_
      show own_Fin p e below G (T_j4.setTop (mkF m 5 #[.val (.ref ad0), .val (.int p1), .val (.int p2), .val (.int i)] [(.int i)]))
      refine own_to (fun _ kz => XS.iloadN X_j4.here hx rfl (hb hby d3_5) rfl  kz) ?_
      show own_Fin p e below G (T_j4.setTop (mkF m 6 #[.val (.ref ad0), .val (.int p1), .val (.int p2), .val (.int i)] [(.int p2), (.int i)]))
      by_cases hc6 : i < p2
      · refine own_to (fun _ kz => XS.icmpNo X_j4.here hx rfl (hb hby d3_6) rfl (tlt hc6).2.1 kz) ?_
        show own_Fin p e below G (T_j4.setTop (mkF m 9 #[.val (.ref ad0), .val (.int p1), .val (.int p2), .val (.int i)] []))
        refine own_to (fun _ kz => XS.aloadN X_j4.here hx rfl (hb hby d3_9) rfl (rfl)  kz) ?_
        show own_Fin p e below G (T_j4.setTop (mkF m 10 #[.val (.ref ad0), .val (.int p1), .val (.int p2), .val (.int i)] [(.ref ad0)]))
        refine own_to (fun _ kz => XS.iloadN X_j4.here hx rfl (hb hby d3_10) rfl  kz) ?_
        show own_Fin p e below G (T_j4.setTop (mkF m 11 #[.val (.ref ad0), .val (.int p1), .val (.int p2), .val (.int i)] [(.int i), (.ref ad0)]))
        refine own_to (fun _ kz => own_baload X_j4 hx hZ e_j4 V_ad0 (j := i) (own_i0 hf ht hi hc6 ).2.2.1 rfl (own_i0 hf ht hi hc6 ).2.2.2 (g := (mkF m 11 #[.val (.ref ad0), .val (.int p1), .val (.int p2), .val (.int i)] [(.int i), (.ref ad0)])) rfl rfl (hb hby d3_11) kz) ?_
        show own_Fin p e below G (T_j4.setTop (mkF m 12 #[.val (.ref ad0), .val (.int p1), .val (.int p2), .val (.int i)] [(.int (xs i.toNatClampNeg))]))
        refine own_to (fun _ kz => XS.iconst X_j4.here hx rfl (hb hby d3_12) kz) ?_
        show own_Fin p e below G (T_j4.setTop (mkF m 13 #[.val (.ref ad0), .val (.int p1), .val (.int p2), .val (.int i)] [(.int (3 : Int32)), (.int (xs i.toNatClampNeg))]))
        refine own_to (fun _ kz => XS.ior X_j4.here hx rfl (hb hby d3_13) rfl kz) ?_
        show own_Fin p e below G (T_j4.setTop (mkF m 14 #[.val (.ref ad0), .val (.int p1), .val (.int p2), .val (.int i)] [(.int ((xs i.toNatClampNeg) ||| (3 : Int32)))]))
        refine own_to (fun _ kz => XS.iconst X_j4.here hx rfl (hb hby d3_14) kz) ?_
        show own_Fin p e below G (T_j4.setTop (mkF m 15 #[.val (.ref ad0), .val (.int p1), .val (.int p2), .val (.int i)] [(.int (-1 : Int32)), (.int ((xs i.toNatClampNeg) ||| (3 : Int32)))]))
        have K67 : ∀ (jh0_67 : own_no xs p1.toInt p2.toInt (i.toInt + 1)), own_Fin p e below G (T_j4.setTop (mkF m 67 #[.val (.ref ad0), .val (.int p1), .val (.int p2), .val (.int i)] [])) := by
          intro jh0_67
          refine own_to (fun _ kz => XS.iinc X_j4.here hx rfl (hb hby d3_67) rfl (l' := #[.val (.ref ad0), .val (.int p1), .val (.int p2), .val (.int (i + (2 : Int32)))]) rfl kz) ?_
          show own_Fin p e below G (T_j4.setTop (mkF m 70 #[.val (.ref ad0), .val (.int p1), .val (.int p2), .val (.int (i + (2 : Int32)))] []))
          refine own_to (fun _ kz => XS.goto X_j4.here hx rfl (pc0 := 70) (pc' := 4) rfl (hb hby d3_70) (by decide) (by decide) kz) ?_
          show own_Fin p e below G (T_j4.setTop (mkF m 4 #[.val (.ref ad0), .val (.int p1), .val (.int p2), .val (.int (i + (2 : Int32)))] []))
          exact ih_4 _ (own_dc hf ht hi hc6 hm_4) (i + (2 : Int32)) _ _ N_j4 X_j4 e_j4 rfl (own_bk hf ht hi hc6) (by rw [(own_ip hf ht hi hc6).2.1]; exact (by rw [show i.toInt + 2 - 1 = i.toInt + 1 from by omega]; exact jh0_67))
        by_cases hc15 : ((xs i.toNatClampNeg) ||| (3 : Int32)) = (-1 : Int32)
        · refine own_to (fun _ kz => XS.icmpNo X_j4.here hx rfl (hb hby d3_15) rfl (teq hc15).2 kz) ?_
          show own_Fin p e below G (T_j4.setTop (mkF m 18 #[.val (.ref ad0), .val (.int p1), .val (.int p2), .val (.int i)] []))
          refine own_to (fun _ kz => XS.aloadN X_j4.here hx rfl (hb hby d3_18) rfl (rfl)  kz) ?_
          show own_Fin p e below G (T_j4.setTop (mkF m 19 #[.val (.ref ad0), .val (.int p1), .val (.int p2), .val (.int i)] [(.ref ad0)]))
          refine own_to (fun _ kz => XS.iloadN X_j4.here hx rfl (hb hby d3_19) rfl  kz) ?_
          show own_Fin p e below G (T_j4.setTop (mkF m 20 #[.val (.ref ad0), .val (.int p1), .val (.int p2), .val (.int i)] [(.int i), (.ref ad0)]))
          refine own_to (fun _ kz => own_baload X_j4 hx hZ e_j4 V_ad0 (j := i) (own_i0 hf ht hi hc6 ).2.2.1 rfl (own_i0 hf ht hi hc6 ).2.2.2 (g := (mkF m 20 #[.val (.ref ad0), .val (.int p1), .val (.int p2), .val (.int i)] [(.int i), (.ref ad0)])) rfl rfl (hb hby d3_20) kz) ?_
          show own_Fin p e below G (T_j4.setTop (mkF m 21 #[.val (.ref ad0), .val (.int p1), .val (.int p2), .val (.int i)] [(.int (xs i.toNatClampNeg))]))
          refine own_to (fun _ kz => XS.bipush X_j4.here hx rfl (hb hby d3_21) kz) ?_
          show own_Fin p e below G (T_j4.setTop (mkF m 23 #[.val (.ref ad0), .val (.int p1), .val (.int p2), .val (.int i)] [(.int (-3 : Int32)), (.int (xs i.toNatClampNeg))]))
          have K40 : ∀ (jh0_40 : own_no xs p1.toInt p2.toInt i.toInt), own_Fin p e below G (T_j4.setTop (mkF m 40 #[.val (.ref ad0), .val (.int p1), .val (.int p2), .val (.int i)] [])) := by
            intro jh0_40
            refine own_to (fun _ kz => XS.aloadN X_j4.here hx rfl (hb hby d3_40) rfl (rfl)  kz) ?_
            show own_Fin p e below G (T_j4.setTop (mkF m 41 #[.val (.ref ad0), .val (.int p1), .val (.int p2), .val (.int i)] [(.ref ad0)]))
            refine own_to (fun _ kz => XS.iloadN X_j4.here hx rfl (hb hby d3_41) rfl  kz) ?_
            show own_Fin p e below G (T_j4.setTop (mkF m 42 #[.val (.ref ad0), .val (.int p1), .val (.int p2), .val (.int i)] [(.int i), (.ref ad0)]))
            refine own_to (fun _ kz => own_baload X_j4 hx hZ e_j4 V_ad0 (j := i) (own_i0 hf ht hi hc6 ).2.2.1 rfl (own_i0 hf ht hi hc6 ).2.2.2 (g := (mkF m 42 #[.val (.ref ad0), .val (.int p1), .val (.int p2), .val (.int i)] [(.int i), (.ref ad0)])) rfl rfl (hb hby d3_42) kz) ?_
            show own_Fin p e below G (T_j4.setTop (mkF m 43 #[.val (.ref ad0), .val (.int p1), .val (.int p2), .val (.int i)] [(.int (xs i.toNatClampNeg))]))
            refine own_to (fun _ kz => XS.bipush X_j4.here hx rfl (hb hby d3_43) kz) ?_
            show own_Fin p e below G (T_j4.setTop (mkF m 45 #[.val (.ref ad0), .val (.int p1), .val (.int p2), .val (.int i)] [(.int (-2 : Int32)), (.int (xs i.toNatClampNeg))]))
            by_cases hc45 : (xs i.toNatClampNeg) = (-2 : Int32)
            · refine own_to (fun _ kz => XS.icmpNo X_j4.here hx rfl (hb hby d3_45) rfl (teq hc45).2 kz) ?_
              show own_Fin p e below G (T_j4.setTop (mkF m 48 #[.val (.ref ad0), .val (.int p1), .val (.int p2), .val (.int i)] []))
              refine own_to (fun _ kz => XS.iloadN X_j4.here hx rfl (hb hby d3_48) rfl  kz) ?_
              show own_Fin p e below G (T_j4.setTop (mkF m 49 #[.val (.ref ad0), .val (.int p1), .val (.int p2), .val (.int i)] [(.int i)]))
              refine own_to (fun _ kz => XS.iconst X_j4.here hx rfl (hb hby d3_49) kz) ?_
              show own_Fin p e below G (T_j4.setTop (mkF m 50 #[.val (.ref ad0), .val (.int p1), .val (.int p2), .val (.int i)] [(.int (1 : Int32)), (.int i)]))
              refine own_to (fun _ kz => XS.iadd X_j4.here hx rfl (hb hby d3_50) rfl kz) ?_
              show own_Fin p e below G (T_j4.setTop (mkF m 51 #[.val (.ref ad0), .val (.int p1), .val (.int p2), .val (.int i)] [(.int (i + (1 : Int32)))]))
              refine own_to (fun _ kz => XS.iloadN X_j4.here hx rfl (hb hby d3_51) rfl  kz) ?_
              show own_Fin p e below G (T_j4.setTop (mkF m 52 #[.val (.ref ad0), .val (.int p1), .val (.int p2), .val (.int i)] [(.int p2), (.int (i + (1 : Int32)))]))
              by_cases hc52 : (i + (1 : Int32)) < p2
              · refine own_to (fun _ kz => XS.icmpNo X_j4.here hx rfl (hb hby d3_52) rfl (tlt hc52).2.1 kz) ?_
                show own_Fin p e below G (T_j4.setTop (mkF m 55 #[.val (.ref ad0), .val (.int p1), .val (.int p2), .val (.int i)] []))
                refine own_to (fun _ kz => XS.aloadN X_j4.here hx rfl (hb hby d3_55) rfl (rfl)  kz) ?_
                show own_Fin p e below G (T_j4.setTop (mkF m 56 #[.val (.ref ad0), .val (.int p1), .val (.int p2), .val (.int i)] [(.ref ad0)]))
                refine own_to (fun _ kz => XS.iloadN X_j4.here hx rfl (hb hby d3_56) rfl  kz) ?_
                show own_Fin p e below G (T_j4.setTop (mkF m 57 #[.val (.ref ad0), .val (.int p1), .val (.int p2), .val (.int i)] [(.int i), (.ref ad0)]))
                refine own_to (fun _ kz => XS.iconst X_j4.here hx rfl (hb hby d3_57) kz) ?_
                show own_Fin p e below G (T_j4.setTop (mkF m 58 #[.val (.ref ad0), .val (.int p1), .val (.int p2), .val (.int i)] [(.int (1 : Int32)), (.int i), (.ref ad0)]))
                refine own_to (fun _ kz => XS.iadd X_j4.here hx rfl (hb hby d3_58) rfl kz) ?_
                show own_Fin p e below G (T_j4.setTop (mkF m 59 #[.val (.ref ad0), .val (.int p1), .val (.int p2), .val (.int i)] [(.int (i + (1 : Int32))), (.ref ad0)]))
                refine own_to (fun _ kz => own_baload X_j4 hx hZ e_j4 V_ad0 (j := (i + (1 : Int32))) (own_ip8 hf ht hi hc6  hc52).1 rfl (own_ip8 hf ht hi hc6  hc52).2 (g := (mkF m 59 #[.val (.ref ad0), .val (.int p1), .val (.int p2), .val (.int i)] [(.int (i + (1 : Int32))), (.ref ad0)])) rfl rfl (hb hby d3_59) kz) ?_
                show own_Fin p e below G (T_j4.setTop (mkF m 60 #[.val (.ref ad0), .val (.int p1), .val (.int p2), .val (.int i)] [(.int (xs (i + (1 : Int32)).toNatClampNeg))]))
                refine own_to (fun _ kz => XS.bipush X_j4.here hx rfl (hb hby d3_60) kz) ?_
                show own_Fin p e below G (T_j4.setTop (mkF m 62 #[.val (.ref ad0), .val (.int p1), .val (.int p2), .val (.int i)] [(.int (-3 : Int32)), (.int (xs (i + (1 : Int32)).toNatClampNeg))]))
                by_cases hc62 : (xs (i + (1 : Int32)).toNatClampNeg) = (-3 : Int32)
                · refine own_to (fun _ kz => XS.icmpNo X_j4.here hx rfl (hb hby d3_62) rfl (teq hc62).2 kz) ?_
                  show own_Fin p e below G (T_j4.setTop (mkF m 65 #[.val (.ref ad0), .val (.int p1), .val (.int p2), .val (.int i)] []))
                  refine own_to (fun _ kz => XS.iloadN X_j4.here hx rfl (hb hby d3_65) rfl  kz) ?_
                  show own_Fin p e below G (T_j4.setTop (mkF m 66 #[.val (.ref ad0), .val (.int p1), .val (.int p2), .val (.int i)] [(.int i)]))
                  exact own_retI X_j4 hx hlk hG Bd.returns (hb hby d3_66) (by decide) (by decide) ⟨⟨_, rfl, own_r2 hf ht hi hc6  jh0_40 hc45 hc52 hc62⟩, N_j4, e_j4⟩
                · refine own_to (fun _ kz => XS.icmpYes X_j4.here hx rfl (pc0 := 62) (pc' := 67) rfl (hb hby d3_62) rfl (feq hc62).2 (by decide) (by decide) kz) ?_
                  show own_Fin p e below G (T_j4.setTop (mkF m 67 #[.val (.ref ad0), .val (.int p1), .val (.int p2), .val (.int i)] []))
                  exact K67 (own_c3 hf ht hi hc6  jh0_40 hc62)
              · refine own_to (fun _ kz => XS.icmpYes X_j4.here hx rfl (pc0 := 52) (pc' := 67) rfl (hb hby d3_52) rfl (flt hc52).2.1 (by decide) (by decide) kz) ?_
                show own_Fin p e below G (T_j4.setTop (mkF m 67 #[.val (.ref ad0), .val (.int p1), .val (.int p2), .val (.int i)] []))
                exact K67 (own_c2 hf ht hi hc6  jh0_40 hc52)
            · refine own_to (fun _ kz => XS.icmpYes X_j4.here hx rfl (pc0 := 45) (pc' := 67) rfl (hb hby d3_45) rfl (feq hc45).2 (by decide) (by decide) kz) ?_
              show own_Fin p e below G (T_j4.setTop (mkF m 67 #[.val (.ref ad0), .val (.int p1), .val (.int p2), .val (.int i)] []))
              exact K67 (own_c1 hf ht hi hc6  jh0_40 hc45)
          by_cases hc23 : (xs i.toNatClampNeg) = (-3 : Int32)
          · refine own_to (fun _ kz => XS.icmpNo X_j4.here hx rfl (hb hby d3_23) rfl (teq hc23).2 kz) ?_
            show own_Fin p e below G (T_j4.setTop (mkF m 26 #[.val (.ref ad0), .val (.int p1), .val (.int p2), .val (.int i)] []))
            refine own_to (fun _ kz => XS.aloadN X_j4.here hx rfl (hb hby d3_26) rfl (rfl)  kz) ?_
            show own_Fin p e below G (T_j4.setTop (mkF m 27 #[.val (.ref ad0), .val (.int p1), .val (.int p2), .val (.int i)] [(.ref ad0)]))
            refine own_to (fun _ kz => XS.iloadN X_j4.here hx rfl (hb hby d3_27) rfl  kz) ?_
            show own_Fin p e below G (T_j4.setTop (mkF m 28 #[.val (.ref ad0), .val (.int p1), .val (.int p2), .val (.int i)] [(.int i), (.ref ad0)]))
            refine own_to (fun _ kz => XS.iconst X_j4.here hx rfl (hb hby d3_28) kz) ?_
            show own_Fin p e below G (T_j4.setTop (mkF m 29 #[.val (.ref ad0), .val (.int p1), .val (.int p2), .val (.int i)] [(.int (1 : Int32)), (.int i), (.ref ad0)]))
            refine own_to (fun _ kz => XS.isub X_j4.here hx rfl (hb hby d3_29) rfl kz) ?_
            show own_Fin p e below G (T_j4.setTop (mkF m 30 #[.val (.ref ad0), .val (.int p1), .val (.int p2), .val (.int i)] [(.int (i - (1 : Int32))), (.ref ad0)]))
            refine own_to (fun _ kz => own_baload X_j4 hx hZ e_j4 V_ad0 (j := (i - (1 : Int32))) (own_im hf ht hi hc6 ).2.1 rfl (own_im hf ht hi hc6 ).2.2.1 (g := (mkF m 30 #[.val (.ref ad0), .val (.int p1), .val (.int p2), .val (.int i)] [(.int (i - (1 : Int32))), (.ref ad0)])) rfl rfl (hb hby d3_30) kz) ?_
            show own_Fin p e below G (T_j4.setTop (mkF m 31 #[.val (.ref ad0), .val (.int p1), .val (.int p2), .val (.int i)] [(.int (xs (i - (1 : Int32)).toNatClampNeg))]))
            refine own_to (fun _ kz => XS.bipush X_j4.here hx rfl (hb hby d3_31) kz) ?_
            show own_Fin p e below G (T_j4.setTop (mkF m 33 #[.val (.ref ad0), .val (.int p1), .val (.int p2), .val (.int i)] [(.int (-2 : Int32)), (.int (xs (i - (1 : Int32)).toNatClampNeg))]))
            by_cases hc33 : (xs (i - (1 : Int32)).toNatClampNeg) = (-2 : Int32)
            · refine own_to (fun _ kz => XS.icmpNo X_j4.here hx rfl (hb hby d3_33) rfl (teq hc33).2 kz) ?_
              show own_Fin p e below G (T_j4.setTop (mkF m 36 #[.val (.ref ad0), .val (.int p1), .val (.int p2), .val (.int i)] []))
              refine own_to (fun _ kz => XS.iloadN X_j4.here hx rfl (hb hby d3_36) rfl  kz) ?_
              show own_Fin p e below G (T_j4.setTop (mkF m 37 #[.val (.ref ad0), .val (.int p1), .val (.int p2), .val (.int i)] [(.int i)]))
              refine own_to (fun _ kz => XS.iconst X_j4.here hx rfl (hb hby d3_37) kz) ?_
              show own_Fin p e below G (T_j4.setTop (mkF m 38 #[.val (.ref ad0), .val (.int p1), .val (.int p2), .val (.int i)] [(.int (1 : Int32)), (.int i)]))
              refine own_to (fun _ kz => XS.isub X_j4.here hx rfl (hb hby d3_38) rfl kz) ?_
              show own_Fin p e below G (T_j4.setTop (mkF m 39 #[.val (.ref ad0), .val (.int p1), .val (.int p2), .val (.int i)] [(.int (i - (1 : Int32)))]))
              exact own_retI X_j4 hx hlk hG Bd.returns (hb hby d3_39) (by decide) (by decide) ⟨⟨_, rfl, own_r1 hf ht hi hc6  hno hc23 hc33⟩, N_j4, e_j4⟩
            · refine own_to (fun _ kz => XS.icmpYes X_j4.here hx rfl (pc0 := 33) (pc' := 40) rfl (hb hby d3_33) rfl (feq hc33).2 (by decide) (by decide) kz) ?_
              show own_Fin p e below G (T_j4.setTop (mkF m 40 #[.val (.ref ad0), .val (.int p1), .val (.int p2), .val (.int i)] []))
              exact K40 (own_b2 hf ht hi hc6  hno hc33)
          · refine own_to (fun _ kz => XS.icmpYes X_j4.here hx rfl (pc0 := 23) (pc' := 40) rfl (hb hby d3_23) rfl (feq hc23).2 (by decide) (by decide) kz) ?_
            show own_Fin p e below G (T_j4.setTop (mkF m 40 #[.val (.ref ad0), .val (.int p1), .val (.int p2), .val (.int i)] []))
            exact K40 (own_b1 hf ht hi hc6  hno hc23)
        · refine own_to (fun _ kz => XS.icmpYes X_j4.here hx rfl (pc0 := 15) (pc' := 67) rfl (hb hby d3_15) rfl (feq hc15).2 (by decide) (by decide) kz) ?_
          show own_Fin p e below G (T_j4.setTop (mkF m 67 #[.val (.ref ad0), .val (.int p1), .val (.int p2), .val (.int i)] []))
          exact K67 (own_a1 hf ht hi hc6  hno hc15)
      · refine own_to (fun _ kz => XS.icmpYes X_j4.here hx rfl (pc0 := 6) (pc' := 73) rfl (hb hby d3_6) rfl (flt hc6).2.1 (by decide) (by decide) kz) ?_
        show own_Fin p e below G (T_j4.setTop (mkF m 73 #[.val (.ref ad0), .val (.int p1), .val (.int p2), .val (.int i)] []))
        refine own_to (fun _ kz => XS.iconst X_j4.here hx rfl (hb hby d3_73) kz) ?_
        show own_Fin p e below G (T_j4.setTop (mkF m 74 #[.val (.ref ad0), .val (.int p1), .val (.int p2), .val (.int i)] [(.int (-1 : Int32))]))
        exact own_retI X_j4 hx hlk hG Bd.returns (hb hby d3_74) (by decide) (by decide) ⟨⟨_, rfl, own_r3 hc6 hno⟩, N_j4, e_j4⟩
  exact K4 _ (p1 + (1 : Int32)) _ _ N0 X0 e0 rfl (own_en (xs := xs) (p2 := p2) hf hf8).1 (own_en (xs := xs) (p2 := p2) hf hf8).2
theorem own_m7 (a : Int32) : 0 ≤ ((a &&& (2147483647 : Int32)) % (9 : Int32)).toInt ∧ ((a &&& (2147483647 : Int32)) % (9 : Int32)).toInt ≤ 8 := by
  have h := c_and a 2147483647 (by decide)
  have g := (c_irem (a &&& (2147483647 : Int32)) 9 9 (by decide)).1 h.1
  omega
theorem own_n9 {v : Int32} (h : 0 ≤ v.toInt ∧ v.toInt ≤ 8) : ((9 : Int32) - v).toInt = 9 - v.toInt := by
  have e := c_isub 9 v; have r := rng32 (9 - v); have o : (9 : Int32).toInt = 9 := by decide
  omega
theorem own_nz9 {v : Int32} (h : 0 ≤ v.toInt ∧ v.toInt ≤ 8) : ((9 : Int32) - v) ≠ 0 := fun q => by
  have s := own_n9 h; rw [q, own_z32] at s; omega
theorem own_ft {v : Int32} (a : Int32) (h : 0 ≤ v.toInt ∧ v.toInt ≤ 8) : 0 ≤ v.toInt ∧ v.toInt ≤ (v + ((a &&& (2147483647 : Int32)) % ((9 : Int32) - v))).toInt ∧ (v + ((a &&& (2147483647 : Int32)) % ((9 : Int32) - v))).toInt ≤ 8 := by
  have g := c_and a 2147483647 (by decide)
  have s := own_n9 h
  have m := (c_iremV (a &&& (2147483647 : Int32)) ((9 : Int32) - v)).1 g.1 (by omega)
  have e := c_iadd v ((a &&& (2147483647 : Int32)) % ((9 : Int32) - v)); have r := rng32 (v + ((a &&& (2147483647 : Int32)) % ((9 : Int32) - v)))
  omega
theorem own_at {k : Int32} {fr to : Int32} {xs : Nat → Int32} (hk : 0 ≤ k.toInt ∧ k.toInt ≤ 6) : (¬ f2 k fr to xs = 0 → fr.toInt ≤ k.toInt ∧ k.toInt + 2 ≤ to.toInt ∧ own_M xs k.toNatClampNeg) ∧ (f2 k fr to xs = 0 → fr.toInt ≤ k.toInt → k.toInt + 2 ≤ to.toInt → ¬ own_M xs k.toNatClampNeg) := by
  have e := c_iadd k 1; have r := rng32 (k + 1); have o : (1 : Int32).toInt = 1 := by decide
  have e2 := c_iadd k 2; have r2 := rng32 (k + 2); have o2 : (2 : Int32).toInt = 2 := by decide
  have a := own_natc hk.1; have b := own_natc (i := k + 1) (by omega)
  have q : (k + (1 : Int32)).toNatClampNeg = k.toNatClampNeg + 1 := by omega
  have q2 : (k + (2 : Int32)).toInt = k.toInt + 2 := by omega
  unfold f2 f2_34 own_M
  rw [q]
  simp only [Int32.lt_iff_toInt_lt, q2]
  by_cases h1 : k.toInt < fr.toInt
  · rw [if_pos h1]; exact ⟨fun z => absurd rfl z, fun _ z => by omega⟩
  · rw [if_neg h1]
    by_cases h2 : to.toInt < k.toInt + 2
    · rw [if_pos h2]; exact ⟨fun z => absurd rfl z, fun _ _ z => by omega⟩
    · rw [if_neg h2]
      by_cases h3 : xs k.toNatClampNeg = -2
      · by_cases h4 : xs (k.toNatClampNeg + 1) = -3
        · rw [if_pos h3, if_pos h4]; exact ⟨fun _ => ⟨by omega, by omega, h3, h4⟩, fun z => absurd z (by decide)⟩
        · rw [if_pos h3, if_neg h4]; exact ⟨fun z => absurd rfl z, fun _ _ _ z => h4 z.2⟩
      · rw [if_neg h3]; exact ⟨fun z => absurd rfl z, fun _ _ _ z => h3 z.1⟩
theorem own_hit0 {fr to : Int32} {xs : Nat → Int32} (hb : 0 ≤ fr.toInt ∧ fr.toInt ≤ to.toInt ∧ to.toInt ≤ 8)  (h0 : ¬ f2 (0 : Int32) fr to xs = (0 : Int32)) : own_idx xs fr.toInt to.toInt (0 : Int32) := by
  have q := (own_at (k := 0) ⟨by decide, by decide⟩).1 h0
  have e : (0 : Int32).toInt = 0 := by decide
  refine Or.inr ⟨by decide, q.1, q.2.1, q.2.2, ?_⟩
  rw [e]
  exact fun j g1 g2 g3 => by omega
theorem own_hit1 {fr to : Int32} {xs : Nat → Int32} (hb : 0 ≤ fr.toInt ∧ fr.toInt ≤ to.toInt ∧ to.toInt ≤ 8) (h0 : f2 (0 : Int32) fr to xs = (0 : Int32)) (h1 : ¬ f2 (1 : Int32) fr to xs = (0 : Int32)) : own_idx xs fr.toInt to.toInt (1 : Int32) := by
  have q := (own_at (k := 1) ⟨by decide, by decide⟩).1 h1
  have e : (1 : Int32).toInt = 1 := by decide
  refine Or.inr ⟨by decide, q.1, q.2.1, q.2.2, ?_⟩
  rw [e]
  exact fun j g1 g2 g3 => by
    have : j = 0 := by omega
    rcases this with rfl
    · exact (own_at (k := 0) ⟨by decide, by decide⟩).2 h0 g1 g3
theorem own_hit2 {fr to : Int32} {xs : Nat → Int32} (hb : 0 ≤ fr.toInt ∧ fr.toInt ≤ to.toInt ∧ to.toInt ≤ 8) (h0 : f2 (0 : Int32) fr to xs = (0 : Int32)) (h1 : f2 (1 : Int32) fr to xs = (0 : Int32)) (h2 : ¬ f2 (2 : Int32) fr to xs = (0 : Int32)) : own_idx xs fr.toInt to.toInt (2 : Int32) := by
  have q := (own_at (k := 2) ⟨by decide, by decide⟩).1 h2
  have e : (2 : Int32).toInt = 2 := by decide
  refine Or.inr ⟨by decide, q.1, q.2.1, q.2.2, ?_⟩
  rw [e]
  exact fun j g1 g2 g3 => by
    have : j = 0 ∨ j = 1 := by omega
    rcases this with rfl | rfl
    · exact (own_at (k := 0) ⟨by decide, by decide⟩).2 h0 g1 g3
    · exact (own_at (k := 1) ⟨by decide, by decide⟩).2 h1 g1 g3
theorem own_hit3 {fr to : Int32} {xs : Nat → Int32} (hb : 0 ≤ fr.toInt ∧ fr.toInt ≤ to.toInt ∧ to.toInt ≤ 8) (h0 : f2 (0 : Int32) fr to xs = (0 : Int32)) (h1 : f2 (1 : Int32) fr to xs = (0 : Int32)) (h2 : f2 (2 : Int32) fr to xs = (0 : Int32)) (h3 : ¬ f2 (3 : Int32) fr to xs = (0 : Int32)) : own_idx xs fr.toInt to.toInt (3 : Int32) := by
  have q := (own_at (k := 3) ⟨by decide, by decide⟩).1 h3
  have e : (3 : Int32).toInt = 3 := by decide
  refine Or.inr ⟨by decide, q.1, q.2.1, q.2.2, ?_⟩
  rw [e]
  exact fun j g1 g2 g3 => by
    have : j = 0 ∨ j = 1 ∨ j = 2 := by omega
    rcases this with rfl | rfl | rfl
    · exact (own_at (k := 0) ⟨by decide, by decide⟩).2 h0 g1 g3
    · exact (own_at (k := 1) ⟨by decide, by decide⟩).2 h1 g1 g3
    · exact (own_at (k := 2) ⟨by decide, by decide⟩).2 h2 g1 g3
theorem own_hit4 {fr to : Int32} {xs : Nat → Int32} (hb : 0 ≤ fr.toInt ∧ fr.toInt ≤ to.toInt ∧ to.toInt ≤ 8) (h0 : f2 (0 : Int32) fr to xs = (0 : Int32)) (h1 : f2 (1 : Int32) fr to xs = (0 : Int32)) (h2 : f2 (2 : Int32) fr to xs = (0 : Int32)) (h3 : f2 (3 : Int32) fr to xs = (0 : Int32)) (h4 : ¬ f2 (4 : Int32) fr to xs = (0 : Int32)) : own_idx xs fr.toInt to.toInt (4 : Int32) := by
  have q := (own_at (k := 4) ⟨by decide, by decide⟩).1 h4
  have e : (4 : Int32).toInt = 4 := by decide
  refine Or.inr ⟨by decide, q.1, q.2.1, q.2.2, ?_⟩
  rw [e]
  exact fun j g1 g2 g3 => by
    have : j = 0 ∨ j = 1 ∨ j = 2 ∨ j = 3 := by omega
    rcases this with rfl | rfl | rfl | rfl
    · exact (own_at (k := 0) ⟨by decide, by decide⟩).2 h0 g1 g3
    · exact (own_at (k := 1) ⟨by decide, by decide⟩).2 h1 g1 g3
    · exact (own_at (k := 2) ⟨by decide, by decide⟩).2 h2 g1 g3
    · exact (own_at (k := 3) ⟨by decide, by decide⟩).2 h3 g1 g3
theorem own_hit5 {fr to : Int32} {xs : Nat → Int32} (hb : 0 ≤ fr.toInt ∧ fr.toInt ≤ to.toInt ∧ to.toInt ≤ 8) (h0 : f2 (0 : Int32) fr to xs = (0 : Int32)) (h1 : f2 (1 : Int32) fr to xs = (0 : Int32)) (h2 : f2 (2 : Int32) fr to xs = (0 : Int32)) (h3 : f2 (3 : Int32) fr to xs = (0 : Int32)) (h4 : f2 (4 : Int32) fr to xs = (0 : Int32)) (h5 : ¬ f2 (5 : Int32) fr to xs = (0 : Int32)) : own_idx xs fr.toInt to.toInt (5 : Int32) := by
  have q := (own_at (k := 5) ⟨by decide, by decide⟩).1 h5
  have e : (5 : Int32).toInt = 5 := by decide
  refine Or.inr ⟨by decide, q.1, q.2.1, q.2.2, ?_⟩
  rw [e]
  exact fun j g1 g2 g3 => by
    have : j = 0 ∨ j = 1 ∨ j = 2 ∨ j = 3 ∨ j = 4 := by omega
    rcases this with rfl | rfl | rfl | rfl | rfl
    · exact (own_at (k := 0) ⟨by decide, by decide⟩).2 h0 g1 g3
    · exact (own_at (k := 1) ⟨by decide, by decide⟩).2 h1 g1 g3
    · exact (own_at (k := 2) ⟨by decide, by decide⟩).2 h2 g1 g3
    · exact (own_at (k := 3) ⟨by decide, by decide⟩).2 h3 g1 g3
    · exact (own_at (k := 4) ⟨by decide, by decide⟩).2 h4 g1 g3
theorem own_hit6 {fr to : Int32} {xs : Nat → Int32} (hb : 0 ≤ fr.toInt ∧ fr.toInt ≤ to.toInt ∧ to.toInt ≤ 8) (h0 : f2 (0 : Int32) fr to xs = (0 : Int32)) (h1 : f2 (1 : Int32) fr to xs = (0 : Int32)) (h2 : f2 (2 : Int32) fr to xs = (0 : Int32)) (h3 : f2 (3 : Int32) fr to xs = (0 : Int32)) (h4 : f2 (4 : Int32) fr to xs = (0 : Int32)) (h5 : f2 (5 : Int32) fr to xs = (0 : Int32)) (h6 : ¬ f2 (6 : Int32) fr to xs = (0 : Int32)) : own_idx xs fr.toInt to.toInt (6 : Int32) := by
  have q := (own_at (k := 6) ⟨by decide, by decide⟩).1 h6
  have e : (6 : Int32).toInt = 6 := by decide
  refine Or.inr ⟨by decide, q.1, q.2.1, q.2.2, ?_⟩
  rw [e]
  exact fun j g1 g2 g3 => by
    have : j = 0 ∨ j = 1 ∨ j = 2 ∨ j = 3 ∨ j = 4 ∨ j = 5 := by omega
    rcases this with rfl | rfl | rfl | rfl | rfl | rfl
    · exact (own_at (k := 0) ⟨by decide, by decide⟩).2 h0 g1 g3
    · exact (own_at (k := 1) ⟨by decide, by decide⟩).2 h1 g1 g3
    · exact (own_at (k := 2) ⟨by decide, by decide⟩).2 h2 g1 g3
    · exact (own_at (k := 3) ⟨by decide, by decide⟩).2 h3 g1 g3
    · exact (own_at (k := 4) ⟨by decide, by decide⟩).2 h4 g1 g3
    · exact (own_at (k := 5) ⟨by decide, by decide⟩).2 h5 g1 g3
theorem own_hit7 {fr to : Int32} {xs : Nat → Int32} (hb : 0 ≤ fr.toInt ∧ fr.toInt ≤ to.toInt ∧ to.toInt ≤ 8) (h0 : f2 (0 : Int32) fr to xs = (0 : Int32)) (h1 : f2 (1 : Int32) fr to xs = (0 : Int32)) (h2 : f2 (2 : Int32) fr to xs = (0 : Int32)) (h3 : f2 (3 : Int32) fr to xs = (0 : Int32)) (h4 : f2 (4 : Int32) fr to xs = (0 : Int32)) (h5 : f2 (5 : Int32) fr to xs = (0 : Int32)) (h6 : f2 (6 : Int32) fr to xs = (0 : Int32)) : own_idx xs fr.toInt to.toInt (-1 : Int32) := by
  refine Or.inl ⟨rfl, ?_⟩
  exact fun j g1 g2 g3 => by
    have : j = 0 ∨ j = 1 ∨ j = 2 ∨ j = 3 ∨ j = 4 ∨ j = 5 ∨ j = 6 := by omega
    rcases this with rfl | rfl | rfl | rfl | rfl | rfl | rfl
    · exact (own_at (k := 0) ⟨by decide, by decide⟩).2 h0 g1 g3
    · exact (own_at (k := 1) ⟨by decide, by decide⟩).2 h1 g1 g3
    · exact (own_at (k := 2) ⟨by decide, by decide⟩).2 h2 g1 g3
    · exact (own_at (k := 3) ⟨by decide, by decide⟩).2 h3 g1 g3
    · exact (own_at (k := 4) ⟨by decide, by decide⟩).2 h4 g1 g3
    · exact (own_at (k := 5) ⟨by decide, by decide⟩).2 h5 g1 g3
    · exact (own_at (k := 6) ⟨by decide, by decide⟩).2 h6 g1 g3
theorem own_pd0 : parseMethodDescriptor "(JJI)B" = some ⟨[.long, .long, .int], some .byte⟩ := by decide +kernel
theorem own_pd1 : parseMethodDescriptor "([BIII)Z" = some ⟨[(.array .byte), .int, .int, .int], some .boolean⟩ := by decide +kernel
theorem own_pd2 : parseMethodDescriptor "([BII)I" = some ⟨[(.array .byte), .int, .int], some .int⟩ := by decide +kernel
theorem ef0 (m : MethodId) (x0 : Int64) (x1 : Int64) (p2 : Int32) (p3 : Int32) : entryFrame m #[(.long x0), (.long x1), (.int p2), (.int p3)] maxLocals = mkF m 0 #[.val (.long x0), .second, .val (.long x1), .second, .val (.int p2), .val (.int p3), .unset, .unset, .unset, .unset, .unset] [] := by first | (simp [entryFrame, mkF, argsToLocals, Value.category, maxLocals]; done) | rfl
def Q0 (Z : State) (x0 : Int64) (x1 : Int64) (p2 : Int32) (p3 : Int32) (h0 : Heap) (n0 : Nat) (v : Option Value) (h : Heap) (L : List Loc) : Prop := v = some (.int 1) ∧ Fr n0 L ∧ True
set_option maxRecDepth 65536 in
set_option maxHeartbeats 40000000 in
theorem rm0 (l : Launch) (Z : State) (a0 : Array Value) (hw : ∀ d ∈ tables_1, d.before a0 Z = true) (ws : List Jvm.Cond) (x0 : Int64) (x1 : Int64) (p2 : Int32) (p3 : Int32) (h0 : Heap) (n0 : Nat) (Z0 : n0 ≤ h0.size) :
    MetFree l x (head1 (Jvm.Cond.code x code maxLocals ret :: ws) room_1) (fun a U => a = #[(.long x0), (.long x1), (.int p2), (.int p3)] ∧ Z.Warmed39 U.vm ∧ U.heap = h0) (fun _ _ _ _ _ => True) (fun _ U o U' => ∃ v L, o = .returned v ∧ Q0 Z x0 x1 p2 p3 h0 n0 v U'.heap L ∧ FrameEnd U o U' L room_1.cells room_1.slots) := by
  refine MetFree.of_bodySF (plainFor_of_name own_pn0) hisR ?_
  intro p e s m args below meth c s₁ Bd hml0 hP hK
  obtain ⟨rfl, hZ, hh⟩ := hP
  have hx := Bd.exec
  have hby := Bd.bytes
  have hml : c.maxLocals = 11 := hml0
  have hown : s.vm.findClass "com/example/resync/resync/codec/DelimiterIndexOfByPairsPinLaw" = some m.cls := findClass_of_methodNamed Bd.named
  have hnm := (name_of_methodNamed Bd.named Bd.method).1
  have hlk : meth.locks = false := BodyLoose.notSynchronized Bd
  have X0 : Stand p l e room_1 s m #[(.long x0), (.long x1), (.int p2), (.int p3)] below meth c s₁ [] 0 0 := Stand.of_body Bd
  have e0 : s₁.heap = h0 := by rw [← hh, Bd.state]; rfl
  have N0 := Fr.nil n0
  obtain ⟨G, hG⟩ : ∃ G, G = own_G s (Q0 Z x0 x1 p2 p3 h0 n0) room_1.cells room_1.slots := ⟨_, rfl⟩
  show own_Fin p e below (own_G s (Q0 Z x0 x1 p2 p3 h0 n0) room_1.cells room_1.slots) (s₁.setTop (entryFrame m #[(.long x0), (.long x1), (.int p2), (.int p3)] maxLocals))
  rw [← hG]
  refine own_to (fun _ kz => castTop (ef0 m x0 x1 p2 p3) kz) ?_
  show own_Fin p e below G (s₁.setTop (mkF m 0 #[.val (.long x0), .second, .val (.long x1), .second, .val (.int p2), .val (.int p3), .unset, .unset, .unset, .unset, .unset] []))
  refine own_to (fun _ kz => XS.bipush X0.here hx rfl (hb hby at_0) kz) ?_
  show own_Fin p e below G (s₁.setTop (mkF m 2 #[.val (.long x0), .second, .val (.long x1), .second, .val (.int p2), .val (.int p3), .unset, .unset, .unset, .unset, .unset] [(.int (8 : Int32))]))
  obtain ⟨T2, h2, k2, X2, e2, E2, A2, st2⟩ := newP X0 hx hZ (hw _ (List.mem_of_getElem? (i := 0) rfl)) e0 (g := (mkF m 2 #[.val (.long x0), .second, .val (.long x1), .second, .val (.int p2), .val (.int p3), .unset, .unset, .unset, .unset, .unset] [(.int (8 : Int32))])) rfl (hb hby at_2) rfl (by decide) (cap := 8) (by decide) (by decide) (by decide) (by decide)
  obtain ⟨b2, g2⟩ : ∃ z, z = h0.size := ⟨_, rfl⟩
  rw [← g2] at A2 st2
  refine own_to st2 ?_
  have g_b2 : n0 ≤ b2 := Nat.le_trans Z0 (Nat.le_of_eq g2.symm)
  have V2 : own_AV Value.int Z h2 b2 .byte 8 (fun _ => (0 : Int32)) := own_AV.new A2 (by decide) (by decide) (fun _ => rfl)
  show own_Fin p e below G (T2.setTop (mkF m 4 #[.val (.long x0), .second, .val (.long x1), .second, .val (.int p2), .val (.int p3), .unset, .unset, .unset, .unset, .unset] [(.ref b2)]))
  refine own_to (fun _ kz => XS.astore X2.here hx rfl (hb hby at_4) rfl (rfl) (l' := #[.val (.long x0), .second, .val (.long x1), .second, .val (.int p2), .val (.int p3), .val (.ref b2), .unset, .unset, .unset, .unset]) rfl kz) ?_
  show own_Fin p e below G (T2.setTop (mkF m 6 #[.val (.long x0), .second, .val (.long x1), .second, .val (.int p2), .val (.int p3), .val (.ref b2), .unset, .unset, .unset, .unset] []))
  refine own_to (fun _ kz => XS.aload X2.here hx rfl (hb hby at_6) rfl (rfl)  kz) ?_
  show own_Fin p e below G (T2.setTop (mkF m 8 #[.val (.long x0), .second, .val (.long x1), .second, .val (.int p2), .val (.int p3), .val (.ref b2), .unset, .unset, .unset, .unset] [(.ref b2)]))
  refine own_to (fun _ kz => XS.iconst X2.here hx rfl (hb hby at_8) kz) ?_
  show own_Fin p e below G (T2.setTop (mkF m 9 #[.val (.long x0), .second, .val (.long x1), .second, .val (.int p2), .val (.int p3), .val (.ref b2), .unset, .unset, .unset, .unset] [(.int (0 : Int32)), (.ref b2)]))
  refine own_to (fun _ kz => XS.lloadN X2.here hx rfl (hb hby at_9) rfl  kz) ?_
  show own_Fin p e below G (T2.setTop (mkF m 10 #[.val (.long x0), .second, .val (.long x1), .second, .val (.int p2), .val (.int p3), .val (.ref b2), .unset, .unset, .unset, .unset] [(.long x0), (.int (0 : Int32)), (.ref b2)]))
  refine own_to (fun _ kz => XS.lloadN X2.here hx rfl (hb hby at_10) rfl  kz) ?_
  show own_Fin p e below G (T2.setTop (mkF m 11 #[.val (.long x0), .second, .val (.long x1), .second, .val (.int p2), .val (.int p3), .val (.ref b2), .unset, .unset, .unset, .unset] [(.long x1), (.long x0), (.int (0 : Int32)), (.ref b2)]))
  refine own_to (fun _ kz => XS.iconst X2.here hx rfl (hb hby at_11) kz) ?_
  show own_Fin p e below G (T2.setTop (mkF m 12 #[.val (.long x0), .second, .val (.long x1), .second, .val (.int p2), .val (.int p3), .val (.ref b2), .unset, .unset, .unset, .unset] [(.int (0 : Int32)), (.long x1), (.long x0), (.int (0 : Int32)), (.ref b2)]))
  have Zz_12_E2 := Nat.le_trans Z0 E2.1
  have Z_12 : n0 ≤ h2.size := Zz_12_E2
  obtain ⟨_, _, ⟨T12, L12, k12, n12⟩, -, X12, ⟨Lc12, hQ12, l12, y12, z12⟩, st12⟩ := Jvm.LawKit.callS X2 hx (y := (⟨"com/example/resync/resync/codec/DelimiterIndexOfByPairsPinLaw", "pick", "(JJI)B"⟩ : MethodName)) hown (mvT hZ (hw _ (List.mem_of_getElem? (i := 1) rfl))) (mvT hZ (hw _ (List.mem_of_getElem? (i := 2) rfl))) (mvT hZ (hw _ (List.mem_of_getElem? (i := 3) rfl))) (mvT hZ (hw _ (List.mem_of_getElem? (i := 4) rfl))) (by decide) (backOf (W := 2) (rm1 l Z a0 hw [] x0 x1 (0 : Int32) h2 n0 Z_12) hZ (hw _ (List.mem_of_getElem? (i := 4) rfl)) (hw _ (List.mem_of_getElem? (i := 3) rfl)) (by decide) (by decide)) (g := (mkF m 12 #[.val (.long x0), .second, .val (.long x1), .second, .val (.int p2), .val (.int p3), .val (.ref b2), .unset, .unset, .unset, .unset] [(.int (0 : Int32)), (.long x1), (.long x0), (.int (0 : Int32)), (.ref b2)])) rfl (by rw [hml]; rfl) (argsL := [(.long x0), (.long x1), (.int (0 : Int32))]) (rest := [(.int (0 : Int32)), (.ref b2)]) (lenOf own_pd0 rfl) rfl (by show 2 * 0 + _ ≤ _; exact Nat.le_of_eq rfl) (hb hby at_12) (fun _ _ => ⟨rfl, e2, (by decide : 1 + 0 ≤ _), (by decide : 8 + 0 ≤ _)⟩)
  dsimp only [Pt.U, Pt.locs, Pt.cells, Pt.slots] at X12 l12 y12 z12 st12 hQ12
  subst l12 y12 z12
  obtain ⟨rfl, N12q, e12⟩ := hQ12
  obtain ⟨lo12, X12, N12⟩ : ∃ lo, Stand p l e _ s m _ below meth c T12 lo _ _ ∧ Fr n0 lo := ⟨_, X12, Fr.app N0 N12q⟩
  refine own_to st12 ?_
  show own_Fin p e below G (T12.setTop (mkF m 15 #[.val (.long x0), .second, .val (.long x1), .second, .val (.int p2), .val (.int p3), .val (.ref b2), .unset, .unset, .unset, .unset] [(.int (f1 x0 x1 (0 : Int32))), (.int (0 : Int32)), (.ref b2)]))
  obtain ⟨nn15, cl15, Ar15, Sz15, Hs15⟩ := V2
  obtain ⟨T15, h15, X15, e15, W15, st15⟩ := stB X12 hx hZ e12 Ar15 (j := (0 : Int32)) (own_in Sz15 (by decide) rfl (by decide)) (g := (mkF m 15 #[.val (.long x0), .second, .val (.long x1), .second, .val (.int p2), .val (.int p3), .val (.ref b2), .unset, .unset, .unset, .unset] [(.int (f1 x0 x1 (0 : Int32))), (.int (0 : Int32)), (.ref b2)])) rfl rfl (hb hby at_15)
  refine own_to st15 ?_
  have V15 : own_AV Value.int Z h15 b2 .byte 8 (own_upd (fun _ => (0 : Int32)) 0 (nar .byte (f1 x0 x1 (0 : Int32)))) := own_AV.set nn15 Ar15 Sz15 Hs15 W15 rfl
  obtain ⟨lo15, X15, N15⟩ : ∃ lo, Stand p l e _ s m _ below meth c T15 lo _ _ ∧ Fr n0 lo := ⟨_, X15, Fr.snoc X15 N12 g_b2⟩
  show own_Fin p e below G (T15.setTop (mkF m 16 #[.val (.long x0), .second, .val (.long x1), .second, .val (.int p2), .val (.int p3), .val (.ref b2), .unset, .unset, .unset, .unset] []))
  refine own_to (fun _ kz => XS.aload X15.here hx rfl (hb hby at_16) rfl (rfl)  kz) ?_
  show own_Fin p e below G (T15.setTop (mkF m 18 #[.val (.long x0), .second, .val (.long x1), .second, .val (.int p2), .val (.int p3), .val (.ref b2), .unset, .unset, .unset, .unset] [(.ref b2)]))
  refine own_to (fun _ kz => XS.iconst X15.here hx rfl (hb hby at_18) kz) ?_
  show own_Fin p e below G (T15.setTop (mkF m 19 #[.val (.long x0), .second, .val (.long x1), .second, .val (.int p2), .val (.int p3), .val (.ref b2), .unset, .unset, .unset, .unset] [(.int (1 : Int32)), (.ref b2)]))
  refine own_to (fun _ kz => XS.lloadN X15.here hx rfl (hb hby at_19) rfl  kz) ?_
  show own_Fin p e below G (T15.setTop (mkF m 20 #[.val (.long x0), .second, .val (.long x1), .second, .val (.int p2), .val (.int p3), .val (.ref b2), .unset, .unset, .unset, .unset] [(.long x0), (.int (1 : Int32)), (.ref b2)]))
  refine own_to (fun _ kz => XS.lloadN X15.here hx rfl (hb hby at_20) rfl  kz) ?_
  show own_Fin p e below G (T15.setTop (mkF m 21 #[.val (.long x0), .second, .val (.long x1), .second, .val (.int p2), .val (.int p3), .val (.ref b2), .unset, .unset, .unset, .unset] [(.long x1), (.long x0), (.int (1 : Int32)), (.ref b2)]))
  refine own_to (fun _ kz => XS.iconst X15.here hx rfl (hb hby at_21) kz) ?_
  show own_Fin p e below G (T15.setTop (mkF m 22 #[.val (.long x0), .second, .val (.long x1), .second, .val (.int p2), .val (.int p3), .val (.ref b2), .unset, .unset, .unset, .unset] [(.int (1 : Int32)), (.long x1), (.long x0), (.int (1 : Int32)), (.ref b2)]))
  have Zz_22_W15 := Nat.le_trans Z_12 (Nat.le_of_eq (Wr.size W15).symm)
  have Z_22 : n0 ≤ h15.size := Zz_22_W15
  obtain ⟨_, _, ⟨T22, L22, k22, n22⟩, -, X22, ⟨Lc22, hQ22, l22, y22, z22⟩, st22⟩ := Jvm.LawKit.callS X15 hx (y := (⟨"com/example/resync/resync/codec/DelimiterIndexOfByPairsPinLaw", "pick", "(JJI)B"⟩ : MethodName)) hown (mvT hZ (hw _ (List.mem_of_getElem? (i := 1) rfl))) (mvT hZ (hw _ (List.mem_of_getElem? (i := 2) rfl))) (mvT hZ (hw _ (List.mem_of_getElem? (i := 3) rfl))) (mvT hZ (hw _ (List.mem_of_getElem? (i := 4) rfl))) (by decide) (backOf (W := 2) (rm1 l Z a0 hw [] x0 x1 (1 : Int32) h15 n0 Z_22) hZ (hw _ (List.mem_of_getElem? (i := 4) rfl)) (hw _ (List.mem_of_getElem? (i := 3) rfl)) (by decide) (by decide)) (g := (mkF m 22 #[.val (.long x0), .second, .val (.long x1), .second, .val (.int p2), .val (.int p3), .val (.ref b2), .unset, .unset, .unset, .unset] [(.int (1 : Int32)), (.long x1), (.long x0), (.int (1 : Int32)), (.ref b2)])) rfl (by rw [hml]; rfl) (argsL := [(.long x0), (.long x1), (.int (1 : Int32))]) (rest := [(.int (1 : Int32)), (.ref b2)]) (lenOf own_pd0 rfl) rfl (by show 2 * 0 + _ ≤ _; exact Nat.le_of_eq rfl) (hb hby at_22) (fun _ _ => ⟨rfl, e15, (by decide : 1 + 0 ≤ _), (by decide : 8 + 0 ≤ _)⟩)
  dsimp only [Pt.U, Pt.locs, Pt.cells, Pt.slots] at X22 l22 y22 z22 st22 hQ22
  subst l22 y22 z22
  obtain ⟨rfl, N22q, e22⟩ := hQ22
  obtain ⟨lo22, X22, N22⟩ : ∃ lo, Stand p l e _ s m _ below meth c T22 lo _ _ ∧ Fr n0 lo := ⟨_, X22, Fr.app N15 N22q⟩
  refine own_to st22 ?_
  show own_Fin p e below G (T22.setTop (mkF m 25 #[.val (.long x0), .second, .val (.long x1), .second, .val (.int p2), .val (.int p3), .val (.ref b2), .unset, .unset, .unset, .unset] [(.int (f1 x0 x1 (1 : Int32))), (.int (1 : Int32)), (.ref b2)]))
  obtain ⟨nn25, cl25, Ar25, Sz25, Hs25⟩ := V15
  obtain ⟨T25, h25, X25, e25, W25, st25⟩ := stB X22 hx hZ e22 Ar25 (j := (1 : Int32)) (own_in Sz25 (by decide) rfl (by decide)) (g := (mkF m 25 #[.val (.long x0), .second, .val (.long x1), .second, .val (.int p2), .val (.int p3), .val (.ref b2), .unset, .unset, .unset, .unset] [(.int (f1 x0 x1 (1 : Int32))), (.int (1 : Int32)), (.ref b2)])) rfl rfl (hb hby at_25)
  refine own_to st25 ?_
  have V25 : own_AV Value.int Z h25 b2 .byte 8 (own_upd (own_upd (fun _ => (0 : Int32)) 0 (nar .byte (f1 x0 x1 (0 : Int32)))) 1 (nar .byte (f1 x0 x1 (1 : Int32)))) := own_AV.set nn25 Ar25 Sz25 Hs25 W25 rfl
  obtain ⟨lo25, X25, N25⟩ : ∃ lo, Stand p l e _ s m _ below meth c T25 lo _ _ ∧ Fr n0 lo := ⟨_, X25, Fr.snoc X25 N22 g_b2⟩
  show own_Fin p e below G (T25.setTop (mkF m 26 #[.val (.long x0), .second, .val (.long x1), .second, .val (.int p2), .val (.int p3), .val (.ref b2), .unset, .unset, .unset, .unset] []))
  refine own_to (fun _ kz => XS.aload X25.here hx rfl (hb hby at_26) rfl (rfl)  kz) ?_
  show own_Fin p e below G (T25.setTop (mkF m 28 #[.val (.long x0), .second, .val (.long x1), .second, .val (.int p2), .val (.int p3), .val (.ref b2), .unset, .unset, .unset, .unset] [(.ref b2)]))
  refine own_to (fun _ kz => XS.iconst X25.here hx rfl (hb hby at_28) kz) ?_
  show own_Fin p e below G (T25.setTop (mkF m 29 #[.val (.long x0), .second, .val (.long x1), .second, .val (.int p2), .val (.int p3), .val (.ref b2), .unset, .unset, .unset, .unset] [(.int (2 : Int32)), (.ref b2)]))
  refine own_to (fun _ kz => XS.lloadN X25.here hx rfl (hb hby at_29) rfl  kz) ?_
  show own_Fin p e below G (T25.setTop (mkF m 30 #[.val (.long x0), .second, .val (.long x1), .second, .val (.int p2), .val (.int p3), .val (.ref b2), .unset, .unset, .unset, .unset] [(.long x0), (.int (2 : Int32)), (.ref b2)]))
  refine own_to (fun _ kz => XS.lloadN X25.here hx rfl (hb hby at_30) rfl  kz) ?_
  show own_Fin p e below G (T25.setTop (mkF m 31 #[.val (.long x0), .second, .val (.long x1), .second, .val (.int p2), .val (.int p3), .val (.ref b2), .unset, .unset, .unset, .unset] [(.long x1), (.long x0), (.int (2 : Int32)), (.ref b2)]))
  refine own_to (fun _ kz => XS.iconst X25.here hx rfl (hb hby at_31) kz) ?_
  show own_Fin p e below G (T25.setTop (mkF m 32 #[.val (.long x0), .second, .val (.long x1), .second, .val (.int p2), .val (.int p3), .val (.ref b2), .unset, .unset, .unset, .unset] [(.int (2 : Int32)), (.long x1), (.long x0), (.int (2 : Int32)), (.ref b2)]))
  have Zz_32_W25 := Nat.le_trans Z_22 (Nat.le_of_eq (Wr.size W25).symm)
  have Z_32 : n0 ≤ h25.size := Zz_32_W25
  obtain ⟨_, _, ⟨T32, L32, k32, n32⟩, -, X32, ⟨Lc32, hQ32, l32, y32, z32⟩, st32⟩ := Jvm.LawKit.callS X25 hx (y := (⟨"com/example/resync/resync/codec/DelimiterIndexOfByPairsPinLaw", "pick", "(JJI)B"⟩ : MethodName)) hown (mvT hZ (hw _ (List.mem_of_getElem? (i := 1) rfl))) (mvT hZ (hw _ (List.mem_of_getElem? (i := 2) rfl))) (mvT hZ (hw _ (List.mem_of_getElem? (i := 3) rfl))) (mvT hZ (hw _ (List.mem_of_getElem? (i := 4) rfl))) (by decide) (backOf (W := 2) (rm1 l Z a0 hw [] x0 x1 (2 : Int32) h25 n0 Z_32) hZ (hw _ (List.mem_of_getElem? (i := 4) rfl)) (hw _ (List.mem_of_getElem? (i := 3) rfl)) (by decide) (by decide)) (g := (mkF m 32 #[.val (.long x0), .second, .val (.long x1), .second, .val (.int p2), .val (.int p3), .val (.ref b2), .unset, .unset, .unset, .unset] [(.int (2 : Int32)), (.long x1), (.long x0), (.int (2 : Int32)), (.ref b2)])) rfl (by rw [hml]; rfl) (argsL := [(.long x0), (.long x1), (.int (2 : Int32))]) (rest := [(.int (2 : Int32)), (.ref b2)]) (lenOf own_pd0 rfl) rfl (by show 2 * 0 + _ ≤ _; exact Nat.le_of_eq rfl) (hb hby at_32) (fun _ _ => ⟨rfl, e25, (by decide : 1 + 0 ≤ _), (by decide : 8 + 0 ≤ _)⟩)
  dsimp only [Pt.U, Pt.locs, Pt.cells, Pt.slots] at X32 l32 y32 z32 st32 hQ32
  subst l32 y32 z32
  obtain ⟨rfl, N32q, e32⟩ := hQ32
  obtain ⟨lo32, X32, N32⟩ : ∃ lo, Stand p l e _ s m _ below meth c T32 lo _ _ ∧ Fr n0 lo := ⟨_, X32, Fr.app N25 N32q⟩
  refine own_to st32 ?_
  show own_Fin p e below G (T32.setTop (mkF m 35 #[.val (.long x0), .second, .val (.long x1), .second, .val (.int p2), .val (.int p3), .val (.ref b2), .unset, .unset, .unset, .unset] [(.int (f1 x0 x1 (2 : Int32))), (.int (2 : Int32)), (.ref b2)]))
  obtain ⟨nn35, cl35, Ar35, Sz35, Hs35⟩ := V25
  obtain ⟨T35, h35, X35, e35, W35, st35⟩ := stB X32 hx hZ e32 Ar35 (j := (2 : Int32)) (own_in Sz35 (by decide) rfl (by decide)) (g := (mkF m 35 #[.val (.long x0), .second, .val (.long x1), .second, .val (.int p2), .val (.int p3), .val (.ref b2), .unset, .unset, .unset, .unset] [(.int (f1 x0 x1 (2 : Int32))), (.int (2 : Int32)), (.ref b2)])) rfl rfl (hb hby at_35)
  refine own_to st35 ?_
  have V35 : own_AV Value.int Z h35 b2 .byte 8 (own_upd (own_upd (own_upd (fun _ => (0 : Int32)) 0 (nar .byte (f1 x0 x1 (0 : Int32)))) 1 (nar .byte (f1 x0 x1 (1 : Int32)))) 2 (nar .byte (f1 x0 x1 (2 : Int32)))) := own_AV.set nn35 Ar35 Sz35 Hs35 W35 rfl
  obtain ⟨lo35, X35, N35⟩ : ∃ lo, Stand p l e _ s m _ below meth c T35 lo _ _ ∧ Fr n0 lo := ⟨_, X35, Fr.snoc X35 N32 g_b2⟩
  show own_Fin p e below G (T35.setTop (mkF m 36 #[.val (.long x0), .second, .val (.long x1), .second, .val (.int p2), .val (.int p3), .val (.ref b2), .unset, .unset, .unset, .unset] []))
  refine own_to (fun _ kz => XS.aload X35.here hx rfl (hb hby at_36) rfl (rfl)  kz) ?_
  show own_Fin p e below G (T35.setTop (mkF m 38 #[.val (.long x0), .second, .val (.long x1), .second, .val (.int p2), .val (.int p3), .val (.ref b2), .unset, .unset, .unset, .unset] [(.ref b2)]))
  refine own_to (fun _ kz => XS.iconst X35.here hx rfl (hb hby at_38) kz) ?_
  show own_Fin p e below G (T35.setTop (mkF m 39 #[.val (.long x0), .second, .val (.long x1), .second, .val (.int p2), .val (.int p3), .val (.ref b2), .unset, .unset, .unset, .unset] [(.int (3 : Int32)), (.ref b2)]))
  refine own_to (fun _ kz => XS.lloadN X35.here hx rfl (hb hby at_39) rfl  kz) ?_
  show own_Fin p e below G (T35.setTop (mkF m 40 #[.val (.long x0), .second, .val (.long x1), .second, .val (.int p2), .val (.int p3), .val (.ref b2), .unset, .unset, .unset, .unset] [(.long x0), (.int (3 : Int32)), (.ref b2)]))
  refine own_to (fun _ kz => XS.lloadN X35.here hx rfl (hb hby at_40) rfl  kz) ?_
  show own_Fin p e below G (T35.setTop (mkF m 41 #[.val (.long x0), .second, .val (.long x1), .second, .val (.int p2), .val (.int p3), .val (.ref b2), .unset, .unset, .unset, .unset] [(.long x1), (.long x0), (.int (3 : Int32)), (.ref b2)]))
  refine own_to (fun _ kz => XS.iconst X35.here hx rfl (hb hby at_41) kz) ?_
  show own_Fin p e below G (T35.setTop (mkF m 42 #[.val (.long x0), .second, .val (.long x1), .second, .val (.int p2), .val (.int p3), .val (.ref b2), .unset, .unset, .unset, .unset] [(.int (3 : Int32)), (.long x1), (.long x0), (.int (3 : Int32)), (.ref b2)]))
  have Zz_42_W35 := Nat.le_trans Z_32 (Nat.le_of_eq (Wr.size W35).symm)
  have Z_42 : n0 ≤ h35.size := Zz_42_W35
  obtain ⟨_, _, ⟨T42, L42, k42, n42⟩, -, X42, ⟨Lc42, hQ42, l42, y42, z42⟩, st42⟩ := Jvm.LawKit.callS X35 hx (y := (⟨"com/example/resync/resync/codec/DelimiterIndexOfByPairsPinLaw", "pick", "(JJI)B"⟩ : MethodName)) hown (mvT hZ (hw _ (List.mem_of_getElem? (i := 1) rfl))) (mvT hZ (hw _ (List.mem_of_getElem? (i := 2) rfl))) (mvT hZ (hw _ (List.mem_of_getElem? (i := 3) rfl))) (mvT hZ (hw _ (List.mem_of_getElem? (i := 4) rfl))) (by decide) (backOf (W := 2) (rm1 l Z a0 hw [] x0 x1 (3 : Int32) h35 n0 Z_42) hZ (hw _ (List.mem_of_getElem? (i := 4) rfl)) (hw _ (List.mem_of_getElem? (i := 3) rfl)) (by decide) (by decide)) (g := (mkF m 42 #[.val (.long x0), .second, .val (.long x1), .second, .val (.int p2), .val (.int p3), .val (.ref b2), .unset, .unset, .unset, .unset] [(.int (3 : Int32)), (.long x1), (.long x0), (.int (3 : Int32)), (.ref b2)])) rfl (by rw [hml]; rfl) (argsL := [(.long x0), (.long x1), (.int (3 : Int32))]) (rest := [(.int (3 : Int32)), (.ref b2)]) (lenOf own_pd0 rfl) rfl (by show 2 * 0 + _ ≤ _; exact Nat.le_of_eq rfl) (hb hby at_42) (fun _ _ => ⟨rfl, e35, (by decide : 1 + 0 ≤ _), (by decide : 8 + 0 ≤ _)⟩)
  dsimp only [Pt.U, Pt.locs, Pt.cells, Pt.slots] at X42 l42 y42 z42 st42 hQ42
  subst l42 y42 z42
  obtain ⟨rfl, N42q, e42⟩ := hQ42
  obtain ⟨lo42, X42, N42⟩ : ∃ lo, Stand p l e _ s m _ below meth c T42 lo _ _ ∧ Fr n0 lo := ⟨_, X42, Fr.app N35 N42q⟩
  refine own_to st42 ?_
  show own_Fin p e below G (T42.setTop (mkF m 45 #[.val (.long x0), .second, .val (.long x1), .second, .val (.int p2), .val (.int p3), .val (.ref b2), .unset, .unset, .unset, .unset] [(.int (f1 x0 x1 (3 : Int32))), (.int (3 : Int32)), (.ref b2)]))
  obtain ⟨nn45, cl45, Ar45, Sz45, Hs45⟩ := V35
  obtain ⟨T45, h45, X45, e45, W45, st45⟩ := stB X42 hx hZ e42 Ar45 (j := (3 : Int32)) (own_in Sz45 (by decide) rfl (by decide)) (g := (mkF m 45 #[.val (.long x0), .second, .val (.long x1), .second, .val (.int p2), .val (.int p3), .val (.ref b2), .unset, .unset, .unset, .unset] [(.int (f1 x0 x1 (3 : Int32))), (.int (3 : Int32)), (.ref b2)])) rfl rfl (hb hby at_45)
  refine own_to st45 ?_
  have V45 : own_AV Value.int Z h45 b2 .byte 8 (own_upd (own_upd (own_upd (own_upd (fun _ => (0 : Int32)) 0 (nar .byte (f1 x0 x1 (0 : Int32)))) 1 (nar .byte (f1 x0 x1 (1 : Int32)))) 2 (nar .byte (f1 x0 x1 (2 : Int32)))) 3 (nar .byte (f1 x0 x1 (3 : Int32)))) := own_AV.set nn45 Ar45 Sz45 Hs45 W45 rfl
  obtain ⟨lo45, X45, N45⟩ : ∃ lo, Stand p l e _ s m _ below meth c T45 lo _ _ ∧ Fr n0 lo := ⟨_, X45, Fr.snoc X45 N42 g_b2⟩
  show own_Fin p e below G (T45.setTop (mkF m 46 #[.val (.long x0), .second, .val (.long x1), .second, .val (.int p2), .val (.int p3), .val (.ref b2), .unset, .unset, .unset, .unset] []))
  refine own_to (fun _ kz => XS.aload X45.here hx rfl (hb hby at_46) rfl (rfl)  kz) ?_
  show own_Fin p e below G (T45.setTop (mkF m 48 #[.val (.long x0), .second, .val (.long x1), .second, .val (.int p2), .val (.int p3), .val (.ref b2), .unset, .unset, .unset, .unset] [(.ref b2)]))
  refine own_to (fun _ kz => XS.iconst X45.here hx rfl (hb hby at_48) kz) ?_
  show own_Fin p e below G (T45.setTop (mkF m 49 #[.val (.long x0), .second, .val (.long x1), .second, .val (.int p2), .val (.int p3), .val (.ref b2), .unset, .unset, .unset, .unset] [(.int (4 : Int32)), (.ref b2)]))
  refine own_to (fun _ kz => XS.lloadN X45.here hx rfl (hb hby at_49) rfl  kz) ?_
  show own_Fin p e below G (T45.setTop (mkF m 50 #[.val (.long x0), .second, .val (.long x1), .second, .val (.int p2), .val (.int p3), .val (.ref b2), .unset, .unset, .unset, .unset] [(.long x0), (.int (4 : Int32)), (.ref b2)]))
  refine own_to (fun _ kz => XS.lloadN X45.here hx rfl (hb hby at_50) rfl  kz) ?_
  show own_Fin p e below G (T45.setTop (mkF m 51 #[.val (.long x0), .second, .val (.long x1), .second, .val (.int p2), .val (.int p3), .val (.ref b2), .unset, .unset, .unset, .unset] [(.long x1), (.long x0), (.int (4 : Int32)), (.ref b2)]))
  refine own_to (fun _ kz => XS.iconst X45.here hx rfl (hb hby at_51) kz) ?_
  show own_Fin p e below G (T45.setTop (mkF m 52 #[.val (.long x0), .second, .val (.long x1), .second, .val (.int p2), .val (.int p3), .val (.ref b2), .unset, .unset, .unset, .unset] [(.int (4 : Int32)), (.long x1), (.long x0), (.int (4 : Int32)), (.ref b2)]))
  have Zz_52_W45 := Nat.le_trans Z_42 (Nat.le_of_eq (Wr.size W45).symm)
  have Z_52 : n0 ≤ h45.size := Zz_52_W45
  obtain ⟨_, _, ⟨T52, L52, k52, n52⟩, -, X52, ⟨Lc52, hQ52, l52, y52, z52⟩, st52⟩ := Jvm.LawKit.callS X45 hx (y := (⟨"com/example/resync/resync/codec/DelimiterIndexOfByPairsPinLaw", "pick", "(JJI)B"⟩ : MethodName)) hown (mvT hZ (hw _ (List.mem_of_getElem? (i := 1) rfl))) (mvT hZ (hw _ (List.mem_of_getElem? (i := 2) rfl))) (mvT hZ (hw _ (List.mem_of_getElem? (i := 3) rfl))) (mvT hZ (hw _ (List.mem_of_getElem? (i := 4) rfl))) (by decide) (backOf (W := 2) (rm1 l Z a0 hw [] x0 x1 (4 : Int32) h45 n0 Z_52) hZ (hw _ (List.mem_of_getElem? (i := 4) rfl)) (hw _ (List.mem_of_getElem? (i := 3) rfl)) (by decide) (by decide)) (g := (mkF m 52 #[.val (.long x0), .second, .val (.long x1), .second, .val (.int p2), .val (.int p3), .val (.ref b2), .unset, .unset, .unset, .unset] [(.int (4 : Int32)), (.long x1), (.long x0), (.int (4 : Int32)), (.ref b2)])) rfl (by rw [hml]; rfl) (argsL := [(.long x0), (.long x1), (.int (4 : Int32))]) (rest := [(.int (4 : Int32)), (.ref b2)]) (lenOf own_pd0 rfl) rfl (by show 2 * 0 + _ ≤ _; exact Nat.le_of_eq rfl) (hb hby at_52) (fun _ _ => ⟨rfl, e45, (by decide : 1 + 0 ≤ _), (by decide : 8 + 0 ≤ _)⟩)
  dsimp only [Pt.U, Pt.locs, Pt.cells, Pt.slots] at X52 l52 y52 z52 st52 hQ52
  subst l52 y52 z52
  obtain ⟨rfl, N52q, e52⟩ := hQ52
  obtain ⟨lo52, X52, N52⟩ : ∃ lo, Stand p l e _ s m _ below meth c T52 lo _ _ ∧ Fr n0 lo := ⟨_, X52, Fr.app N45 N52q⟩
  refine own_to st52 ?_
  show own_Fin p e below G (T52.setTop (mkF m 55 #[.val (.long x0), .second, .val (.long x1), .second, .val (.int p2), .val (.int p3), .val (.ref b2), .unset, .unset, .unset, .unset] [(.int (f1 x0 x1 (4 : Int32))), (.int (4 : Int32)), (.ref b2)]))
  obtain ⟨nn55, cl55, Ar55, Sz55, Hs55⟩ := V45
  obtain ⟨T55, h55, X55, e55, W55, st55⟩ := stB X52 hx hZ e52 Ar55 (j := (4 : Int32)) (own_in Sz55 (by decide) rfl (by decide)) (g := (mkF m 55 #[.val (.long x0), .second, .val (.long x1), .second, .val (.int p2), .val (.int p3), .val (.ref b2), .unset, .unset, .unset, .unset] [(.int (f1 x0 x1 (4 : Int32))), (.int (4 : Int32)), (.ref b2)])) rfl rfl (hb hby at_55)
  refine own_to st55 ?_
  have V55 : own_AV Value.int Z h55 b2 .byte 8 (own_upd (own_upd (own_upd (own_upd (own_upd (fun _ => (0 : Int32)) 0 (nar .byte (f1 x0 x1 (0 : Int32)))) 1 (nar .byte (f1 x0 x1 (1 : Int32)))) 2 (nar .byte (f1 x0 x1 (2 : Int32)))) 3 (nar .byte (f1 x0 x1 (3 : Int32)))) 4 (nar .byte (f1 x0 x1 (4 : Int32)))) := own_AV.set nn55 Ar55 Sz55 Hs55 W55 rfl
  obtain ⟨lo55, X55, N55⟩ : ∃ lo, Stand p l e _ s m _ below meth c T55 lo _ _ ∧ Fr n0 lo := ⟨_, X55, Fr.snoc X55 N52 g_b2⟩
  show own_Fin p e below G (T55.setTop (mkF m 56 #[.val (.long x0), .second, .val (.long x1), .second, .val (.int p2), .val (.int p3), .val (.ref b2), .unset, .unset, .unset, .unset] []))
  refine own_to (fun _ kz => XS.aload X55.here hx rfl (hb hby at_56) rfl (rfl)  kz) ?_
  show own_Fin p e below G (T55.setTop (mkF m 58 #[.val (.long x0), .second, .val (.long x1), .second, .val (.int p2), .val (.int p3), .val (.ref b2), .unset, .unset, .unset, .unset] [(.ref b2)]))
  refine own_to (fun _ kz => XS.iconst X55.here hx rfl (hb hby at_58) kz) ?_
  show own_Fin p e below G (T55.setTop (mkF m 59 #[.val (.long x0), .second, .val (.long x1), .second, .val (.int p2), .val (.int p3), .val (.ref b2), .unset, .unset, .unset, .unset] [(.int (5 : Int32)), (.ref b2)]))
  refine own_to (fun _ kz => XS.lloadN X55.here hx rfl (hb hby at_59) rfl  kz) ?_
  show own_Fin p e below G (T55.setTop (mkF m 60 #[.val (.long x0), .second, .val (.long x1), .second, .val (.int p2), .val (.int p3), .val (.ref b2), .unset, .unset, .unset, .unset] [(.long x0), (.int (5 : Int32)), (.ref b2)]))
  refine own_to (fun _ kz => XS.lloadN X55.here hx rfl (hb hby at_60) rfl  kz) ?_
  show own_Fin p e below G (T55.setTop (mkF m 61 #[.val (.long x0), .second, .val (.long x1), .second, .val (.int p2), .val (.int p3), .val (.ref b2), .unset, .unset, .unset, .unset] [(.long x1), (.long x0), (.int (5 : Int32)), (.ref b2)]))
  refine own_to (fun _ kz => XS.iconst X55.here hx rfl (hb hby at_61) kz) ?_
  show own_Fin p e below G (T55.setTop (mkF m 62 #[.val (.long x0), .second, .val (.long x1), .second, .val (.int p2), .val (.int p3), .val (.ref b2), .unset, .unset, .unset, .unset] [(.int (5 : Int32)), (.long x1), (.long x0), (.int (5 : Int32)), (.ref b2)]))
  have Zz_62_W55 := Nat.le_trans Z_52 (Nat.le_of_eq (Wr.size W55).symm)
  have Z_62 : n0 ≤ h55.size := Zz_62_W55
  obtain ⟨_, _, ⟨T62, L62, k62, n62⟩, -, X62, ⟨Lc62, hQ62, l62, y62, z62⟩, st62⟩ := Jvm.LawKit.callS X55 hx (y := (⟨"com/example/resync/resync/codec/DelimiterIndexOfByPairsPinLaw", "pick", "(JJI)B"⟩ : MethodName)) hown (mvT hZ (hw _ (List.mem_of_getElem? (i := 1) rfl))) (mvT hZ (hw _ (List.mem_of_getElem? (i := 2) rfl))) (mvT hZ (hw _ (List.mem_of_getElem? (i := 3) rfl))) (mvT hZ (hw _ (List.mem_of_getElem? (i := 4) rfl))) (by decide) (backOf (W := 2) (rm1 l Z a0 hw [] x0 x1 (5 : Int32) h55 n0 Z_62) hZ (hw _ (List.mem_of_getElem? (i := 4) rfl)) (hw _ (List.mem_of_getElem? (i := 3) rfl)) (by decide) (by decide)) (g := (mkF m 62 #[.val (.long x0), .second, .val (.long x1), .second, .val (.int p2), .val (.int p3), .val (.ref b2), .unset, .unset, .unset, .unset] [(.int (5 : Int32)), (.long x1), (.long x0), (.int (5 : Int32)), (.ref b2)])) rfl (by rw [hml]; rfl) (argsL := [(.long x0), (.long x1), (.int (5 : Int32))]) (rest := [(.int (5 : Int32)), (.ref b2)]) (lenOf own_pd0 rfl) rfl (by show 2 * 0 + _ ≤ _; exact Nat.le_of_eq rfl) (hb hby at_62) (fun _ _ => ⟨rfl, e55, (by decide : 1 + 0 ≤ _), (by decide : 8 + 0 ≤ _)⟩)
  dsimp only [Pt.U, Pt.locs, Pt.cells, Pt.slots] at X62 l62 y62 z62 st62 hQ62
  subst l62 y62 z62
  obtain ⟨rfl, N62q, e62⟩ := hQ62
  obtain ⟨lo62, X62, N62⟩ : ∃ lo, Stand p l e _ s m _ below meth c T62 lo _ _ ∧ Fr n0 lo := ⟨_, X62, Fr.app N55 N62q⟩
  refine own_to st62 ?_
  show own_Fin p e below G (T62.setTop (mkF m 65 #[.val (.long x0), .second, .val (.long x1), .second, .val (.int p2), .val (.int p3), .val (.ref b2), .unset, .unset, .unset, .unset] [(.int (f1 x0 x1 (5 : Int32))), (.int (5 : Int32)), (.ref b2)]))
  obtain ⟨nn65, cl65, Ar65, Sz65, Hs65⟩ := V55
  obtain ⟨T65, h65, X65, e65, W65, st65⟩ := stB X62 hx hZ e62 Ar65 (j := (5 : Int32)) (own_in Sz65 (by decide) rfl (by decide)) (g := (mkF m 65 #[.val (.long x0), .second, .val (.long x1), .second, .val (.int p2), .val (.int p3), .val (.ref b2), .unset, .unset, .unset, .unset] [(.int (f1 x0 x1 (5 : Int32))), (.int (5 : Int32)), (.ref b2)])) rfl rfl (hb hby at_65)
  refine own_to st65 ?_
  have V65 : own_AV Value.int Z h65 b2 .byte 8 (own_upd (own_upd (own_upd (own_upd (own_upd (own_upd (fun _ => (0 : Int32)) 0 (nar .byte (f1 x0 x1 (0 : Int32)))) 1 (nar .byte (f1 x0 x1 (1 : Int32)))) 2 (nar .byte (f1 x0 x1 (2 : Int32)))) 3 (nar .byte (f1 x0 x1 (3 : Int32)))) 4 (nar .byte (f1 x0 x1 (4 : Int32)))) 5 (nar .byte (f1 x0 x1 (5 : Int32)))) := own_AV.set nn65 Ar65 Sz65 Hs65 W65 rfl
  obtain ⟨lo65, X65, N65⟩ : ∃ lo, Stand p l e _ s m _ below meth c T65 lo _ _ ∧ Fr n0 lo := ⟨_, X65, Fr.snoc X65 N62 g_b2⟩
  show own_Fin p e below G (T65.setTop (mkF m 66 #[.val (.long x0), .second, .val (.long x1), .second, .val (.int p2), .val (.int p3), .val (.ref b2), .unset, .unset, .unset, .unset] []))
  refine own_to (fun _ kz => XS.aload X65.here hx rfl (hb hby at_66) rfl (rfl)  kz) ?_
  show own_Fin p e below G (T65.setTop (mkF m 68 #[.val (.long x0), .second, .val (.long x1), .second, .val (.int p2), .val (.int p3), .val (.ref b2), .unset, .unset, .unset, .unset] [(.ref b2)]))
  refine own_to (fun _ kz => XS.bipush X65.here hx rfl (hb hby at_68) kz) ?_
  show own_Fin p e below G (T65.setTop (mkF m 70 #[.val (.long x0), .second, .val (.long x1), .second, .val (.int p2), .val (.int p3), .val (.ref b2), .unset, .unset, .unset, .unset] [(.int (6 : Int32)), (.ref b2)]))
  refine own_to (fun _ kz => XS.lloadN X65.here hx rfl (hb hby at_70) rfl  kz) ?_
  show own_Fin p e below G (T65.setTop (mkF m 71 #[.val (.long x0), .second, .val (.long x1), .second, .val (.int p2), .val (.int p3), .val (.ref b2), .unset, .unset, .unset, .unset] [(.long x0), (.int (6 : Int32)), (.ref b2)]))
  refine own_to (fun _ kz => XS.lloadN X65.here hx rfl (hb hby at_71) rfl  kz) ?_
  show own_Fin p e below G (T65.setTop (mkF m 72 #[.val (.long x0), .second, .val (.long x1), .second, .val (.int p2), .val (.int p3), .val (.ref b2), .unset, .unset, .unset, .unset] [(.long x1), (.long x0), (.int (6 : Int32)), (.ref b2)]))
  refine own_to (fun _ kz => XS.bipush X65.here hx rfl (hb hby at_72) kz) ?_
  show own_Fin p e below G (T65.setTop (mkF m 74 #[.val (.long x0), .second, .val (.long x1), .second, .val (.int p2), .val (.int p3), .val (.ref b2), .unset, .unset, .unset, .unset] [(.int (6 : Int32)), (.long x1), (.long x0), (.int (6 : Int32)), (.ref b2)]))
  have Zz_74_W65 := Nat.le_trans Z_62 (Nat.le_of_eq (Wr.size W65).symm)
  have Z_74 : n0 ≤ h65.size := Zz_74_W65
  obtain ⟨_, _, ⟨T74, L74, k74, n74⟩, -, X74, ⟨Lc74, hQ74, l74, y74, z74⟩, st74⟩ := Jvm.LawKit.callS X65 hx (y := (⟨"com/example/resync/resync/codec/DelimiterIndexOfByPairsPinLaw", "pick", "(JJI)B"⟩ : MethodName)) hown (mvT hZ (hw _ (List.mem_of_getElem? (i := 1) rfl))) (mvT hZ (hw _ (List.mem_of_getElem? (i := 2) rfl))) (mvT hZ (hw _ (List.mem_of_getElem? (i := 3) rfl))) (mvT hZ (hw _ (List.mem_of_getElem? (i := 4) rfl))) (by decide) (backOf (W := 2) (rm1 l Z a0 hw [] x0 x1 (6 : Int32) h65 n0 Z_74) hZ (hw _ (List.mem_of_getElem? (i := 4) rfl)) (hw _ (List.mem_of_getElem? (i := 3) rfl)) (by decide) (by decide)) (g := (mkF m 74 #[.val (.long x0), .second, .val (.long x1), .second, .val (.int p2), .val (.int p3), .val (.ref b2), .unset, .unset, .unset, .unset] [(.int (6 : Int32)), (.long x1), (.long x0), (.int (6 : Int32)), (.ref b2)])) rfl (by rw [hml]; rfl) (argsL := [(.long x0), (.long x1), (.int (6 : Int32))]) (rest := [(.int (6 : Int32)), (.ref b2)]) (lenOf own_pd0 rfl) rfl (by show 2 * 0 + _ ≤ _; exact Nat.le_of_eq rfl) (hb hby at_74) (fun _ _ => ⟨rfl, e65, (by decide : 1 + 0 ≤ _), (by decide : 8 + 0 ≤ _)⟩)
  dsimp only [Pt.U, Pt.locs, Pt.cells, Pt.slots] at X74 l74 y74 z74 st74 hQ74
  subst l74 y74 z74
  obtain ⟨rfl, N74q, e74⟩ := hQ74
  obtain ⟨lo74, X74, N74⟩ : ∃ lo, Stand p l e _ s m _ below meth c T74 lo _ _ ∧ Fr n0 lo := ⟨_, X74, Fr.app N65 N74q⟩
  refine own_to st74 ?_
  show own_Fin p e below G (T74.setTop (mkF m 77 #[.val (.long x0), .second, .val (.long x1), .second, .val (.int p2), .val (.int p3), .val (.ref b2), .unset, .unset, .unset, .unset] [(.int (f1 x0 x1 (6 : Int32))), (.int (6 : Int32)), (.ref b2)]))
  obtain ⟨nn77, cl77, Ar77, Sz77, Hs77⟩ := V65
  obtain ⟨T77, h77, X77, e77, W77, st77⟩ := stB X74 hx hZ e74 Ar77 (j := (6 : Int32)) (own_in Sz77 (by decide) rfl (by decide)) (g := (mkF m 77 #[.val (.long x0), .second, .val (.long x1), .second, .val (.int p2), .val (.int p3), .val (.ref b2), .unset, .unset, .unset, .unset] [(.int (f1 x0 x1 (6 : Int32))), (.int (6 : Int32)), (.ref b2)])) rfl rfl (hb hby at_77)
  refine own_to st77 ?_
  have V77 : own_AV Value.int Z h77 b2 .byte 8 (own_upd (own_upd (own_upd (own_upd (own_upd (own_upd (own_upd (fun _ => (0 : Int32)) 0 (nar .byte (f1 x0 x1 (0 : Int32)))) 1 (nar .byte (f1 x0 x1 (1 : Int32)))) 2 (nar .byte (f1 x0 x1 (2 : Int32)))) 3 (nar .byte (f1 x0 x1 (3 : Int32)))) 4 (nar .byte (f1 x0 x1 (4 : Int32)))) 5 (nar .byte (f1 x0 x1 (5 : Int32)))) 6 (nar .byte (f1 x0 x1 (6 : Int32)))) := own_AV.set nn77 Ar77 Sz77 Hs77 W77 rfl
  obtain ⟨lo77, X77, N77⟩ : ∃ lo, Stand p l e _ s m _ below meth c T77 lo _ _ ∧ Fr n0 lo := ⟨_, X77, Fr.snoc X77 N74 g_b2⟩
  show own_Fin p e below G (T77.setTop (mkF m 78 #[.val (.long x0), .second, .val (.long x1), .second, .val (.int p2), .val (.int p3), .val (.ref b2), .unset, .unset, .unset, .unset] []))
  refine own_to (fun _ kz => XS.aload X77.here hx rfl (hb hby at_78) rfl (rfl)  kz) ?_
  show own_Fin p e below G (T77.setTop (mkF m 80 #[.val (.long x0), .second, .val (.long x1), .second, .val (.int p2), .val (.int p3), .val (.ref b2), .unset, .unset, .unset, .unset] [(.ref b2)]))
  refine own_to (fun _ kz => XS.bipush X77.here hx rfl (hb hby at_80) kz) ?_
  show own_Fin p e below G (T77.setTop (mkF m 82 #[.val (.long x0), .second, .val (.long x1), .second, .val (.int p2), .val (.int p3), .val (.ref b2), .unset, .unset, .unset, .unset] [(.int (7 : Int32)), (.ref b2)]))
  refine own_to (fun _ kz => XS.lloadN X77.here hx rfl (hb hby at_82) rfl  kz) ?_
  show own_Fin p e below G (T77.setTop (mkF m 83 #[.val (.long x0), .second, .val (.long x1), .second, .val (.int p2), .val (.int p3), .val (.ref b2), .unset, .unset, .unset, .unset] [(.long x0), (.int (7 : Int32)), (.ref b2)]))
  refine own_to (fun _ kz => XS.lloadN X77.here hx rfl (hb hby at_83) rfl  kz) ?_
  show own_Fin p e below G (T77.setTop (mkF m 84 #[.val (.long x0), .second, .val (.long x1), .second, .val (.int p2), .val (.int p3), .val (.ref b2), .unset, .unset, .unset, .unset] [(.long x1), (.long x0), (.int (7 : Int32)), (.ref b2)]))
  refine own_to (fun _ kz => XS.bipush X77.here hx rfl (hb hby at_84) kz) ?_
  show own_Fin p e below G (T77.setTop (mkF m 86 #[.val (.long x0), .second, .val (.long x1), .second, .val (.int p2), .val (.int p3), .val (.ref b2), .unset, .unset, .unset, .unset] [(.int (7 : Int32)), (.long x1), (.long x0), (.int (7 : Int32)), (.ref b2)]))
  have Zz_86_W77 := Nat.le_trans Z_74 (Nat.le_of_eq (Wr.size W77).symm)
  have Z_86 : n0 ≤ h77.size := Zz_86_W77
  obtain ⟨_, _, ⟨T86, L86, k86, n86⟩, -, X86, ⟨Lc86, hQ86, l86, y86, z86⟩, st86⟩ := Jvm.LawKit.callS X77 hx (y := (⟨"com/example/resync/resync/codec/DelimiterIndexOfByPairsPinLaw", "pick", "(JJI)B"⟩ : MethodName)) hown (mvT hZ (hw _ (List.mem_of_getElem? (i := 1) rfl))) (mvT hZ (hw _ (List.mem_of_getElem? (i := 2) rfl))) (mvT hZ (hw _ (List.mem_of_getElem? (i := 3) rfl))) (mvT hZ (hw _ (List.mem_of_getElem? (i := 4) rfl))) (by decide) (backOf (W := 2) (rm1 l Z a0 hw [] x0 x1 (7 : Int32) h77 n0 Z_86) hZ (hw _ (List.mem_of_getElem? (i := 4) rfl)) (hw _ (List.mem_of_getElem? (i := 3) rfl)) (by decide) (by decide)) (g := (mkF m 86 #[.val (.long x0), .second, .val (.long x1), .second, .val (.int p2), .val (.int p3), .val (.ref b2), .unset, .unset, .unset, .unset] [(.int (7 : Int32)), (.long x1), (.long x0), (.int (7 : Int32)), (.ref b2)])) rfl (by rw [hml]; rfl) (argsL := [(.long x0), (.long x1), (.int (7 : Int32))]) (rest := [(.int (7 : Int32)), (.ref b2)]) (lenOf own_pd0 rfl) rfl (by show 2 * 0 + _ ≤ _; exact Nat.le_of_eq rfl) (hb hby at_86) (fun _ _ => ⟨rfl, e77, (by decide : 1 + 0 ≤ _), (by decide : 8 + 0 ≤ _)⟩)
  dsimp only [Pt.U, Pt.locs, Pt.cells, Pt.slots] at X86 l86 y86 z86 st86 hQ86
  subst l86 y86 z86
  obtain ⟨rfl, N86q, e86⟩ := hQ86
  obtain ⟨lo86, X86, N86⟩ : ∃ lo, Stand p l e _ s m _ below meth c T86 lo _ _ ∧ Fr n0 lo := ⟨_, X86, Fr.app N77 N86q⟩
  refine own_to st86 ?_
  show own_Fin p e below G (T86.setTop (mkF m 89 #[.val (.long x0), .second, .val (.long x1), .second, .val (.int p2), .val (.int p3), .val (.ref b2), .unset, .unset, .unset, .unset] [(.int (f1 x0 x1 (7 : Int32))), (.int (7 : Int32)), (.ref b2)]))
  obtain ⟨nn89, cl89, Ar89, Sz89, Hs89⟩ := V77
  obtain ⟨T89, h89, X89, e89, W89, st89⟩ := stB X86 hx hZ e86 Ar89 (j := (7 : Int32)) (own_in Sz89 (by decide) rfl (by decide)) (g := (mkF m 89 #[.val (.long x0), .second, .val (.long x1), .second, .val (.int p2), .val (.int p3), .val (.ref b2), .unset, .unset, .unset, .unset] [(.int (f1 x0 x1 (7 : Int32))), (.int (7 : Int32)), (.ref b2)])) rfl rfl (hb hby at_89)
  refine own_to st89 ?_
  have V89 : own_AV Value.int Z h89 b2 .byte 8 (own_upd (own_upd (own_upd (own_upd (own_upd (own_upd (own_upd (own_upd (fun _ => (0 : Int32)) 0 (nar .byte (f1 x0 x1 (0 : Int32)))) 1 (nar .byte (f1 x0 x1 (1 : Int32)))) 2 (nar .byte (f1 x0 x1 (2 : Int32)))) 3 (nar .byte (f1 x0 x1 (3 : Int32)))) 4 (nar .byte (f1 x0 x1 (4 : Int32)))) 5 (nar .byte (f1 x0 x1 (5 : Int32)))) 6 (nar .byte (f1 x0 x1 (6 : Int32)))) 7 (nar .byte (f1 x0 x1 (7 : Int32)))) := own_AV.set nn89 Ar89 Sz89 Hs89 W89 rfl
  obtain ⟨lo89, X89, N89⟩ : ∃ lo, Stand p l e _ s m _ below meth c T89 lo _ _ ∧ Fr n0 lo := ⟨_, X89, Fr.snoc X89 N86 g_b2⟩
  obtain ⟨bs, Vb89⟩ : ∃ f, own_AV Value.int Z h89 b2 .byte 8 f := ⟨_, V89⟩
  show own_Fin p e below G (T89.setTop (mkF m 90 #[.val (.long x0), .second, .val (.long x1), .second, .val (.int p2), .val (.int p3), .val (.ref b2), .unset, .unset, .unset, .unset] []))
  refine own_to (fun _ kz => XS.iload X89.here hx rfl (hb hby at_90) rfl  kz) ?_
  show own_Fin p e below G (T89.setTop (mkF m 92 #[.val (.long x0), .second, .val (.long x1), .second, .val (.int p2), .val (.int p3), .val (.ref b2), .unset, .unset, .unset, .unset] [(.int p2)]))
  refine own_to (fun _ kz => X89.ldcInt hx hown (mvT hZ (hw _ (List.mem_of_getElem? (i := 5) rfl))) (g := (mkF m 92 #[.val (.long x0), .second, .val (.long x1), .second, .val (.int p2), .val (.int p3), .val (.ref b2), .unset, .unset, .unset, .unset] [(.int p2)])) rfl (hb hby at_92) _ kz) ?_
  show own_Fin p e below G (T89.setTop (mkF m 94 #[.val (.long x0), .second, .val (.long x1), .second, .val (.int p2), .val (.int p3), .val (.ref b2), .unset, .unset, .unset, .unset] [(.int (2147483647 : Int32)), (.int p2)]))
  refine own_to (fun _ kz => XS.iand X89.here hx rfl (hb hby at_94) rfl kz) ?_
  show own_Fin p e below G (T89.setTop (mkF m 95 #[.val (.long x0), .second, .val (.long x1), .second, .val (.int p2), .val (.int p3), .val (.ref b2), .unset, .unset, .unset, .unset] [(.int (p2 &&& (2147483647 : Int32)))]))
  refine own_to (fun _ kz => XS.bipush X89.here hx rfl (hb hby at_95) kz) ?_
  show own_Fin p e below G (T89.setTop (mkF m 97 #[.val (.long x0), .second, .val (.long x1), .second, .val (.int p2), .val (.int p3), .val (.ref b2), .unset, .unset, .unset, .unset] [(.int (9 : Int32)), (.int (p2 &&& (2147483647 : Int32)))]))
  refine own_to (fun _ kz => iremM X89 hx rfl (hb hby at_97) rfl (by decide) kz) ?_
  show own_Fin p e below G (T89.setTop (mkF m 98 #[.val (.long x0), .second, .val (.long x1), .second, .val (.int p2), .val (.int p3), .val (.ref b2), .unset, .unset, .unset, .unset] [(.int ((p2 &&& (2147483647 : Int32)) % (9 : Int32)))]))
  refine own_to (fun _ kz => XS.istore X89.here hx rfl (hb hby at_98) rfl (l' := #[.val (.long x0), .second, .val (.long x1), .second, .val (.int p2), .val (.int p3), .val (.ref b2), .val (.int ((p2 &&& (2147483647 : Int32)) % (9 : Int32))), .unset, .unset, .unset]) rfl kz) ?_
  show own_Fin p e below G (T89.setTop (mkF m 100 #[.val (.long x0), .second, .val (.long x1), .second, .val (.int p2), .val (.int p3), .val (.ref b2), .val (.int ((p2 &&& (2147483647 : Int32)) % (9 : Int32))), .unset, .unset, .unset] []))
  have K100 : ∀ (v7_100 : Int32) (jh0_100 : 0 ≤ v7_100.toInt ∧ v7_100.toInt ≤ 8), own_Fin p e below G (T89.setTop (mkF m 100 #[.val (.long x0), .second, .val (.long x1), .second, .val (.int p2), .val (.int p3), .val (.ref b2), .val (.int v7_100), .unset, .unset, .unset] [])) := by
    intro v7_100 jh0_100
    refine own_to (fun _ kz => XS.iload X89.here hx rfl (hb hby at_100) rfl  kz) ?_
    show own_Fin p e below G (T89.setTop (mkF m 102 #[.val (.long x0), .second, .val (.long x1), .second, .val (.int p2), .val (.int p3), .val (.ref b2), .val (.int v7_100), .unset, .unset, .unset] [(.int v7_100)]))
    refine own_to (fun _ kz => XS.iload X89.here hx rfl (hb hby at_102) rfl  kz) ?_
    show own_Fin p e below G (T89.setTop (mkF m 104 #[.val (.long x0), .second, .val (.long x1), .second, .val (.int p2), .val (.int p3), .val (.ref b2), .val (.int v7_100), .unset, .unset, .unset] [(.int p3), (.int v7_100)]))
    refine own_to (fun _ kz => X89.ldcInt hx hown (mvT hZ (hw _ (List.mem_of_getElem? (i := 5) rfl))) (g := (mkF m 104 #[.val (.long x0), .second, .val (.long x1), .second, .val (.int p2), .val (.int p3), .val (.ref b2), .val (.int v7_100), .unset, .unset, .unset] [(.int p3), (.int v7_100)])) rfl (hb hby at_104) _ kz) ?_
    show own_Fin p e below G (T89.setTop (mkF m 106 #[.val (.long x0), .second, .val (.long x1), .second, .val (.int p2), .val (.int p3), .val (.ref b2), .val (.int v7_100), .unset, .unset, .unset] [(.int (2147483647 : Int32)), (.int p3), (.int v7_100)]))
    refine own_to (fun _ kz => XS.iand X89.here hx rfl (hb hby at_106) rfl kz) ?_
    show own_Fin p e below G (T89.setTop (mkF m 107 #[.val (.long x0), .second, .val (.long x1), .second, .val (.int p2), .val (.int p3), .val (.ref b2), .val (.int v7_100), .unset, .unset, .unset] [(.int (p3 &&& (2147483647 : Int32))), (.int v7_100)]))
    refine own_to (fun _ kz => XS.bipush X89.here hx rfl (hb hby at_107) kz) ?_
    show own_Fin p e below G (T89.setTop (mkF m 109 #[.val (.long x0), .second, .val (.long x1), .second, .val (.int p2), .val (.int p3), .val (.ref b2), .val (.int v7_100), .unset, .unset, .unset] [(.int (9 : Int32)), (.int (p3 &&& (2147483647 : Int32))), (.int v7_100)]))
    refine own_to (fun _ kz => XS.iload X89.here hx rfl (hb hby at_109) rfl  kz) ?_
    show own_Fin p e below G (T89.setTop (mkF m 111 #[.val (.long x0), .second, .val (.long x1), .second, .val (.int p2), .val (.int p3), .val (.ref b2), .val (.int v7_100), .unset, .unset, .unset] [(.int v7_100), (.int (9 : Int32)), (.int (p3 &&& (2147483647 : Int32))), (.int v7_100)]))
    refine own_to (fun _ kz => XS.isub X89.here hx rfl (hb hby at_111) rfl kz) ?_
    show own_Fin p e below G (T89.setTop (mkF m 112 #[.val (.long x0), .second, .val (.long x1), .second, .val (.int p2), .val (.int p3), .val (.ref b2), .val (.int v7_100), .unset, .unset, .unset] [(.int ((9 : Int32) - v7_100)), (.int (p3 &&& (2147483647 : Int32))), (.int v7_100)]))
    refine own_to (fun _ kz => iremM X89 hx rfl (hb hby at_112) rfl (own_nz9 jh0_100) kz) ?_
    show own_Fin p e below G (T89.setTop (mkF m 113 #[.val (.long x0), .second, .val (.long x1), .second, .val (.int p2), .val (.int p3), .val (.ref b2), .val (.int v7_100), .unset, .unset, .unset] [(.int ((p3 &&& (2147483647 : Int32)) % ((9 : Int32) - v7_100))), (.int v7_100)]))
    refine own_to (fun _ kz => XS.iadd X89.here hx rfl (hb hby at_113) rfl kz) ?_
    show own_Fin p e below G (T89.setTop (mkF m 114 #[.val (.long x0), .second, .val (.long x1), .second, .val (.int p2), .val (.int p3), .val (.ref b2), .val (.int v7_100), .unset, .unset, .unset] [(.int (v7_100 + ((p3 &&& (2147483647 : Int32)) % ((9 : Int32) - v7_100))))]))
    refine own_to (fun _ kz => XS.istore X89.here hx rfl (hb hby at_114) rfl (l' := #[.val (.long x0), .second, .val (.long x1), .second, .val (.int p2), .val (.int p3), .val (.ref b2), .val (.int v7_100), .val (.int (v7_100 + ((p3 &&& (2147483647 : Int32)) % ((9 : Int32) - v7_100)))), .unset, .unset]) rfl kz) ?_
    show own_Fin p e below G (T89.setTop (mkF m 116 #[.val (.long x0), .second, .val (.long x1), .second, .val (.int p2), .val (.int p3), .val (.ref b2), .val (.int v7_100), .val (.int (v7_100 + ((p3 &&& (2147483647 : Int32)) % ((9 : Int32) - v7_100)))), .unset, .unset] []))
    have K116 : ∀ (v7_116 : Int32) (v8_116 : Int32) (jh0_116 : 0 ≤ v7_116.toInt ∧ v7_116.toInt ≤ v8_116.toInt ∧ v8_116.toInt ≤ 8), own_Fin p e below G (T89.setTop (mkF m 116 #[.val (.long x0), .second, .val (.long x1), .second, .val (.int p2), .val (.int p3), .val (.ref b2), .val (.int v7_116), .val (.int v8_116), .unset, .unset] [])) := by
      intro v7_116 v8_116 jh0_116
      refine own_to (fun _ kz => XS.aload X89.here hx rfl (hb hby at_116) rfl (rfl)  kz) ?_
      show own_Fin p e below G (T89.setTop (mkF m 118 #[.val (.long x0), .second, .val (.long x1), .second, .val (.int p2), .val (.int p3), .val (.ref b2), .val (.int v7_116), .val (.int v8_116), .unset, .unset] [(.ref b2)]))
      refine own_to (fun _ kz => XS.iconst X89.here hx rfl (hb hby at_118) kz) ?_
      show own_Fin p e below G (T89.setTop (mkF m 119 #[.val (.long x0), .second, .val (.long x1), .second, .val (.int p2), .val (.int p3), .val (.ref b2), .val (.int v7_116), .val (.int v8_116), .unset, .unset] [(.int (0 : Int32)), (.ref b2)]))
      refine own_to (fun _ kz => XS.iload X89.here hx rfl (hb hby at_119) rfl  kz) ?_
      show own_Fin p e below G (T89.setTop (mkF m 121 #[.val (.long x0), .second, .val (.long x1), .second, .val (.int p2), .val (.int p3), .val (.ref b2), .val (.int v7_116), .val (.int v8_116), .unset, .unset] [(.int v7_116), (.int (0 : Int32)), (.ref b2)]))
      refine own_to (fun _ kz => XS.iload X89.here hx rfl (hb hby at_121) rfl  kz) ?_
      show own_Fin p e below G (T89.setTop (mkF m 123 #[.val (.long x0), .second, .val (.long x1), .second, .val (.int p2), .val (.int p3), .val (.ref b2), .val (.int v7_116), .val (.int v8_116), .unset, .unset] [(.int v8_116), (.int v7_116), (.int (0 : Int32)), (.ref b2)]))
      have Zz_123_W89 := Nat.le_trans Z_86 (Nat.le_of_eq (Wr.size W89).symm)
      have Z_123 : n0 ≤ h89.size := Zz_123_W89
      obtain ⟨_, _, ⟨T123, L123, k123, n123⟩, -, X123, ⟨Lc123, hQ123, l123, y123, z123⟩, st123⟩ := Jvm.LawKit.callS X89 hx (y := (⟨"com/example/resync/resync/codec/DelimiterIndexOfByPairsPinLaw", "at", "([BIII)Z"⟩ : MethodName)) hown (mvT hZ (hw _ (List.mem_of_getElem? (i := 6) rfl))) (mvT hZ (hw _ (List.mem_of_getElem? (i := 7) rfl))) (mvT hZ (hw _ (List.mem_of_getElem? (i := 3) rfl))) (mvT hZ (hw _ (List.mem_of_getElem? (i := 8) rfl))) (by decide) (backOf (W := 0) (rm2 l Z a0 hw [] b2 (0 : Int32) v7_116 v8_116 bs h89 n0 Z_123 Vb89 (by decide) (by decide) (by decide) (by decide)) hZ (hw _ (List.mem_of_getElem? (i := 8) rfl)) (hw _ (List.mem_of_getElem? (i := 3) rfl)) (by decide) (by decide)) (g := (mkF m 123 #[.val (.long x0), .second, .val (.long x1), .second, .val (.int p2), .val (.int p3), .val (.ref b2), .val (.int v7_116), .val (.int v8_116), .unset, .unset] [(.int v8_116), (.int v7_116), (.int (0 : Int32)), (.ref b2)])) rfl (by rw [hml]; rfl) (argsL := [(.ref b2), (.int (0 : Int32)), (.int v7_116), (.int v8_116)]) (rest := []) (lenOf own_pd1 rfl) rfl (by show 2 * 0 + _ ≤ _; exact Nat.le_of_eq rfl) (hb hby at_123) (fun _ _ => ⟨rfl, e89, (by decide : 1 + 0 ≤ _), (by decide : 8 + 0 ≤ _)⟩)
      dsimp only [Pt.U, Pt.locs, Pt.cells, Pt.slots] at X123 l123 y123 z123 st123 hQ123
      subst l123 y123 z123
      obtain ⟨rfl, N123q, e123⟩ := hQ123
      obtain ⟨lo123, X123, N123⟩ : ∃ lo, Stand p l e _ s m _ below meth c T123 lo _ _ ∧ Fr n0 lo := ⟨_, X123, Fr.app N89 N123q⟩
      refine own_to st123 ?_
      show own_Fin p e below G (T123.setTop (mkF m 126 #[.val (.long x0), .second, .val (.long x1), .second, .val (.int p2), .val (.int p3), .val (.ref b2), .val (.int v7_116), .val (.int v8_116), .unset, .unset] [(.int (f2 (0 : Int32) v7_116 v8_116 bs))]))
      have K254 : ∀ (v9_254 : Int32) (T_j254 : State) (locs_j254 : List Loc) (N_j254 : Fr n0 locs_j254) (X_j254 : Stand p l e room_1 s m #[(.long x0), (.long x1), (.int p2), (.int p3)] below meth c T_j254 locs_j254 1 8) (e_j254 : T_j254.heap = h89) (jh0_254 : own_idx bs v7_116.toInt v8_116.toInt v9_254), own_Fin p e below G (T_j254.setTop (mkF m 254 #[.val (.long x0), .second, .val (.long x1), .second, .val (.int p2), .val (.int p3), .val (.ref b2), .val (.int v7_116), .val (.int v8_116), .val (.int v9_254), .unset] [])) := by
        intro v9_254 T_j254 locs_j254 N_j254 X_j254 e_j254 jh0_254
        refine own_to (fun _ kz => XS.aload X_j254.here hx rfl (hb hby at_254) rfl (rfl)  kz) ?_
        show own_Fin p e below G (T_j254.setTop (mkF m 256 #[.val (.long x0), .second, .val (.long x1), .second, .val (.int p2), .val (.int p3), .val (.ref b2), .val (.int v7_116), .val (.int v8_116), .val (.int v9_254), .unset] [(.ref b2)]))
        refine own_to (fun _ kz => XS.iload X_j254.here hx rfl (hb hby at_256) rfl  kz) ?_
        show own_Fin p e below G (T_j254.setTop (mkF m 258 #[.val (.long x0), .second, .val (.long x1), .second, .val (.int p2), .val (.int p3), .val (.ref b2), .val (.int v7_116), .val (.int v8_116), .val (.int v9_254), .unset] [(.int v7_116), (.ref b2)]))
        refine own_to (fun _ kz => XS.iload X_j254.here hx rfl (hb hby at_258) rfl  kz) ?_
        show own_Fin p e below G (T_j254.setTop (mkF m 260 #[.val (.long x0), .second, .val (.long x1), .second, .val (.int p2), .val (.int p3), .val (.ref b2), .val (.int v7_116), .val (.int v8_116), .val (.int v9_254), .unset] [(.int v8_116), (.int v7_116), (.ref b2)]))
        obtain ⟨_, _, ⟨T260, L260, k260, n260⟩, -, X260, ⟨Lc260, hQ260, l260, y260, z260⟩, st260⟩ := Jvm.LawKit.callS X_j254 hx (y := (⟨"com/example/resync/resync/codec/Delimiter", "indexOfByPairs", "([BII)I"⟩ : MethodName)) hown (mvT hZ (hw _ (List.mem_of_getElem? (i := 9) rfl))) (mvT hZ (hw _ (List.mem_of_getElem? (i := 10) rfl))) (mvT hZ (hw _ (List.mem_of_getElem? (i := 11) rfl))) (mvT hZ (hw _ (List.mem_of_getElem? (i := 12) rfl))) (by decide) (backOf (W := 0) (rm3 l Z a0 hw [] b2 v7_116 v8_116 bs h89 n0 Z_123 Vb89 jh0_116.1 (Int.le_trans jh0_116.2.1 jh0_116.2.2) jh0_116.2.2) hZ (hw _ (List.mem_of_getElem? (i := 12) rfl)) (hw _ (List.mem_of_getElem? (i := 11) rfl)) (by decide) (by decide)) (g := (mkF m 260 #[.val (.long x0), .second, .val (.long x1), .second, .val (.int p2), .val (.int p3), .val (.ref b2), .val (.int v7_116), .val (.int v8_116), .val (.int v9_254), .unset] [(.int v8_116), (.int v7_116), (.ref b2)])) rfl (by rw [hml]; rfl) (argsL := [(.ref b2), (.int v7_116), (.int v8_116)]) (rest := []) (lenOf own_pd2 rfl) rfl (by show 2 * 0 + _ ≤ _; exact Nat.le_of_eq rfl) (hb hby at_260) (fun _ _ => ⟨rfl, e_j254, (by decide : 1 + 0 ≤ _), (by decide : 8 + 0 ≤ _)⟩)
        dsimp only [Pt.U, Pt.locs, Pt.cells, Pt.slots] at X260 l260 y260 z260 st260 hQ260
        subst l260 y260 z260
        obtain ⟨⟨r260, rfl, hr260⟩, N260q, e260⟩ := hQ260
        obtain ⟨lo260, X260, N260⟩ : ∃ lo, Stand p l e _ s m _ below meth c T260 lo _ _ ∧ Fr n0 lo := ⟨_, X260, Fr.app N_j254 N260q⟩
        refine own_to st260 ?_
        show own_Fin p e below G (T260.setTop (mkF m 263 #[.val (.long x0), .second, .val (.long x1), .second, .val (.int p2), .val (.int p3), .val (.ref b2), .val (.int v7_116), .val (.int v8_116), .val (.int v9_254), .unset] [(.int r260)]))
        refine own_to (fun _ kz => XS.istore X260.here hx rfl (hb hby at_263) rfl (l' := #[.val (.long x0), .second, .val (.long x1), .second, .val (.int p2), .val (.int p3), .val (.ref b2), .val (.int v7_116), .val (.int v8_116), .val (.int v9_254), .val (.int r260)]) rfl kz) ?_
        show own_Fin p e below G (T260.setTop (mkF m 265 #[.val (.long x0), .second, .val (.long x1), .second, .val (.int p2), .val (.int p3), .val (.ref b2), .val (.int v7_116), .val (.int v8_116), .val (.int v9_254), .val (.int r260)] []))
        refine own_to (fun _ kz => XS.iload X260.here hx rfl (hb hby at_265) rfl  kz) ?_
        show own_Fin p e below G (T260.setTop (mkF m 267 #[.val (.long x0), .second, .val (.long x1), .second, .val (.int p2), .val (.int p3), .val (.ref b2), .val (.int v7_116), .val (.int v8_116), .val (.int v9_254), .val (.int r260)] [(.int r260)]))
        refine own_to (fun _ kz => XS.iload X260.here hx rfl (hb hby at_267) rfl  kz) ?_
        show own_Fin p e below G (T260.setTop (mkF m 269 #[.val (.long x0), .second, .val (.long x1), .second, .val (.int p2), .val (.int p3), .val (.ref b2), .val (.int v7_116), .val (.int v8_116), .val (.int v9_254), .val (.int r260)] [(.int v9_254), (.int r260)]))
        have hc269 : r260 = v9_254 := own_uni hr260 jh0_254
        refine own_to (fun _ kz => XS.icmpNo X260.here hx rfl (hb hby at_269) rfl (teq hc269).2 kz) ?_
        show own_Fin p e below G (T260.setTop (mkF m 272 #[.val (.long x0), .second, .val (.long x1), .second, .val (.int p2), .val (.int p3), .val (.ref b2), .val (.int v7_116), .val (.int v8_116), .val (.int v9_254), .val (.int r260)] []))
        refine own_to (fun _ kz => XS.iconst X260.here hx rfl (hb hby at_272) kz) ?_
        show own_Fin p e below G (T260.setTop (mkF m 273 #[.val (.long x0), .second, .val (.long x1), .second, .val (.int p2), .val (.int p3), .val (.ref b2), .val (.int v7_116), .val (.int v8_116), .val (.int v9_254), .val (.int r260)] [(.int (1 : Int32))]))
        refine own_to (fun _ kz => XS.goto X260.here hx rfl (pc0 := 273) (pc' := 277) rfl (hb hby at_273) (by decide) (by decide) kz) ?_
        show own_Fin p e below G (T260.setTop (mkF m 277 #[.val (.long x0), .second, .val (.long x1), .second, .val (.int p2), .val (.int p3), .val (.ref b2), .val (.int v7_116), .val (.int v8_116), .val (.int v9_254), .val (.int r260)] [(.int (1 : Int32))]))
        exact own_retN X260 hx hlk hG (t := .boolean) Bd.returns (by simp) (hb hby at_277) (by decide) (by decide) (by rw [e260]; exact ⟨rfl, N260, trivial⟩)
      by_cases hc126 : (f2 (0 : Int32) v7_116 v8_116 bs) = (0 : Int32)
      · refine own_to (fun _ kz => XS.ifYes X123.here hx rfl (pc0 := 126) (pc' := 135) rfl (hb hby at_126) rfl ((if0 _ _).trans (teq hc126).1) (by decide) (by decide) kz) ?_
        show own_Fin p e below G (T123.setTop (mkF m 135 #[.val (.long x0), .second, .val (.long x1), .second, .val (.int p2), .val (.int p3), .val (.ref b2), .val (.int v7_116), .val (.int v8_116), .unset, .unset] []))
        refine own_to (fun _ kz => XS.aload X123.here hx rfl (hb hby at_135) rfl (rfl)  kz) ?_
        show own_Fin p e below G (T123.setTop (mkF m 137 #[.val (.long x0), .second, .val (.long x1), .second, .val (.int p2), .val (.int p3), .val (.ref b2), .val (.int v7_116), .val (.int v8_116), .unset, .unset] [(.ref b2)]))
        refine own_to (fun _ kz => XS.iconst X123.here hx rfl (hb hby at_137) kz) ?_
        show own_Fin p e below G (T123.setTop (mkF m 138 #[.val (.long x0), .second, .val (.long x1), .second, .val (.int p2), .val (.int p3), .val (.ref b2), .val (.int v7_116), .val (.int v8_116), .unset, .unset] [(.int (1 : Int32)), (.ref b2)]))
        refine own_to (fun _ kz => XS.iload X123.here hx rfl (hb hby at_138) rfl  kz) ?_
        show own_Fin p e below G (T123.setTop (mkF m 140 #[.val (.long x0), .second, .val (.long x1), .second, .val (.int p2), .val (.int p3), .val (.ref b2), .val (.int v7_116), .val (.int v8_116), .unset, .unset] [(.int v7_116), (.int (1 : Int32)), (.ref b2)]))
        refine own_to (fun _ kz => XS.iload X123.here hx rfl (hb hby at_140) rfl  kz) ?_
        show own_Fin p e below G (T123.setTop (mkF m 142 #[.val (.long x0), .second, .val (.long x1), .second, .val (.int p2), .val (.int p3), .val (.ref b2), .val (.int v7_116), .val (.int v8_116), .unset, .unset] [(.int v8_116), (.int v7_116), (.int (1 : Int32)), (.ref b2)]))
        obtain ⟨_, _, ⟨T142, L142, k142, n142⟩, -, X142, ⟨Lc142, hQ142, l142, y142, z142⟩, st142⟩ := Jvm.LawKit.callS X123 hx (y := (⟨"com/example/resync/resync/codec/DelimiterIndexOfByPairsPinLaw", "at", "([BIII)Z"⟩ : MethodName)) hown (mvT hZ (hw _ (List.mem_of_getElem? (i := 6) rfl))) (mvT hZ (hw _ (List.mem_of_getElem? (i := 7) rfl))) (mvT hZ (hw _ (List.mem_of_getElem? (i := 3) rfl))) (mvT hZ (hw _ (List.mem_of_getElem? (i := 8) rfl))) (by decide) (backOf (W := 0) (rm2 l Z a0 hw [] b2 (1 : Int32) v7_116 v8_116 bs h89 n0 Z_123 Vb89 (by decide) (by decide) (by decide) (by decide)) hZ (hw _ (List.mem_of_getElem? (i := 8) rfl)) (hw _ (List.mem_of_getElem? (i := 3) rfl)) (by decide) (by decide)) (g := (mkF m 142 #[.val (.long x0), .second, .val (.long x1), .second, .val (.int p2), .val (.int p3), .val (.ref b2), .val (.int v7_116), .val (.int v8_116), .unset, .unset] [(.int v8_116), (.int v7_116), (.int (1 : Int32)), (.ref b2)])) rfl (by rw [hml]; rfl) (argsL := [(.ref b2), (.int (1 : Int32)), (.int v7_116), (.int v8_116)]) (rest := []) (lenOf own_pd1 rfl) rfl (by show 2 * 0 + _ ≤ _; exact Nat.le_of_eq rfl) (hb hby at_142) (fun _ _ => ⟨rfl, e123, (by decide : 1 + 0 ≤ _), (by decide : 8 + 0 ≤ _)⟩)
        dsimp only [Pt.U, Pt.locs, Pt.cells, Pt.slots] at X142 l142 y142 z142 st142 hQ142
        subst l142 y142 z142
        obtain ⟨rfl, N142q, e142⟩ := hQ142
        obtain ⟨lo142, X142, N142⟩ : ∃ lo, Stand p l e _ s m _ below meth c T142 lo _ _ ∧ Fr n0 lo := ⟨_, X142, Fr.app N123 N142q⟩
        refine own_to st142 ?_
        show own_Fin p e below G (T142.setTop (mkF m 145 #[.val (.long x0), .second, .val (.long x1), .second, .val (.int p2), .val (.int p3), .val (.ref b2), .val (.int v7_116), .val (.int v8_116), .unset, .unset] [(.int (f2 (1 : Int32) v7_116 v8_116 bs))]))
        by_cases hc145 : (f2 (1 : Int32) v7_116 v8_116 bs) = (0 : Int32)
        · refine own_to (fun _ kz => XS.ifYes X142.here hx rfl (pc0 := 145) (pc' := 154) rfl (hb hby at_145) rfl ((if0 _ _).trans (teq hc145).1) (by decide) (by decide) kz) ?_
          show own_Fin p e below G (T142.setTop (mkF m 154 #[.val (.long x0), .second, .val (.long x1), .second, .val (.int p2), .val (.int p3), .val (.ref b2), .val (.int v7_116), .val (.int v8_116), .unset, .unset] []))
          refine own_to (fun _ kz => XS.aload X142.here hx rfl (hb hby at_154) rfl (rfl)  kz) ?_
          show own_Fin p e below G (T142.setTop (mkF m 156 #[.val (.long x0), .second, .val (.long x1), .second, .val (.int p2), .val (.int p3), .val (.ref b2), .val (.int v7_116), .val (.int v8_116), .unset, .unset] [(.ref b2)]))
          refine own_to (fun _ kz => XS.iconst X142.here hx rfl (hb hby at_156) kz) ?_
          show own_Fin p e below G (T142.setTop (mkF m 157 #[.val (.long x0), .second, .val (.long x1), .second, .val (.int p2), .val (.int p3), .val (.ref b2), .val (.int v7_116), .val (.int v8_116), .unset, .unset] [(.int (2 : Int32)), (.ref b2)]))
          refine own_to (fun _ kz => XS.iload X142.here hx rfl (hb hby at_157) rfl  kz) ?_
          show own_Fin p e below G (T142.setTop (mkF m 159 #[.val (.long x0), .second, .val (.long x1), .second, .val (.int p2), .val (.int p3), .val (.ref b2), .val (.int v7_116), .val (.int v8_116), .unset, .unset] [(.int v7_116), (.int (2 : Int32)), (.ref b2)]))
          refine own_to (fun _ kz => XS.iload X142.here hx rfl (hb hby at_159) rfl  kz) ?_
          show own_Fin p e below G (T142.setTop (mkF m 161 #[.val (.long x0), .second, .val (.long x1), .second, .val (.int p2), .val (.int p3), .val (.ref b2), .val (.int v7_116), .val (.int v8_116), .unset, .unset] [(.int v8_116), (.int v7_116), (.int (2 : Int32)), (.ref b2)]))
          obtain ⟨_, _, ⟨T161, L161, k161, n161⟩, -, X161, ⟨Lc161, hQ161, l161, y161, z161⟩, st161⟩ := Jvm.LawKit.callS X142 hx (y := (⟨"com/example/resync/resync/codec/DelimiterIndexOfByPairsPinLaw", "at", "([BIII)Z"⟩ : MethodName)) hown (mvT hZ (hw _ (List.mem_of_getElem? (i := 6) rfl))) (mvT hZ (hw _ (List.mem_of_getElem? (i := 7) rfl))) (mvT hZ (hw _ (List.mem_of_getElem? (i := 3) rfl))) (mvT hZ (hw _ (List.mem_of_getElem? (i := 8) rfl))) (by decide) (backOf (W := 0) (rm2 l Z a0 hw [] b2 (2 : Int32) v7_116 v8_116 bs h89 n0 Z_123 Vb89 (by decide) (by decide) (by decide) (by decide)) hZ (hw _ (List.mem_of_getElem? (i := 8) rfl)) (hw _ (List.mem_of_getElem? (i := 3) rfl)) (by decide) (by decide)) (g := (mkF m 161 #[.val (.long x0), .second, .val (.long x1), .second, .val (.int p2), .val (.int p3), .val (.ref b2), .val (.int v7_116), .val (.int v8_116), .unset, .unset] [(.int v8_116), (.int v7_116), (.int (2 : Int32)), (.ref b2)])) rfl (by rw [hml]; rfl) (argsL := [(.ref b2), (.int (2 : Int32)), (.int v7_116), (.int v8_116)]) (rest := []) (lenOf own_pd1 rfl) rfl (by show 2 * 0 + _ ≤ _; exact Nat.le_of_eq rfl) (hb hby at_161) (fun _ _ => ⟨rfl, e142, (by decide : 1 + 0 ≤ _), (by decide : 8 + 0 ≤ _)⟩)
          dsimp only [Pt.U, Pt.locs, Pt.cells, Pt.slots] at X161 l161 y161 z161 st161 hQ161
          subst l161 y161 z161
          obtain ⟨rfl, N161q, e161⟩ := hQ161
          obtain ⟨lo161, X161, N161⟩ : ∃ lo, Stand p l e _ s m _ below meth c T161 lo _ _ ∧ Fr n0 lo := ⟨_, X161, Fr.app N142 N161q⟩
          refine own_to st161 ?_
          show own_Fin p e below G (T161.setTop (mkF m 164 #[.val (.long x0), .second, .val (.long x1), .second, .val (.int p2), .val (.int p3), .val (.ref b2), .val (.int v7_116), .val (.int v8_116), .unset, .unset] [(.int (f2 (2 : Int32) v7_116 v8_116 bs))]))
          by_cases hc164 : (f2 (2 : Int32) v7_116 v8_116 bs) = (0 : Int32)
          · refine own_to (fun _ kz => XS.ifYes X161.here hx rfl (pc0 := 164) (pc' := 173) rfl (hb hby at_164) rfl ((if0 _ _).trans (teq hc164).1) (by decide) (by decide) kz) ?_
            show own_Fin p e below G (T161.setTop (mkF m 173 #[.val (.long x0), .second, .val (.long x1), .second, .val (.int p2), .val (.int p3), .val (.ref b2), .val (.int v7_116), .val (.int v8_116), .unset, .unset] []))
            refine own_to (fun _ kz => XS.aload X161.here hx rfl (hb hby at_173) rfl (rfl)  kz) ?_
            show own_Fin p e below G (T161.setTop (mkF m 175 #[.val (.long x0), .second, .val (.long x1), .second, .val (.int p2), .val (.int p3), .val (.ref b2), .val (.int v7_116), .val (.int v8_116), .unset, .unset] [(.ref b2)]))
            refine own_to (fun _ kz => XS.iconst X161.here hx rfl (hb hby at_175) kz) ?_
            show own_Fin p e below G (T161.setTop (mkF m 176 #[.val (.long x0), .second, .val (.long x1), .second, .val (.int p2), .val (.int p3), .val (.ref b2), .val (.int v7_116), .val (.int v8_116), .unset, .unset] [(.int (3 : Int32)), (.ref b2)]))
            refine own_to (fun _ kz => XS.iload X161.here hx rfl (hb hby at_176) rfl  kz) ?_
            show own_Fin p e below G (T161.setTop (mkF m 178 #[.val (.long x0), .second, .val (.long x1), .second, .val (.int p2), .val (.int p3), .val (.ref b2), .val (.int v7_116), .val (.int v8_116), .unset, .unset] [(.int v7_116), (.int (3 : Int32)), (.ref b2)]))
            refine own_to (fun _ kz => XS.iload X161.here hx rfl (hb hby at_178) rfl  kz) ?_
            show own_Fin p e below G (T161.setTop (mkF m 180 #[.val (.long x0), .second, .val (.long x1), .second, .val (.int p2), .val (.int p3), .val (.ref b2), .val (.int v7_116), .val (.int v8_116), .unset, .unset] [(.int v8_116), (.int v7_116), (.int (3 : Int32)), (.ref b2)]))
            obtain ⟨_, _, ⟨T180, L180, k180, n180⟩, -, X180, ⟨Lc180, hQ180, l180, y180, z180⟩, st180⟩ := Jvm.LawKit.callS X161 hx (y := (⟨"com/example/resync/resync/codec/DelimiterIndexOfByPairsPinLaw", "at", "([BIII)Z"⟩ : MethodName)) hown (mvT hZ (hw _ (List.mem_of_getElem? (i := 6) rfl))) (mvT hZ (hw _ (List.mem_of_getElem? (i := 7) rfl))) (mvT hZ (hw _ (List.mem_of_getElem? (i := 3) rfl))) (mvT hZ (hw _ (List.mem_of_getElem? (i := 8) rfl))) (by decide) (backOf (W := 0) (rm2 l Z a0 hw [] b2 (3 : Int32) v7_116 v8_116 bs h89 n0 Z_123 Vb89 (by decide) (by decide) (by decide) (by decide)) hZ (hw _ (List.mem_of_getElem? (i := 8) rfl)) (hw _ (List.mem_of_getElem? (i := 3) rfl)) (by decide) (by decide)) (g := (mkF m 180 #[.val (.long x0), .second, .val (.long x1), .second, .val (.int p2), .val (.int p3), .val (.ref b2), .val (.int v7_116), .val (.int v8_116), .unset, .unset] [(.int v8_116), (.int v7_116), (.int (3 : Int32)), (.ref b2)])) rfl (by rw [hml]; rfl) (argsL := [(.ref b2), (.int (3 : Int32)), (.int v7_116), (.int v8_116)]) (rest := []) (lenOf own_pd1 rfl) rfl (by show 2 * 0 + _ ≤ _; exact Nat.le_of_eq rfl) (hb hby at_180) (fun _ _ => ⟨rfl, e161, (by decide : 1 + 0 ≤ _), (by decide : 8 + 0 ≤ _)⟩)
            dsimp only [Pt.U, Pt.locs, Pt.cells, Pt.slots] at X180 l180 y180 z180 st180 hQ180
            subst l180 y180 z180
            obtain ⟨rfl, N180q, e180⟩ := hQ180
            obtain ⟨lo180, X180, N180⟩ : ∃ lo, Stand p l e _ s m _ below meth c T180 lo _ _ ∧ Fr n0 lo := ⟨_, X180, Fr.app N161 N180q⟩
            refine own_to st180 ?_
            show own_Fin p e below G (T180.setTop (mkF m 183 #[.val (.long x0), .second, .val (.long x1), .second, .val (.int p2), .val (.int p3), .val (.ref b2), .val (.int v7_116), .val (.int v8_116), .unset, .unset] [(.int (f2 (3 : Int32) v7_116 v8_116 bs))]))
            by_cases hc183 : (f2 (3 : Int32) v7_116 v8_116 bs) = (0 : Int32)
            · refine own_to (fun _ kz => XS.ifYes X180.here hx rfl (pc0 := 183) (pc' := 192) rfl (hb hby at_183) rfl ((if0 _ _).trans (teq hc183).1) (by decide) (by decide) kz) ?_
              show own_Fin p e below G (T180.setTop (mkF m 192 #[.val (.long x0), .second, .val (.long x1), .second, .val (.int p2), .val (.int p3), .val (.ref b2), .val (.int v7_116), .val (.int v8_116), .unset, .unset] []))
              refine own_to (fun _ kz => XS.aload X180.here hx rfl (hb hby at_192) rfl (rfl)  kz) ?_
              show own_Fin p e below G (T180.setTop (mkF m 194 #[.val (.long x0), .second, .val (.long x1), .second, .val (.int p2), .val (.int p3), .val (.ref b2), .val (.int v7_116), .val (.int v8_116), .unset, .unset] [(.ref b2)]))
              refine own_to (fun _ kz => XS.iconst X180.here hx rfl (hb hby at_194) kz) ?_
              show own_Fin p e below G (T180.setTop (mkF m 195 #[.val (.long x0), .second, .val (.long x1), .second, .val (.int p2), .val (.int p3), .val (.ref b2), .val (.int v7_116), .val (.int v8_116), .unset, .unset] [(.int (4 : Int32)), (.ref b2)]))
              refine own_to (fun _ kz => XS.iload X180.here hx rfl (hb hby at_195) rfl  kz) ?_
              show own_Fin p e below G (T180.setTop (mkF m 197 #[.val (.long x0), .second, .val (.long x1), .second, .val (.int p2), .val (.int p3), .val (.ref b2), .val (.int v7_116), .val (.int v8_116), .unset, .unset] [(.int v7_116), (.int (4 : Int32)), (.ref b2)]))
              refine own_to (fun _ kz => XS.iload X180.here hx rfl (hb hby at_197) rfl  kz) ?_
              show own_Fin p e below G (T180.setTop (mkF m 199 #[.val (.long x0), .second, .val (.long x1), .second, .val (.int p2), .val (.int p3), .val (.ref b2), .val (.int v7_116), .val (.int v8_116), .unset, .unset] [(.int v8_116), (.int v7_116), (.int (4 : Int32)), (.ref b2)]))
              obtain ⟨_, _, ⟨T199, L199, k199, n199⟩, -, X199, ⟨Lc199, hQ199, l199, y199, z199⟩, st199⟩ := Jvm.LawKit.callS X180 hx (y := (⟨"com/example/resync/resync/codec/DelimiterIndexOfByPairsPinLaw", "at", "([BIII)Z"⟩ : MethodName)) hown (mvT hZ (hw _ (List.mem_of_getElem? (i := 6) rfl))) (mvT hZ (hw _ (List.mem_of_getElem? (i := 7) rfl))) (mvT hZ (hw _ (List.mem_of_getElem? (i := 3) rfl))) (mvT hZ (hw _ (List.mem_of_getElem? (i := 8) rfl))) (by decide) (backOf (W := 0) (rm2 l Z a0 hw [] b2 (4 : Int32) v7_116 v8_116 bs h89 n0 Z_123 Vb89 (by decide) (by decide) (by decide) (by decide)) hZ (hw _ (List.mem_of_getElem? (i := 8) rfl)) (hw _ (List.mem_of_getElem? (i := 3) rfl)) (by decide) (by decide)) (g := (mkF m 199 #[.val (.long x0), .second, .val (.long x1), .second, .val (.int p2), .val (.int p3), .val (.ref b2), .val (.int v7_116), .val (.int v8_116), .unset, .unset] [(.int v8_116), (.int v7_116), (.int (4 : Int32)), (.ref b2)])) rfl (by rw [hml]; rfl) (argsL := [(.ref b2), (.int (4 : Int32)), (.int v7_116), (.int v8_116)]) (rest := []) (lenOf own_pd1 rfl) rfl (by show 2 * 0 + _ ≤ _; exact Nat.le_of_eq rfl) (hb hby at_199) (fun _ _ => ⟨rfl, e180, (by decide : 1 + 0 ≤ _), (by decide : 8 + 0 ≤ _)⟩)
              dsimp only [Pt.U, Pt.locs, Pt.cells, Pt.slots] at X199 l199 y199 z199 st199 hQ199
              subst l199 y199 z199
              obtain ⟨rfl, N199q, e199⟩ := hQ199
              obtain ⟨lo199, X199, N199⟩ : ∃ lo, Stand p l e _ s m _ below meth c T199 lo _ _ ∧ Fr n0 lo := ⟨_, X199, Fr.app N180 N199q⟩
              refine own_to st199 ?_
              show own_Fin p e below G (T199.setTop (mkF m 202 #[.val (.long x0), .second, .val (.long x1), .second, .val (.int p2), .val (.int p3), .val (.ref b2), .val (.int v7_116), .val (.int v8_116), .unset, .unset] [(.int (f2 (4 : Int32) v7_116 v8_116 bs))]))
              by_cases hc202 : (f2 (4 : Int32) v7_116 v8_116 bs) = (0 : Int32)
              · refine own_to (fun _ kz => XS.ifYes X199.here hx rfl (pc0 := 202) (pc' := 211) rfl (hb hby at_202) rfl ((if0 _ _).trans (teq hc202).1) (by decide) (by decide) kz) ?_
                show own_Fin p e below G (T199.setTop (mkF m 211 #[.val (.long x0), .second, .val (.long x1), .second, .val (.int p2), .val (.int p3), .val (.ref b2), .val (.int v7_116), .val (.int v8_116), .unset, .unset] []))
                refine own_to (fun _ kz => XS.aload X199.here hx rfl (hb hby at_211) rfl (rfl)  kz) ?_
                show own_Fin p e below G (T199.setTop (mkF m 213 #[.val (.long x0), .second, .val (.long x1), .second, .val (.int p2), .val (.int p3), .val (.ref b2), .val (.int v7_116), .val (.int v8_116), .unset, .unset] [(.ref b2)]))
                refine own_to (fun _ kz => XS.iconst X199.here hx rfl (hb hby at_213) kz) ?_
                show own_Fin p e below G (T199.setTop (mkF m 214 #[.val (.long x0), .second, .val (.long x1), .second, .val (.int p2), .val (.int p3), .val (.ref b2), .val (.int v7_116), .val (.int v8_116), .unset, .unset] [(.int (5 : Int32)), (.ref b2)]))
                refine own_to (fun _ kz => XS.iload X199.here hx rfl (hb hby at_214) rfl  kz) ?_
                show own_Fin p e below G (T199.setTop (mkF m 216 #[.val (.long x0), .second, .val (.long x1), .second, .val (.int p2), .val (.int p3), .val (.ref b2), .val (.int v7_116), .val (.int v8_116), .unset, .unset] [(.int v7_116), (.int (5 : Int32)), (.ref b2)]))
                refine own_to (fun _ kz => XS.iload X199.here hx rfl (hb hby at_216) rfl  kz) ?_
                show own_Fin p e below G (T199.setTop (mkF m 218 #[.val (.long x0), .second, .val (.long x1), .second, .val (.int p2), .val (.int p3), .val (.ref b2), .val (.int v7_116), .val (.int v8_116), .unset, .unset] [(.int v8_116), (.int v7_116), (.int (5 : Int32)), (.ref b2)]))
                obtain ⟨_, _, ⟨T218, L218, k218, n218⟩, -, X218, ⟨Lc218, hQ218, l218, y218, z218⟩, st218⟩ := Jvm.LawKit.callS X199 hx (y := (⟨"com/example/resync/resync/codec/DelimiterIndexOfByPairsPinLaw", "at", "([BIII)Z"⟩ : MethodName)) hown (mvT hZ (hw _ (List.mem_of_getElem? (i := 6) rfl))) (mvT hZ (hw _ (List.mem_of_getElem? (i := 7) rfl))) (mvT hZ (hw _ (List.mem_of_getElem? (i := 3) rfl))) (mvT hZ (hw _ (List.mem_of_getElem? (i := 8) rfl))) (by decide) (backOf (W := 0) (rm2 l Z a0 hw [] b2 (5 : Int32) v7_116 v8_116 bs h89 n0 Z_123 Vb89 (by decide) (by decide) (by decide) (by decide)) hZ (hw _ (List.mem_of_getElem? (i := 8) rfl)) (hw _ (List.mem_of_getElem? (i := 3) rfl)) (by decide) (by decide)) (g := (mkF m 218 #[.val (.long x0), .second, .val (.long x1), .second, .val (.int p2), .val (.int p3), .val (.ref b2), .val (.int v7_116), .val (.int v8_116), .unset, .unset] [(.int v8_116), (.int v7_116), (.int (5 : Int32)), (.ref b2)])) rfl (by rw [hml]; rfl) (argsL := [(.ref b2), (.int (5 : Int32)), (.int v7_116), (.int v8_116)]) (rest := []) (lenOf own_pd1 rfl) rfl (by show 2 * 0 + _ ≤ _; exact Nat.le_of_eq rfl) (hb hby at_218) (fun _ _ => ⟨rfl, e199, (by decide : 1 + 0 ≤ _), (by decide : 8 + 0 ≤ _)⟩)
                dsimp only [Pt.U, Pt.locs, Pt.cells, Pt.slots] at X218 l218 y218 z218 st218 hQ218
                subst l218 y218 z218
                obtain ⟨rfl, N218q, e218⟩ := hQ218
                obtain ⟨lo218, X218, N218⟩ : ∃ lo, Stand p l e _ s m _ below meth c T218 lo _ _ ∧ Fr n0 lo := ⟨_, X218, Fr.app N199 N218q⟩
                refine own_to st218 ?_
                show own_Fin p e below G (T218.setTop (mkF m 221 #[.val (.long x0), .second, .val (.long x1), .second, .val (.int p2), .val (.int p3), .val (.ref b2), .val (.int v7_116), .val (.int v8_116), .unset, .unset] [(.int (f2 (5 : Int32) v7_116 v8_116 bs))]))
                by_cases hc221 : (f2 (5 : Int32) v7_116 v8_116 bs) = (0 : Int32)
                · refine own_to (fun _ kz => XS.ifYes X218.here hx rfl (pc0 := 221) (pc' := 230) rfl (hb hby at_221) rfl ((if0 _ _).trans (teq hc221).1) (by decide) (by decide) kz) ?_
                  show own_Fin p e below G (T218.setTop (mkF m 230 #[.val (.long x0), .second, .val (.long x1), .second, .val (.int p2), .val (.int p3), .val (.ref b2), .val (.int v7_116), .val (.int v8_116), .unset, .unset] []))
                  refine own_to (fun _ kz => XS.aload X218.here hx rfl (hb hby at_230) rfl (rfl)  kz) ?_
                  show own_Fin p e below G (T218.setTop (mkF m 232 #[.val (.long x0), .second, .val (.long x1), .second, .val (.int p2), .val (.int p3), .val (.ref b2), .val (.int v7_116), .val (.int v8_116), .unset, .unset] [(.ref b2)]))
                  refine own_to (fun _ kz => XS.bipush X218.here hx rfl (hb hby at_232) kz) ?_
                  show own_Fin p e below G (T218.setTop (mkF m 234 #[.val (.long x0), .second, .val (.long x1), .second, .val (.int p2), .val (.int p3), .val (.ref b2), .val (.int v7_116), .val (.int v8_116), .unset, .unset] [(.int (6 : Int32)), (.ref b2)]))
                  refine own_to (fun _ kz => XS.iload X218.here hx rfl (hb hby at_234) rfl  kz) ?_
                  show own_Fin p e below G (T218.setTop (mkF m 236 #[.val (.long x0), .second, .val (.long x1), .second, .val (.int p2), .val (.int p3), .val (.ref b2), .val (.int v7_116), .val (.int v8_116), .unset, .unset] [(.int v7_116), (.int (6 : Int32)), (.ref b2)]))
                  refine own_to (fun _ kz => XS.iload X218.here hx rfl (hb hby at_236) rfl  kz) ?_
                  show own_Fin p e below G (T218.setTop (mkF m 238 #[.val (.long x0), .second, .val (.long x1), .second, .val (.int p2), .val (.int p3), .val (.ref b2), .val (.int v7_116), .val (.int v8_116), .unset, .unset] [(.int v8_116), (.int v7_116), (.int (6 : Int32)), (.ref b2)]))
                  obtain ⟨_, _, ⟨T238, L238, k238, n238⟩, -, X238, ⟨Lc238, hQ238, l238, y238, z238⟩, st238⟩ := Jvm.LawKit.callS X218 hx (y := (⟨"com/example/resync/resync/codec/DelimiterIndexOfByPairsPinLaw", "at", "([BIII)Z"⟩ : MethodName)) hown (mvT hZ (hw _ (List.mem_of_getElem? (i := 6) rfl))) (mvT hZ (hw _ (List.mem_of_getElem? (i := 7) rfl))) (mvT hZ (hw _ (List.mem_of_getElem? (i := 3) rfl))) (mvT hZ (hw _ (List.mem_of_getElem? (i := 8) rfl))) (by decide) (backOf (W := 0) (rm2 l Z a0 hw [] b2 (6 : Int32) v7_116 v8_116 bs h89 n0 Z_123 Vb89 (by decide) (by decide) (by decide) (by decide)) hZ (hw _ (List.mem_of_getElem? (i := 8) rfl)) (hw _ (List.mem_of_getElem? (i := 3) rfl)) (by decide) (by decide)) (g := (mkF m 238 #[.val (.long x0), .second, .val (.long x1), .second, .val (.int p2), .val (.int p3), .val (.ref b2), .val (.int v7_116), .val (.int v8_116), .unset, .unset] [(.int v8_116), (.int v7_116), (.int (6 : Int32)), (.ref b2)])) rfl (by rw [hml]; rfl) (argsL := [(.ref b2), (.int (6 : Int32)), (.int v7_116), (.int v8_116)]) (rest := []) (lenOf own_pd1 rfl) rfl (by show 2 * 0 + _ ≤ _; exact Nat.le_of_eq rfl) (hb hby at_238) (fun _ _ => ⟨rfl, e218, (by decide : 1 + 0 ≤ _), (by decide : 8 + 0 ≤ _)⟩)
                  dsimp only [Pt.U, Pt.locs, Pt.cells, Pt.slots] at X238 l238 y238 z238 st238 hQ238
                  subst l238 y238 z238
                  obtain ⟨rfl, N238q, e238⟩ := hQ238
                  obtain ⟨lo238, X238, N238⟩ : ∃ lo, Stand p l e _ s m _ below meth c T238 lo _ _ ∧ Fr n0 lo := ⟨_, X238, Fr.app N218 N238q⟩
                  refine own_to st238 ?_
                  show own_Fin p e below G (T238.setTop (mkF m 241 #[.val (.long x0), .second, .val (.long x1), .second, .val (.int p2), .val (.int p3), .val (.ref b2), .val (.int v7_116), .val (.int v8_116), .unset, .unset] [(.int (f2 (6 : Int32) v7_116 v8_116 bs))]))
                  by_cases hc241 : (f2 (6 : Int32) v7_116 v8_116 bs) = (0 : Int32)
                  · refine own_to (fun _ kz => XS.ifYes X238.here hx rfl (pc0 := 241) (pc' := 251) rfl (hb hby at_241) rfl ((if0 _ _).trans (teq hc241).1) (by decide) (by decide) kz) ?_
                    show own_Fin p e below G (T238.setTop (mkF m 251 #[.val (.long x0), .second, .val (.long x1), .second, .val (.int p2), .val (.int p3), .val (.ref b2), .val (.int v7_116), .val (.int v8_116), .unset, .unset] []))
                    refine own_to (fun _ kz => XS.iconst X238.here hx rfl (hb hby at_251) kz) ?_
                    show own_Fin p e below G (T238.setTop (mkF m 252 #[.val (.long x0), .second, .val (.long x1), .second, .val (.int p2), .val (.int p3), .val (.ref b2), .val (.int v7_116), .val (.int v8_116), .unset, .unset] [(.int (-1 : Int32))]))
                    refine own_to (fun _ kz => XS.istore X238.here hx rfl (hb hby at_252) rfl (l' := #[.val (.long x0), .second, .val (.long x1), .second, .val (.int p2), .val (.int p3), .val (.ref b2), .val (.int v7_116), .val (.int v8_116), .val (.int (-1 : Int32)), .unset]) rfl kz) ?_
                    show own_Fin p e below G (T238.setTop (mkF m 254 #[.val (.long x0), .second, .val (.long x1), .second, .val (.int p2), .val (.int p3), .val (.ref b2), .val (.int v7_116), .val (.int v8_116), .val (.int (-1 : Int32)), .unset] []))
                    exact K254 (-1 : Int32) _ _ N238 X238 e238 (own_hit7 jh0_116 hc126 hc145 hc164 hc183 hc202 hc221 hc241)
                  · refine own_to (fun _ kz => XS.ifNo X238.here hx rfl (hb hby at_241) rfl ((if0 _ _).trans (feq hc241).1) kz) ?_
                    show own_Fin p e below G (T238.setTop (mkF m 244 #[.val (.long x0), .second, .val (.long x1), .second, .val (.int p2), .val (.int p3), .val (.ref b2), .val (.int v7_116), .val (.int v8_116), .unset, .unset] []))
                    refine own_to (fun _ kz => XS.bipush X238.here hx rfl (hb hby at_244) kz) ?_
                    show own_Fin p e below G (T238.setTop (mkF m 246 #[.val (.long x0), .second, .val (.long x1), .second, .val (.int p2), .val (.int p3), .val (.ref b2), .val (.int v7_116), .val (.int v8_116), .unset, .unset] [(.int (6 : Int32))]))
                    refine own_to (fun _ kz => XS.istore X238.here hx rfl (hb hby at_246) rfl (l' := #[.val (.long x0), .second, .val (.long x1), .second, .val (.int p2), .val (.int p3), .val (.ref b2), .val (.int v7_116), .val (.int v8_116), .val (.int (6 : Int32)), .unset]) rfl kz) ?_
                    show own_Fin p e below G (T238.setTop (mkF m 248 #[.val (.long x0), .second, .val (.long x1), .second, .val (.int p2), .val (.int p3), .val (.ref b2), .val (.int v7_116), .val (.int v8_116), .val (.int (6 : Int32)), .unset] []))
                    refine own_to (fun _ kz => XS.goto X238.here hx rfl (pc0 := 248) (pc' := 254) rfl (hb hby at_248) (by decide) (by decide) kz) ?_
                    show own_Fin p e below G (T238.setTop (mkF m 254 #[.val (.long x0), .second, .val (.long x1), .second, .val (.int p2), .val (.int p3), .val (.ref b2), .val (.int v7_116), .val (.int v8_116), .val (.int (6 : Int32)), .unset] []))
                    exact K254 (6 : Int32) _ _ N238 X238 e238 (own_hit6 jh0_116 hc126 hc145 hc164 hc183 hc202 hc221 hc241)
                · refine own_to (fun _ kz => XS.ifNo X218.here hx rfl (hb hby at_221) rfl ((if0 _ _).trans (feq hc221).1) kz) ?_
                  show own_Fin p e below G (T218.setTop (mkF m 224 #[.val (.long x0), .second, .val (.long x1), .second, .val (.int p2), .val (.int p3), .val (.ref b2), .val (.int v7_116), .val (.int v8_116), .unset, .unset] []))
                  refine own_to (fun _ kz => XS.iconst X218.here hx rfl (hb hby at_224) kz) ?_
                  show own_Fin p e below G (T218.setTop (mkF m 225 #[.val (.long x0), .second, .val (.long x1), .second, .val (.int p2), .val (.int p3), .val (.ref b2), .val (.int v7_116), .val (.int v8_116), .unset, .unset] [(.int (5 : Int32))]))
                  refine own_to (fun _ kz => XS.istore X218.here hx rfl (hb hby at_225) rfl (l' := #[.val (.long x0), .second, .val (.long x1), .second, .val (.int p2), .val (.int p3), .val (.ref b2), .val (.int v7_116), .val (.int v8_116), .val (.int (5 : Int32)), .unset]) rfl kz) ?_
                  show own_Fin p e below G (T218.setTop (mkF m 227 #[.val (.long x0), .second, .val (.long x1), .second, .val (.int p2), .val (.int p3), .val (.ref b2), .val (.int v7_116), .val (.int v8_116), .val (.int (5 : Int32)), .unset] []))
                  refine own_to (fun _ kz => XS.goto X218.here hx rfl (pc0 := 227) (pc' := 254) rfl (hb hby at_227) (by decide) (by decide) kz) ?_
                  show own_Fin p e below G (T218.setTop (mkF m 254 #[.val (.long x0), .second, .val (.long x1), .second, .val (.int p2), .val (.int p3), .val (.ref b2), .val (.int v7_116), .val (.int v8_116), .val (.int (5 : Int32)), .unset] []))
                  exact K254 (5 : Int32) _ _ N218 X218 e218 (own_hit5 jh0_116 hc126 hc145 hc164 hc183 hc202 hc221)
              · refine own_to (fun _ kz => XS.ifNo X199.here hx rfl (hb hby at_202) rfl ((if0 _ _).trans (feq hc202).1) kz) ?_
                show own_Fin p e below G (T199.setTop (mkF m 205 #[.val (.long x0), .second, .val (.long x1), .second, .val (.int p2), .val (.int p3), .val (.ref b2), .val (.int v7_116), .val (.int v8_116), .unset, .unset] []))
                refine own_to (fun _ kz => XS.iconst X199.here hx rfl (hb hby at_205) kz) ?_
                show own_Fin p e below G (T199.setTop (mkF m 206 #[.val (.long x0), .second, .val (.long x1), .second, .val (.int p2), .val (.int p3), .val (.ref b2), .val (.int v7_116), .val (.int v8_116), .unset, .unset] [(.int (4 : Int32))]))
                refine own_to (fun _ kz => XS.istore X199.here hx rfl (hb hby at_206) rfl (l' := #[.val (.long x0), .second, .val (.long x1), .second, .val (.int p2), .val (.int p3), .val (.ref b2), .val (.int v7_116), .val (.int v8_116), .val (.int (4 : Int32)), .unset]) rfl kz) ?_
                show own_Fin p e below G (T199.setTop (mkF m 208 #[.val (.long x0), .second, .val (.long x1), .second, .val (.int p2), .val (.int p3), .val (.ref b2), .val (.int v7_116), .val (.int v8_116), .val (.int (4 : Int32)), .unset] []))
                refine own_to (fun _ kz => XS.goto X199.here hx rfl (pc0 := 208) (pc' := 254) rfl (hb hby at_208) (by decide) (by decide) kz) ?_
                show own_Fin p e below G (T199.setTop (mkF m 254 #[.val (.long x0), .second, .val (.long x1), .second, .val (.int p2), .val (.int p3), .val (.ref b2), .val (.int v7_116), .val (.int v8_116), .val (.int (4 : Int32)), .unset] []))
                exact K254 (4 : Int32) _ _ N199 X199 e199 (own_hit4 jh0_116 hc126 hc145 hc164 hc183 hc202)
            · refine own_to (fun _ kz => XS.ifNo X180.here hx rfl (hb hby at_183) rfl ((if0 _ _).trans (feq hc183).1) kz) ?_
              show own_Fin p e below G (T180.setTop (mkF m 186 #[.val (.long x0), .second, .val (.long x1), .second, .val (.int p2), .val (.int p3), .val (.ref b2), .val (.int v7_116), .val (.int v8_116), .unset, .unset] []))
              refine own_to (fun _ kz => XS.iconst X180.here hx rfl (hb hby at_186) kz) ?_
              show own_Fin p e below G (T180.setTop (mkF m 187 #[.val (.long x0), .second, .val (.long x1), .second, .val (.int p2), .val (.int p3), .val (.ref b2), .val (.int v7_116), .val (.int v8_116), .unset, .unset] [(.int (3 : Int32))]))
              refine own_to (fun _ kz => XS.istore X180.here hx rfl (hb hby at_187) rfl (l' := #[.val (.long x0), .second, .val (.long x1), .second, .val (.int p2), .val (.int p3), .val (.ref b2), .val (.int v7_116), .val (.int v8_116), .val (.int (3 : Int32)), .unset]) rfl kz) ?_
              show own_Fin p e below G (T180.setTop (mkF m 189 #[.val (.long x0), .second, .val (.long x1), .second, .val (.int p2), .val (.int p3), .val (.ref b2), .val (.int v7_116), .val (.int v8_116), .val (.int (3 : Int32)), .unset] []))
              refine own_to (fun _ kz => XS.goto X180.here hx rfl (pc0 := 189) (pc' := 254) rfl (hb hby at_189) (by decide) (by decide) kz) ?_
              show own_Fin p e below G (T180.setTop (mkF m 254 #[.val (.long x0), .second, .val (.long x1), .second, .val (.int p2), .val (.int p3), .val (.ref b2), .val (.int v7_116), .val (.int v8_116), .val (.int (3 : Int32)), .unset] []))
              exact K254 (3 : Int32) _ _ N180 X180 e180 (own_hit3 jh0_116 hc126 hc145 hc164 hc183)
          · refine own_to (fun _ kz => XS.ifNo X161.here hx rfl (hb hby at_164) rfl ((if0 _ _).trans (feq hc164).1) kz) ?_
            show own_Fin p e below G (T161.setTop (mkF m 167 #[.val (.long x0), .second, .val (.long x1), .second, .val (.int p2), .val (.int p3), .val (.ref b2), .val (.int v7_116), .val (.int v8_116), .unset, .unset] []))
            refine own_to (fun _ kz => XS.iconst X161.here hx rfl (hb hby at_167) kz) ?_
            show own_Fin p e below G (T161.setTop (mkF m 168 #[.val (.long x0), .second, .val (.long x1), .second, .val (.int p2), .val (.int p3), .val (.ref b2), .val (.int v7_116), .val (.int v8_116), .unset, .unset] [(.int (2 : Int32))]))
            refine own_to (fun _ kz => XS.istore X161.here hx rfl (hb hby at_168) rfl (l' := #[.val (.long x0), .second, .val (.long x1), .second, .val (.int p2), .val (.int p3), .val (.ref b2), .val (.int v7_116), .val (.int v8_116), .val (.int (2 : Int32)), .unset]) rfl kz) ?_
            show own_Fin p e below G (T161.setTop (mkF m 170 #[.val (.long x0), .second, .val (.long x1), .second, .val (.int p2), .val (.int p3), .val (.ref b2), .val (.int v7_116), .val (.int v8_116), .val (.int (2 : Int32)), .unset] []))
            refine own_to (fun _ kz => XS.goto X161.here hx rfl (pc0 := 170) (pc' := 254) rfl (hb hby at_170) (by decide) (by decide) kz) ?_
            show own_Fin p e below G (T161.setTop (mkF m 254 #[.val (.long x0), .second, .val (.long x1), .second, .val (.int p2), .val (.int p3), .val (.ref b2), .val (.int v7_116), .val (.int v8_116), .val (.int (2 : Int32)), .unset] []))
            exact K254 (2 : Int32) _ _ N161 X161 e161 (own_hit2 jh0_116 hc126 hc145 hc164)
        · refine own_to (fun _ kz => XS.ifNo X142.here hx rfl (hb hby at_145) rfl ((if0 _ _).trans (feq hc145).1) kz) ?_
          show own_Fin p e below G (T142.setTop (mkF m 148 #[.val (.long x0), .second, .val (.long x1), .second, .val (.int p2), .val (.int p3), .val (.ref b2), .val (.int v7_116), .val (.int v8_116), .unset, .unset] []))
          refine own_to (fun _ kz => XS.iconst X142.here hx rfl (hb hby at_148) kz) ?_
          show own_Fin p e below G (T142.setTop (mkF m 149 #[.val (.long x0), .second, .val (.long x1), .second, .val (.int p2), .val (.int p3), .val (.ref b2), .val (.int v7_116), .val (.int v8_116), .unset, .unset] [(.int (1 : Int32))]))
          refine own_to (fun _ kz => XS.istore X142.here hx rfl (hb hby at_149) rfl (l' := #[.val (.long x0), .second, .val (.long x1), .second, .val (.int p2), .val (.int p3), .val (.ref b2), .val (.int v7_116), .val (.int v8_116), .val (.int (1 : Int32)), .unset]) rfl kz) ?_
          show own_Fin p e below G (T142.setTop (mkF m 151 #[.val (.long x0), .second, .val (.long x1), .second, .val (.int p2), .val (.int p3), .val (.ref b2), .val (.int v7_116), .val (.int v8_116), .val (.int (1 : Int32)), .unset] []))
          refine own_to (fun _ kz => XS.goto X142.here hx rfl (pc0 := 151) (pc' := 254) rfl (hb hby at_151) (by decide) (by decide) kz) ?_
          show own_Fin p e below G (T142.setTop (mkF m 254 #[.val (.long x0), .second, .val (.long x1), .second, .val (.int p2), .val (.int p3), .val (.ref b2), .val (.int v7_116), .val (.int v8_116), .val (.int (1 : Int32)), .unset] []))
          exact K254 (1 : Int32) _ _ N142 X142 e142 (own_hit1 jh0_116 hc126 hc145)
      · refine own_to (fun _ kz => XS.ifNo X123.here hx rfl (hb hby at_126) rfl ((if0 _ _).trans (feq hc126).1) kz) ?_
        show own_Fin p e below G (T123.setTop (mkF m 129 #[.val (.long x0), .second, .val (.long x1), .second, .val (.int p2), .val (.int p3), .val (.ref b2), .val (.int v7_116), .val (.int v8_116), .unset, .unset] []))
        refine own_to (fun _ kz => XS.iconst X123.here hx rfl (hb hby at_129) kz) ?_
        show own_Fin p e below G (T123.setTop (mkF m 130 #[.val (.long x0), .second, .val (.long x1), .second, .val (.int p2), .val (.int p3), .val (.ref b2), .val (.int v7_116), .val (.int v8_116), .unset, .unset] [(.int (0 : Int32))]))
        refine own_to (fun _ kz => XS.istore X123.here hx rfl (hb hby at_130) rfl (l' := #[.val (.long x0), .second, .val (.long x1), .second, .val (.int p2), .val (.int p3), .val (.ref b2), .val (.int v7_116), .val (.int v8_116), .val (.int (0 : Int32)), .unset]) rfl kz) ?_
        show own_Fin p e below G (T123.setTop (mkF m 132 #[.val (.long x0), .second, .val (.long x1), .second, .val (.int p2), .val (.int p3), .val (.ref b2), .val (.int v7_116), .val (.int v8_116), .val (.int (0 : Int32)), .unset] []))
        refine own_to (fun _ kz => XS.goto X123.here hx rfl (pc0 := 132) (pc' := 254) rfl (hb hby at_132) (by decide) (by decide) kz) ?_
        show own_Fin p e below G (T123.setTop (mkF m 254 #[.val (.long x0), .second, .val (.long x1), .second, .val (.int p2), .val (.int p3), .val (.ref b2), .val (.int v7_116), .val (.int v8_116), .val (.int (0 : Int32)), .unset] []))
        exact K254 (0 : Int32) _ _ N123 X123 e123 (own_hit0 jh0_116 hc126)
    exact K116 v7_100 (v7_100 + ((p3 &&& (2147483647 : Int32)) % ((9 : Int32) - v7_100))) (own_ft _ jh0_100)
  exact K100 ((p2 &&& (2147483647 : Int32)) % (9 : Int32)) (own_m7 _)
set_option maxRecDepth 65536 in
set_option maxHeartbeats 40000000 in
theorem comes_1 {Post : Tables → Env → Array Value → State → Outcome → State → Prop} (hpost : ∀ tb e args s v u, (limb_1_1.after args s (.returned v) u = true ∧ limb_1_2.after args s (.returned v) u = true ∧ True) → FrameEnd s (.returned v) u (Jvm.fieldLocs frame_1_writes args s ++ Jvm.arrayLocs frame_1_arrays args s ++ Jvm.staticLocs frame_1_statics s) 16 128 → Post tb e args s (.returned v) u) :
    ArmFor flags0 classFile x code maxLocals ret World_1 tables_1 room_1 Calls_1 rest_1 Pre_1 Post := by
  intro l hfl _ _ p e ha hc hk s m args below hf hA hF happ hP
  obtain ⟨hcalls, hrest, hpre⟩ := hP
  obtain ⟨-, -, -, hnamed, -, -, -, hat⟩ := (Spec.applies_iff hf).mp happ
  obtain ⟨hg, hn⟩ := and_e (Cond.before_iff.mp (show (Jvm.Cond.and given_1 narrow_1).before args s = true from hpre))
  obtain ⟨gg1, gg2⟩ := and_e hg
  obtain ⟨gg3, gg4⟩ := and_e gg2
  obtain ⟨gg5, gg6⟩ := and_e gg4
  obtain ⟨gg7, gg8⟩ := and_e gg6
  obtain ⟨w0, w1, w2, w3, rfl⟩ : ∃ w0 w1 w2 w3 : Value, args = #[w0, w1, w2, w3] := by
    have hs : args.size = 4 := by simpa [Cond.value, given_1] using gg1
    obtain ⟨L⟩ := args
    match L, hs with
    | [w0, w1, w2, w3], _ => exact ⟨w0, w1, w2, w3, rfl⟩
  have hw := fun d (hd : d ∈ tables_1) => atoms_spec (ws := Jvm.Cond.code x code maxLocals ret :: tables_1) hat d (List.mem_cons_of_mem _ hd)
  obtain ⟨i0, ei0⟩ := isL_v gg3
  obtain rfl : w0 = (.long i0) := Option.some.inj ei0
  obtain ⟨i1, ei1⟩ := isL_v gg5
  obtain rfl : w1 = (.long i1) := Option.some.inj ei1
  obtain ⟨i2, ei2⟩ := is_v gg7
  obtain rfl : w2 = (.int i2) := Option.some.inj ei2
  obtain ⟨i3, ei3⟩ := is_v gg8
  obtain rfl : w3 = (.int i3) := Option.some.inj ei3
  obtain ⟨n, o, h1, h2, h3, v, L, rfl, ⟨hv, N, -⟩, hq⟩ := rm0 l s _ hw tables_1 i0 i1 i2 i3 s.heap s.heap.size (Nat.le_refl _) p e ha hc hk s m _ below hf ((Spec.applies_iff_loose hf).mp happ).1 ⟨rfl, State.Warmed39.refl s, rfl⟩ trivial
  obtain rfl : v = some (.int 1) := hv
  refine ⟨n, _, h1, h2, h3, hpost _ _ _ _ _ _ ⟨Cond.after_iff.mpr rfl, Cond.after_iff.mpr (eq_i res_at (Term.int_eval (1)) rfl), trivial⟩ ⟨hq.1, hq.2.1, (hq.2.2.sift fun y hy => Or.inr (N y hy)).mono (by decide) (by decide)⟩⟩
theorem main_1_1 : Claimed_1_1 := comes_1 fun _ _ _ _ _ _ h hF => ⟨h.1, hF⟩
theorem main_1_2 : Claimed_1_2 := comes_1 fun _ _ _ _ _ _ h hF => ⟨h.2.1, hF⟩
end Jvm.Pilot.@@N@@
namespace Jvm.Pilot.@@N@@
open Jvm Jvm.ClassFile Sem Op Lib Jvm.Free Jvm.Stand Jvm.Pilot.@@N@@.Jvm.D
/-! MADE BY PROGRAM (witnessworld.py) out of the Statement's table words and the real class files: 9 classes; the members and pool entries that the words name. The judged class is class 1, her method 3. -/
namespace start1
open Jvm.ClassFile
def u (s : String) : CpInfo := .utf8 (stringToUtf16 s)
/-- a pool by its gaps: so many unusable entries, then the entry; so many at the end -/
def gap : Nat → List CpInfo → List CpInfo
  | 0, r => r
  | n + 1, r => .unusable :: gap n r
def poolList (es : List (Nat × CpInfo)) (last : Nat) : List CpInfo := es.foldr (fun e r => gap e.1 (e.2 :: r)) (gap last [])
def pool (es : List (Nat × CpInfo)) (last : Nat) : Array CpInfo := ⟨poolList es last⟩
def fileOf (pool : Array CpInfo) (this : Nat) (attrs : Array Attribute := #[]) (ms : Array MethodInfo := #[]) (fl : Nat := 33) (sup : Nat := 0) (ifs : Array Nat := #[]) (fds : Array FieldInfo := #[]) : ClassFile where
  minorVersion := 0
  majorVersion := 65
  constantPool := pool
  accessFlags := fl
  thisClass := this
  superClass := sup
  interfaces := ifs
  fields := fds
  methods := ms
  attributes := attrs
def plain (name : String) (sup : Option ClassId) : Class where
  name := name
  kind := .ordinary
  loader := none
  accessFlags := 33
  super := sup
  interfaces := #[]
  cf := none
  fields := #[]
  methods := #[]
  instanceTypes := #[]
  staticTypes := #[]
  resolved := #[]
  callSites := []
  init := .initialized
  statics := none
  mirror := none

def pool0 : Array CpInfo := pool [(5, u "<init>"), (0, u "()V"), (1, .class_ 10), (1, u "java/lang/Object")] 113

def k0m0 : Method := { name := "<init>", desc := "()V", sig := { parameters := [], returnType := none }, accessFlags := 1, code := none }
/-- java/lang/Object -/
def k0 : Class := { plain "java/lang/Object" none with
  accessFlags := 33
  interfaces := #[]
  cf := some (fileOf pool0 8 #[] #[{ accessFlags := 1, nameIndex := 5, descriptorIndex := 6, attributes := #[] }] 33 0 #[] #[])
  fields := #[]
  methods := #[k0m0]
  instanceTypes := #[]
  staticTypes := #[]
  resolved := Array.replicate 124 none
  statics := none }

def pool1 : Array CpInfo := pool [(2, .class_ 4), (1, u "java/lang/Object"), (0, u "<init>"), (0, u "()V"), (0, .methodref 8 9), (0, .class_ 10), (0, .nameAndType 11 12), (0, u "com/example/resync/resync/codec/DelimiterIndexOfByPairsPinLaw"), (0, u "pick"), (0, u "(JJI)B"), (0, .integer 2147483647), (0, .methodref 8 15), (0, .nameAndType 16 17), (0, u "at"), (0, u "([BIII)Z"), (0, .methodref 19 20), (0, .class_ 21), (0, .nameAndType 22 23), (0, u "com/example/resync/resync/codec/Delimiter"), (0, u "indexOfByPairs"), (0, u "([BII)I"), (3, u "law"), (0, u "(JJII)Z")] 4

def k1m0 : Method := { name := "<init>", desc := "()V", sig := { parameters := [], returnType := none }, accessFlags := 2, code := none }
def k1c1 : Code := { maxStack := 4, maxLocals := 6, code := method_2_code, exceptionTable := #[], attributes := #[] }
def k1m1 : Method := { name := "pick", desc := "(JJI)B", sig := { parameters := [.long, .long, .int], returnType := some .byte }, accessFlags := 10, code := some k1c1 }
def k1c2 : Code := { maxStack := 3, maxLocals := 4, code := method_3_code, exceptionTable := #[], attributes := #[] }
def k1m2 : Method := { name := "at", desc := "([BIII)Z", sig := { parameters := [(.array .byte), .int, .int, .int], returnType := some .boolean }, accessFlags := 10, code := some k1c2 }
def k1c3 : Code := { maxStack := 7, maxLocals := 11, code := code, exceptionTable := #[], attributes := #[] }
def k1m3 : Method := { name := "law", desc := "(JJII)Z", sig := { parameters := [.long, .long, .int, .int], returnType := some .boolean }, accessFlags := 9, code := some k1c3 }
/-- com/example/resync/resync/codec/DelimiterIndexOfByPairsPinLaw -/
def k1 : Class := { plain "com/example/resync/resync/codec/DelimiterIndexOfByPairsPinLaw" (some 0) with
  accessFlags := 49
  interfaces := #[]
  cf := some (fileOf pool1 8 #[] #[{ accessFlags := 2, nameIndex := 5, descriptorIndex := 6, attributes := #[] }, { accessFlags := 10, nameIndex := 11, descriptorIndex := 12, attributes := #[] }, { accessFlags := 10, nameIndex := 16, descriptorIndex := 17, attributes := #[] }, { accessFlags := 9, nameIndex := 27, descriptorIndex := 28, attributes := #[] }] 49 2 #[] #[])
  fields := #[]
  methods := #[k1m0, k1m1, k1m2, k1m3]
  instanceTypes := #[]
  staticTypes := #[]
  resolved := Array.replicate 33 none
  statics := none }

def pool2 : Array CpInfo := pool [(2, .class_ 4), (1, u "java/lang/Object"), (0, u "<init>"), (0, u "()V"), (3, .class_ 12), (1, u "com/example/resync/resync/codec/Delimiter$Words"), (8, .class_ 22), (0, u "com/example/resync/resync/codec/Delimiter"), (14, u "FIRST"), (0, u "B"), (2, u "SECOND"), (1, u "LENGTH"), (0, u "I"), (1, u "SECONDS"), (0, u "J"), (0, u "LOW_BITS"), (0, u "HIGH_BITS"), (3, u "([BII)I"), (1, u "indexOfByPairs")] 7

def k2m0 : Method := { name := "<init>", desc := "()V", sig := { parameters := [], returnType := none }, accessFlags := 2, code := none }
def k2c1 : Code := { maxStack := 3, maxLocals := 4, code := prog_27_method_3_code, exceptionTable := #[], attributes := #[] }
def k2m1 : Method := { name := "indexOfByPairs", desc := "([BII)I", sig := { parameters := [(.array .byte), .int, .int], returnType := some .int }, accessFlags := 9, code := some k2c1 }
/-- com/example/resync/resync/codec/Delimiter -/
def k2 : Class := { plain "com/example/resync/resync/codec/Delimiter" (some 0) with
  accessFlags := 49
  interfaces := #[]
  cf := some (fileOf pool2 21 #[.nestMembers #[10]] #[{ accessFlags := 2, nameIndex := 5, descriptorIndex := 6, attributes := #[] }, { accessFlags := 9, nameIndex := 55, descriptorIndex := 53, attributes := #[] }] 49 2 #[] #[{ accessFlags := 25, nameIndex := 37, descriptorIndex := 38, attributes := #[] }, { accessFlags := 25, nameIndex := 41, descriptorIndex := 38, attributes := #[] }, { accessFlags := 25, nameIndex := 43, descriptorIndex := 44, attributes := #[] }, { accessFlags := 26, nameIndex := 46, descriptorIndex := 47, attributes := #[] }, { accessFlags := 26, nameIndex := 48, descriptorIndex := 47, attributes := #[] }, { accessFlags := 26, nameIndex := 49, descriptorIndex := 47, attributes := #[] }])
  fields := #[{ name := "FIRST", type := .byte, accessFlags := 25, slot := 0, constantValue := 0 }, { name := "SECOND", type := .byte, accessFlags := 25, slot := 1, constantValue := 0 }, { name := "LENGTH", type := .int, accessFlags := 25, slot := 2, constantValue := 0 }, { name := "SECONDS", type := .long, accessFlags := 26, slot := 3, constantValue := 0 }, { name := "LOW_BITS", type := .long, accessFlags := 26, slot := 4, constantValue := 0 }, { name := "HIGH_BITS", type := .long, accessFlags := 26, slot := 5, constantValue := 0 }]
  methods := #[k2m0, k2m1]
  instanceTypes := #[]
  staticTypes := #[.byte, .byte, .int, .long, .long, .long]
  resolved := Array.replicate 63 none
  statics := none }

def pool3 : Array CpInfo := pool [(1, u "java/lang/Cloneable"), (0, .class_ 1), (0, u "java/lang/Object"), (0, .class_ 3)] 3

/-- java/lang/Cloneable -/
def k3 : Class := { plain "java/lang/Cloneable" (some 0) with
  accessFlags := 1537
  interfaces := #[]
  cf := some (fileOf pool3 2 #[] #[] 1537 4 #[] #[])
  fields := #[]
  methods := #[]
  instanceTypes := #[]
  staticTypes := #[]
  resolved := Array.replicate 8 none
  statics := none }

def pool4 : Array CpInfo := pool [(1, u "java/io/Serializable"), (0, .class_ 1), (0, u "java/lang/Object"), (0, .class_ 3)] 3

/-- java/io/Serializable -/
def k4 : Class := { plain "java/io/Serializable" (some 0) with
  accessFlags := 1537
  interfaces := #[]
  cf := some (fileOf pool4 2 #[] #[] 1537 4 #[] #[])
  fields := #[]
  methods := #[]
  instanceTypes := #[]
  staticTypes := #[]
  resolved := Array.replicate 8 none
  statics := none }

/-- the primitive byte -/
def k5 : Class := { plain "byte" none with kind := .primitive 'B', accessFlags := 0x411 }
/-- [B -/
def k6 : Class := { plain "[B" (some 0) with kind := .array 5 .byte, interfaces := #[3, 4], accessFlags := 1041 }

/-- the primitive int -/
def k7 : Class := { plain "int" none with kind := .primitive 'I', accessFlags := 0x411 }
/-- [I -/
def k8 : Class := { plain "[I" (some 0) with kind := .array 7 .int, interfaces := #[3, 4], accessFlags := 1041 }

def heap : Heap := #[]
def classes : Array Class := #[k0, k1, k2, k3, k4, k5, k6, k7, k8]
def interned : List (Array UInt16 × Addr) := []
def slotsUsed : Nat := 0
def theMethod : MethodId := ⟨1, 3⟩
def args0 : Array Value := #[.long 5, .long 6, .int 3, .int 4]
def aboutOver (below : List Frame) : State where
  vm := { classes := classes, interned := interned.toArray }
  heap := heap
  slotsUsed := slotsUsed
  threads := #[{ frames := .invoking theMethod args0 :: below }]
def below0 : List Frame := [.native { method := ⟨0, 0⟩, args := #[] }]
def about1 : State := aboutOver below0
def p0 : Program := .bare "" "" ""
def e0 : Env := launch0.env 0 0 0
theorem w_frames : about1.frames = Frame.invoking theMethod args0 :: below0 := rfl
set_option maxRecDepth 65536 in
theorem w_args : argsFit about1.vm theMethod args0 = true := by decide +kernel
set_option maxRecDepth 65536 in
theorem w_heap : heapFits about1 = true := by decide +kernel
set_option maxRecDepth 65536 in
theorem w_runnable : about1.curStatus? = some .runnable := by decide +kernel
set_option maxRecDepth 65536 in
theorem w_alone : about1.alone = true := by decide +kernel
set_option maxRecDepth 65536 in
theorem w_named : about1.methodNamed? x = some theMethod := by decide +kernel
set_option maxRecDepth 65536 in
theorem w_hears : about1.hears theMethod below0 = true := by decide +kernel
set_option maxRecDepth 65536 in
theorem w_ripe : about1.ripe theMethod args0 below0 = true := by decide +kernel
theorem w_running : about1.status = .running := rfl
set_option maxRecDepth 65536 in
theorem w_room : about1.hasRoom e0.platform room_1 = true :=
  launch0.hasRoom_least _ room_1 (by decide +kernel) (by decide +kernel) (by decide +kernel) (by decide +kernel) (by decide +kernel) (by decide +kernel)
theorem allAtoms_all (ts : List Jvm.Cond) (a : Array Jvm.Value) (st : Jvm.State) : (allAtoms ts).before a st = ts.all (fun c => c.before a st) := by
  induction ts with
  | nil => rfl
  | cons c t ih =>
    show (Jvm.Cond.and c (allAtoms t)).before a st = _
    rw [Jvm.Cond.before_and, ih, List.all_cons]
def words1 : List Jvm.Cond := Jvm.Cond.code x code maxLocals ret :: tables_1
/-- a 'code' word, met by the world's own term for the bytes: nothing is compared byte by byte -/
theorem code_word {y : MethodName} {bytes : ByteArray} {mx : Nat} {rt : Option FieldType} {a : Array Value} {s : State} {m : MethodId} {meth : Method} {c : Code} (h1 : s.methodNamed? y = some m) (h2 : s.vm.method? m = some meth) (h3 : meth.code = some c) (h4 : c.code = bytes)
    (h5 : (c.maxLocals == mx && c.exceptionTable.isEmpty && decide (c.maxStack ≤ mostOperands) && decide (meth.sig.returnType = rt) && !meth.locks && decide (parseMethodDescriptor y.desc = some meth.sig)) = true) : (Jvm.Cond.code y bytes mx rt).before a s = true := by
  simp only [Bool.and_eq_true, beq_iff_eq, Bool.not_eq_true', decide_eq_true_eq] at h5
  obtain ⟨⟨⟨⟨⟨g1, g2⟩, g3⟩, g4⟩, g5⟩, g6⟩ := h5
  simp [Cond.before, Cond.holds, Cond.value, h1, h2, h3, h4, g1, g2, g3, g4, g5, g6]
def isCode : Jvm.Cond → Bool
  | .code _ _ _ _ => true
  | _ => false
theorem all_split {L : List Jvm.Cond} {P : Jvm.Cond → Bool} (h1 : L.all (fun c => isCode c || P c) = true) (h2 : ∀ c ∈ L.filter isCode, P c = true) : L.all P = true := by
  refine List.all_eq_true.mpr fun c hc => ?_
  have h := List.all_eq_true.mp h1 c hc
  rcases Bool.eq_false_or_eq_true (isCode c) with hi | hi
  · exact h2 c (List.mem_filter.mpr ⟨hc, hi⟩)
  · simpa [hi] using h
set_option maxRecDepth 65536 in
theorem w_c0 : (Jvm.Cond.code x code maxLocals ret).before args0 about1 = true := code_word (m := ⟨1, 3⟩) (meth := k1m3) (c := k1c3) (by decide +kernel) rfl rfl rfl (by decide +kernel)
set_option maxRecDepth 65536 in
theorem w_c1 : (Jvm.Cond.code ({ cls := "com/example/resync/resync/codec/DelimiterIndexOfByPairsPinLaw", name := "pick", desc := "(JJI)B" } : Jvm.MethodName) method_2_code (6 : Nat) (Option.some Jvm.ClassFile.FieldType.byte)).before args0 about1 = true := code_word (m := ⟨1, 1⟩) (meth := k1m1) (c := k1c1) (by decide +kernel) rfl rfl rfl (by decide +kernel)
set_option maxRecDepth 65536 in
theorem w_c2 : (Jvm.Cond.code ({ cls := "com/example/resync/resync/codec/DelimiterIndexOfByPairsPinLaw", name := "at", desc := "([BIII)Z" } : Jvm.MethodName) method_3_code (4 : Nat) (Option.some Jvm.ClassFile.FieldType.boolean)).before args0 about1 = true := code_word (m := ⟨1, 2⟩) (meth := k1m2) (c := k1c2) (by decide +kernel) rfl rfl rfl (by decide +kernel)
set_option maxRecDepth 65536 in
theorem w_c3 : (Jvm.Cond.code ({ cls := "com/example/resync/resync/codec/Delimiter", name := "indexOfByPairs", desc := "([BII)I" } : Jvm.MethodName) prog_27_method_3_code (4 : Nat) (Option.some Jvm.ClassFile.FieldType.int)).before args0 about1 = true := code_word (m := ⟨2, 1⟩) (meth := k2m1) (c := k2c1) (by decide +kernel) rfl rfl rfl (by decide +kernel)
def codes1 : List Jvm.Cond := [Jvm.Cond.code x code maxLocals ret, Jvm.Cond.code ({ cls := "com/example/resync/resync/codec/DelimiterIndexOfByPairsPinLaw", name := "pick", desc := "(JJI)B" } : Jvm.MethodName) method_2_code (6 : Nat) (Option.some Jvm.ClassFile.FieldType.byte), Jvm.Cond.code ({ cls := "com/example/resync/resync/codec/DelimiterIndexOfByPairsPinLaw", name := "at", desc := "([BIII)Z" } : Jvm.MethodName) method_3_code (4 : Nat) (Option.some Jvm.ClassFile.FieldType.boolean), Jvm.Cond.code ({ cls := "com/example/resync/resync/codec/Delimiter", name := "indexOfByPairs", desc := "([BII)I" } : Jvm.MethodName) prog_27_method_3_code (4 : Nat) (Option.some Jvm.ClassFile.FieldType.int)]
set_option maxRecDepth 65536 in
theorem codes_eq : words1.filter isCode = codes1 := rfl
theorem w_codes : ∀ c ∈ words1.filter isCode, c.before args0 about1 = true := by
  rw [codes_eq]
  intro c hc
  simp only [codes1, List.mem_cons, List.not_mem_nil, or_false] at hc
  rcases hc with rfl | rfl | rfl | rfl
  · exact w_c0
  · exact w_c1
  · exact w_c2
  · exact w_c3
set_option maxRecDepth 65536 in
theorem w_t1 : words1.all (fun c => isCode c || c.before args0 about1) = true := by decide +kernel
theorem w_tables : (allAtoms (Jvm.Cond.code x code maxLocals ret :: tables_1)).before args0 about1 = true := by
  rw [allAtoms_all]
  show words1.all (fun c => c.before args0 about1) = true
  refine all_split ?_ w_codes
  rw [w_t1]
set_option maxRecDepth 65536 in
theorem w_case : (Jvm.Cond.and given_1 narrow_1).before args0 about1 = true := by decide +kernel
theorem w_applies : (headSpec (Jvm.Cond.code x code maxLocals ret :: tables_1) room_1).applies x e0.platform about1 = true :=
  (Spec.applies_iff w_frames).mpr ⟨w_running, w_runnable, w_alone, w_named, w_hears, w_ripe, w_room, w_tables⟩
theorem atStart : AtStart classFile x code maxLocals ret World_1 tables_1 room_1 Calls_1 rest_1 Pre_1 launch0 p0 e0 about1 theMethod args0 below0 :=
  ⟨lists_1, trivial, launch0.admits_env _ _ _, launch0.least_env, fairChoices_fair.cas, fairChoices_fair.clock, w_frames, w_args, w_heap, w_applies, trivial, trivial, w_case⟩
end start1
theorem witness_1 : WitnessClaimed_1 := ⟨start1.p0, start1.e0, start1.about1, start1.theMethod, start1.args0, start1.below0, start1.atStart⟩
end Jvm.Pilot.@@N@@
